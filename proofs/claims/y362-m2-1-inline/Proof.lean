import JvmDerived
import JvmDerived.Pilot.@@N@@Statement
import JvmDerived.Pilot.@@N@@Code
set_option linter.unusedVariables false
set_option linter.unusedSimpArgs false
/- laws to paste: Road.backV, Road.chN, Road.codOf (cut by pick.py; bodies as the Statement names them) -/
namespace Jvm.Pilot.@@N@@
namespace StrChars
open Jvm Sem ClassFile Op Lib Jvm.Stand Jvm.Free.XT Jvm.Free.ALB Jvm.Free.JM Jvm.Free
open Jvm.Lib.Cold (StaticIs)
/-- a char array whose places are chars -/
def Ch (a : Addr) (A : Cell) (U : State) : Prop := Arr .char a A U ∧ Typed .char A
theorem Ch.mv {a : Addr} {A : Cell} {U U' : State} (h : Ch a A U) (hal : U.vm.Alike U'.vm) (hh : U'.heap = U.heap) : Ch a A U' := ⟨h.1.mv hal hh, h.2⟩
theorem Ch.keep {a : Addr} {A : Cell} {U U' : State} (h : Ch a A U) (hal : U.vm.Alike U'.vm) (hk : U'.heap[a]? = some A) : Ch a A U' := ⟨h.1.keep hal hk, h.2⟩
/-- what place i of a char[]'s cell holds -/
def cv (A : Cell) (i : Nat) : Int32 := match A.slots[i]? with | some (.int x) => x | _ => 0
theorem Ch.get {a : Addr} {A : Cell} {U : State} (h : Ch a A U) {i : Nat} (hi : i < A.slots.size) : A.slots[i]? = some (.int (cv A i)) := by
  have e := Array.getElem?_eq_getElem hi
  have f := h.2 i _ e
  unfold cv; rw [e]
  generalize A.slots[i] = v at f
  cases v <;> simp [fits] at f ⊢
/-- the byte that i2b leaves of a char -/
def lo8 (x : Int32) : Int32 := x.toInt8.toInt32
theorem fits_lo8 (y : Int32) : fits .byte (.int (lo8 y)) = true := by
  have h1 := y.toInt8.le_toInt
  have h2 := y.toInt8.toInt_lt
  simp only [lo8, fits, Bool.and_eq_true, decide_eq_true_eq, Int32.le_iff_toInt_le, Int8.toInt_toInt32, show (-128 : Int32).toInt = -128 from by decide, show (127 : Int32).toInt = 127 from by decide]
  omega
/-- A' is A but that each place j of lo .. hi - 1 holds f j -/
def Laid (A A' : Cell) (lo hi : Nat) (f : Nat → Value) : Prop := A'.cls = A.cls ∧ A'.vm = A.vm ∧ A'.slots.size = A.slots.size ∧ ∀ i, A'.slots[i]? = if lo ≤ i ∧ i < hi then some (f i) else A.slots[i]?
theorem Laid.zero (A : Cell) (lo : Nat) (f : Nat → Value) : Laid A A lo (lo + 0) f := ⟨rfl, rfl, rfl, fun i => by rw [if_neg (by omega)]⟩
theorem Laid.step {A Ak : Cell} {lo k : Nat} {f : Nat → Value} {v : Value} (h : Laid A Ak lo k f) (hlo : lo ≤ k) (hk : k < Ak.slots.size) (hv : v = f k) : Laid A (Ak.setSlot k v) lo (k + 1) f := by
  refine ⟨h.1, h.2.1, by simpa [Cell.setSlot] using h.2.2.1, fun i => ?_⟩
  by_cases e : k = i
  · subst e; rw [Cell.slots_setSlot_self v hk, if_pos (by omega), hv]
  · rw [Cell.slots_setSlot_ne v e, h.2.2.2 i]
    by_cases q : lo ≤ i ∧ i < k
    · rw [if_pos q, if_pos (by omega)]
    · rw [if_neg q, if_neg (by omega)]
def U16 : String := "java/lang/StringUTF16"
namespace Cmp5
def yN : MethodName := ⟨"java/lang/StringUTF16", "compress", "([CI[BII)I"⟩
abbrev yB : ByteArray := jdk_52_method_21_code
theorem d0 : decode yB 0 = .ok (.iconst 0, 1) := by decide +kernel
theorem d1 : decode yB 1 = .ok (.istore 5, 2) := by decide +kernel
theorem d3 : decode yB 3 = .ok (.iload 5, 2) := by decide +kernel
theorem d5 : decode yB 5 = .ok (.iload 4, 2) := by decide +kernel
theorem d7 : decode yB 7 = .ok (.if_icmp (.ge) 37, 3) := by decide +kernel
theorem d10 : decode yB 10 = .ok (.aload_n 0, 1) := by decide +kernel
theorem d11 : decode yB 11 = .ok (.iload_n 1, 1) := by decide +kernel
theorem d12 : decode yB 12 = .ok (.caload, 1) := by decide +kernel
theorem d13 : decode yB 13 = .ok (.istore 6, 2) := by decide +kernel
theorem d15 : decode yB 15 = .ok (.iload 6, 2) := by decide +kernel
theorem d17 : decode yB 17 = .ok (.sipush 255, 3) := by decide +kernel
theorem d20 : decode yB 20 = .ok (.if_icmp (.le) 6, 3) := by decide +kernel
theorem d26 : decode yB 26 = .ok (.aload_n 2, 1) := by decide +kernel
theorem d27 : decode yB 27 = .ok (.iload_n 3, 1) := by decide +kernel
theorem d28 : decode yB 28 = .ok (.iload 6, 2) := by decide +kernel
theorem d30 : decode yB 30 = .ok (.i2b, 1) := by decide +kernel
theorem d31 : decode yB 31 = .ok (.bastore, 1) := by decide +kernel
theorem d32 : decode yB 32 = .ok (.iinc 1 1, 3) := by decide +kernel
theorem d35 : decode yB 35 = .ok (.iinc 3 1, 3) := by decide +kernel
theorem d38 : decode yB 38 = .ok (.iinc 5 1, 3) := by decide +kernel
theorem d41 : decode yB 41 = .ok (.goto (-38), 3) := by decide +kernel
theorem d44 : decode yB 44 = .ok (.iload 4, 2) := by decide +kernel
theorem d46 : decode yB 46 = .ok (.ireturn, 1) := by decide +kernel
def site : List Cond := []
def tab : Cond := tabOf yN yB 7 (some .int) site
def P (b : Addr) (A : Cell) (d : Addr) (B : Cell) (o q len : Nat) (args : Array Value) (s : State) : Prop := args = #[.ref b, .int (Int32.ofNat o), .ref d, .int (Int32.ofNat q), .int (Int32.ofNat len)] ∧ Ch b A s ∧ Arr .byte d B s ∧ b ≠ d ∧ o + len ≤ A.slots.size ∧ q + len ≤ B.slots.size ∧ ∀ i, i < len → ¬ 255 < cv A (o + i)
def E (b : Addr) (A : Cell) (d : Addr) (B : Cell) (o q len : Nat) (r : Option Value) (s u : State) : Prop := r = some (.int (Int32.ofNat len)) ∧ ∃ B', Put d B' s u ∧ Laid B B' q (q + len) (fun j => Value.int (lo8 (cv A (o + (j - q)))))
/-- no char of the range above 255: len; the places written hold each char's low byte -/
theorem law (l : Launch) (b : Addr) (A : Cell) (d : Addr) (B : Cell) (o q len : Nat) : Law l yN 5 5 0 0 yB 7 (some .int) site (P b A d B o q len) (E b A d B o q len) (copyLocs d q len) 0 0 := by
  refine Law.of_walk (plainFor_of_name (by decide +kernel)) (by decide +kernel) (by decide +kernel) (by decide) (fun _ _ h => by rw [h.1]; rfl) (fun _ U U' hal hh h => ⟨h.1, h.2.1.mv hal hh, h.2.2.1.mv hal hh, h.2.2.2⟩) (fun r U U' V V' h1 hal h2 h => ⟨h.1, h.2.elim fun B' q => ⟨B', q.1.mv h1 h2, q.2⟩⟩) ?_
  intro p e s m args below meth c s₁ X0 hexec hbytes hml hret hlk hnm hown hh0 W hP
  obtain ⟨rfl, hA, hB, hne, l1, l2, hp⟩ := hP
  have c1 : Steps p.tables e below (s₁.setTop (entryFrame m #[.ref b, .int (Int32.ofNat o), .ref d, .int (Int32.ofNat q), .int (Int32.ofNat len)] 7)) (s₁.setTop (mkF m 0 #[.val (.ref b), .val (.int (Int32.ofNat o)), .val (.ref d), .val (.int (Int32.ofNat q)), .val (.int (Int32.ofNat len)), .unset, .unset] [])) := entry rfl
  have hA0 := hA.1.mv X0.warmed.alike hh0
  have hB0 := hB.mv X0.warmed.alike hh0
  have a31 := hA.1.2.2.2
  have c2 : Steps p.tables e below (s₁.setTop (entryFrame m #[.ref b, .int (Int32.ofNat o), .ref d, .int (Int32.ofNat q), .int (Int32.ofNat len)] 7)) (s₁.setTop (mkF m 3 #[.val (.ref b), .val (.int (Int32.ofNat o)), .val (.ref d), .val (.int (Int32.ofNat q)), .val (.int (Int32.ofNat len)), .val (.int 0), .unset] [])) := c1.trans (by
    refine iconstV X0.here hexec rfl 0 (hb hbytes d0) (by decide) ?_
    refine XS.istore X0.here hexec rfl (hb hbytes d1) rfl rfl ?_
    exact Steps.refl _)
  have loop : ∀ (r i : Nat), i + r = len → ∀ (z : Slot), (z = .unset ∨ ∃ w, z = .val w ∧ w.category = 1) → ∀ (Tl : State) (Bk : Cell), Stand p l e { frames := 0, locals := 0, cells := 0, slots := 0 } s m #[.ref b, .int (Int32.ofNat o), .ref d, .int (Int32.ofNat q), .int (Int32.ofNat len)] below meth c Tl ([] ++ copyLocs d q i) 0 0 → Put d Bk s₁ Tl → Laid B Bk q (q + i) (fun j => Value.int (lo8 (cv A (o + (j - q))))) →
      Steps p.tables e below (s₁.setTop (entryFrame m #[.ref b, .int (Int32.ofNat o), .ref d, .int (Int32.ofNat q), .int (Int32.ofNat len)] 7)) (Tl.setTop (mkF m 3 #[.val (.ref b), .val (.int (Int32.ofNat (o + i))), .val (.ref d), .val (.int (Int32.ofNat (q + i))), .val (.int (Int32.ofNat len)), .val (.int (Int32.ofNat i)), z] [])) → ∃ (T' : State) (B' : Cell) (z' : Slot), Stand p l e { frames := 0, locals := 0, cells := 0, slots := 0 } s m #[.ref b, .int (Int32.ofNat o), .ref d, .int (Int32.ofNat q), .int (Int32.ofNat len)] below meth c T' ([] ++ copyLocs d q len) 0 0 ∧ Put d B' s₁ T' ∧ Laid B B' q (q + len) (fun j => Value.int (lo8 (cv A (o + (j - q))))) ∧
      Steps p.tables e below (s₁.setTop (entryFrame m #[.ref b, .int (Int32.ofNat o), .ref d, .int (Int32.ofNat q), .int (Int32.ofNat len)] 7)) (T'.setTop (mkF m 3 #[.val (.ref b), .val (.int (Int32.ofNat (o + len))), .val (.ref d), .val (.int (Int32.ofNat (q + len))), .val (.int (Int32.ofNat len)), .val (.int (Int32.ofNat len)), z'] [])) := by
    intro r
    induction r with
    | zero =>
      intro i hi z hz Tl Bk Xl pl fl cl
      have hil : i = len := by omega
      rw [hil] at Xl fl cl
      exact ⟨Tl, Bk, z, Xl, pl, fl, cl⟩
    | succ r ih =>
      intro i hi z hz Tl Bk Xl pl fl cl
      have all := X0.warmed.alike.symm.trans Xl.warmed.alike
      have hAl := hA0.keep all (pl.other hne hA0.1)
      have hBk := hB0.like all pl.1 fl.1 fl.2.1 fl.2.2.1
      have hlt : q + i < Bk.slots.size := by rw [fl.2.2.1]; omega
      have c3 : Steps p.tables e below (s₁.setTop (entryFrame m #[.ref b, .int (Int32.ofNat o), .ref d, .int (Int32.ofNat q), .int (Int32.ofNat len)] 7)) (Tl.setTop (mkF m 12 #[.val (.ref b), .val (.int (Int32.ofNat (o + i))), .val (.ref d), .val (.int (Int32.ofNat (q + i))), .val (.int (Int32.ofNat len)), .val (.int (Int32.ofNat i)), z] [.int (Int32.ofNat (o + i)), .ref b])) := cl.trans (by
        refine XS.iload Xl.here hexec rfl (hb hbytes d3) rfl ?_
        refine XS.iload Xl.here hexec rfl (hb hbytes d5) rfl ?_
        refine XS.icmpNo Xl.here hexec rfl (hb hbytes d7) rfl (ii_ge_f (lt32 (by omega) (by omega))) ?_
        refine XS.aloadN Xl.here hexec rfl (hb hbytes d10) rfl rfl ?_
        refine XS.iloadN Xl.here hexec rfl (hb hbytes d11) rfl ?_
        exact Steps.refl _)
      have c4 : Steps p.tables e below (s₁.setTop (entryFrame m #[.ref b, .int (Int32.ofNat o), .ref d, .int (Int32.ofNat q), .int (Int32.ofNat len)] 7)) (Tl.setTop (mkF m 13 #[.val (.ref b), .val (.int (Int32.ofNat (o + i))), .val (.ref d), .val (.int (Int32.ofNat (q + i))), .val (.int (Int32.ofNat len)), .val (.int (Int32.ofNat i)), z] [.int (cv A (o + i))])) := c3.trans (by
        refine Xl.aget hexec hAl rfl (hA.get (i := o + i) (by omega)) rfl rfl (hb hbytes d12) ?_
        exact Steps.refl _)
      have c5 : Steps p.tables e below (s₁.setTop (entryFrame m #[.ref b, .int (Int32.ofNat o), .ref d, .int (Int32.ofNat q), .int (Int32.ofNat len)] 7)) (Tl.setTop (mkF m 15 #[.val (.ref b), .val (.int (Int32.ofNat (o + i))), .val (.ref d), .val (.int (Int32.ofNat (q + i))), .val (.int (Int32.ofNat len)), .val (.int (Int32.ofNat i)), .val (.int (cv A (o + i)))] [])) := c4.trans (by
        refine XS.istoreS Xl.here hexec rfl (hb hbytes d13) rfl rfl hz ?_
        exact Steps.refl _)
      have c6 : Steps p.tables e below (s₁.setTop (entryFrame m #[.ref b, .int (Int32.ofNat o), .ref d, .int (Int32.ofNat q), .int (Int32.ofNat len)] 7)) (Tl.setTop (mkF m 31 #[.val (.ref b), .val (.int (Int32.ofNat (o + i))), .val (.ref d), .val (.int (Int32.ofNat (q + i))), .val (.int (Int32.ofNat len)), .val (.int (Int32.ofNat i)), .val (.int (cv A (o + i)))] [.int (lo8 (cv A (o + i))), .int (Int32.ofNat (q + i)), .ref d])) := c5.trans (by
        refine XS.iload Xl.here hexec rfl (hb hbytes d15) rfl ?_
        refine sipushV Xl.here hexec rfl 255 (hb hbytes d17) (by decide) ?_
        refine XS.icmpYes Xl.here hexec rfl (pc0 := 20) rfl (hb hbytes d20) rfl (ii_le_t (hp i (by omega))) (by decide) rfl ?_
        refine XS.aloadN Xl.here hexec rfl (hb hbytes d26) rfl rfl ?_
        refine XS.iloadN Xl.here hexec rfl (hb hbytes d27) rfl ?_
        refine XS.iload Xl.here hexec rfl (hb hbytes d28) rfl ?_
        refine i2b Xl.here hexec rfl (hb hbytes d30) rfl ?_
        exact Steps.refl _)
      obtain ⟨T7, X7, p7, st7⟩ := Xl.aput hexec hBk rfl hlt rfl (fits_lo8 (cv A (o + i))) (g := (mkF m 31 #[.val (.ref b), .val (.int (Int32.ofNat (o + i))), .val (.ref d), .val (.int (Int32.ofNat (q + i))), .val (.int (Int32.ofNat len)), .val (.int (Int32.ofNat i)), .val (.int (cv A (o + i)))] [.int (lo8 (cv A (o + i))), .int (Int32.ofNat (q + i)), .ref d])) rfl (rest := []) rfl (hb hbytes d31)
      have c8 : Steps p.tables e below (s₁.setTop (entryFrame m #[.ref b, .int (Int32.ofNat o), .ref d, .int (Int32.ofNat q), .int (Int32.ofNat len)] 7)) (T7.setTop (mkF m 32 #[.val (.ref b), .val (.int (Int32.ofNat (o + i))), .val (.ref d), .val (.int (Int32.ofNat (q + i))), .val (.int (Int32.ofNat len)), .val (.int (Int32.ofNat i)), .val (.int (cv A (o + i)))] [])) := c6.trans (st7 _ (Steps.refl _))
      have c9 : Steps p.tables e below (s₁.setTop (entryFrame m #[.ref b, .int (Int32.ofNat o), .ref d, .int (Int32.ofNat q), .int (Int32.ofNat len)] 7)) (T7.setTop (mkF m 3 #[.val (.ref b), .val (.int (Int32.ofNat (o + i) + 1)), .val (.ref d), .val (.int (Int32.ofNat (q + i) + 1)), .val (.int (Int32.ofNat len)), .val (.int (Int32.ofNat i + 1)), .val (.int (cv A (o + i)))] [])) := c8.trans (by
        refine iincV X7.here hexec rfl 1 (hb hbytes d32) (by decide) rfl rfl ?_
        refine iincV X7.here hexec rfl 1 (hb hbytes d35) (by decide) rfl rfl ?_
        refine iincV X7.here hexec rfl 1 (hb hbytes d38) (by decide) rfl rfl ?_
        refine XS.goto X7.here hexec rfl (pc0 := 41) rfl (hb hbytes d41) (by decide) rfl ?_
        exact Steps.refl _)
      have c10 : Steps p.tables e below (s₁.setTop (entryFrame m #[.ref b, .int (Int32.ofNat o), .ref d, .int (Int32.ofNat q), .int (Int32.ofNat len)] 7)) (T7.setTop (mkF m 3 #[.val (.ref b), .val (.int (Int32.ofNat (o + (i + 1)))), .val (.ref d), .val (.int (Int32.ofNat (q + (i + 1)))), .val (.int (Int32.ofNat len)), .val (.int (Int32.ofNat (i + 1))), .val (.int (cv A (o + i)))] [])) := by
        have := c9
        rw [succ32, succ32, succ32] at this
        exact this
      exact ih (i + 1) (by omega) _ (Or.inr ⟨_, rfl, rfl⟩) T7 _ (by rw [copyLocs_step, ← List.append_assoc]; exact X7) (pl.trans p7) (fl.step (by omega) hlt (by simp)) c10
  obtain ⟨T9, B9, z9, X9, p9, f9, g9⟩ := loop len 0 (by omega) .unset (Or.inl rfl) s₁ B (by simpa [copyLocs] using X0) ⟨hB0.1, fun _ _ => rfl, rfl⟩ (Laid.zero _ _ _) c2
  have c11 : Steps p.tables e below (s₁.setTop (entryFrame m #[.ref b, .int (Int32.ofNat o), .ref d, .int (Int32.ofNat q), .int (Int32.ofNat len)] 7)) (T9.setTop (mkF m 46 #[.val (.ref b), .val (.int (Int32.ofNat (o + len))), .val (.ref d), .val (.int (Int32.ofNat (q + len))), .val (.int (Int32.ofNat len)), .val (.int (Int32.ofNat len)), z9] [.int (Int32.ofNat len)])) := g9.trans (by
    refine XS.iload X9.here hexec rfl (hb hbytes d3) rfl ?_
    refine XS.iload X9.here hexec rfl (hb hbytes d5) rfl ?_
    refine XS.icmpYes X9.here hexec rfl (pc0 := 7) rfl (hb hbytes d7) rfl (ii_ge_t (nlt32 (by omega) (Nat.le_refl _))) (by decide) rfl ?_
    refine XS.iload X9.here hexec rfl (hb hbytes d44) rfl ?_
    exact Steps.refl _)
  exact ⟨T9, some (.int (Int32.ofNat len)), _, _, _, X9, by simp, rfl, rfl, (fun h => by cases h), ⟨rfl, B9, p9.from hh0, f9⟩, fun fs hl => c11.trans (X9.ireturnOut hexec hret rfl (Or.inl rfl) (hb hbytes d46) hl)⟩
end Cmp5
namespace Cmp3
def yN : MethodName := ⟨"java/lang/StringUTF16", "compress", "([CII)[B"⟩
abbrev yB : ByteArray := jdk_52_method_16_code
theorem d0 : decode yB 0 = .ok (.iload_n 2, 1) := by decide +kernel
theorem d1 : decode yB 1 = .ok (.newarray .byte, 2) := by decide +kernel
theorem d3 : decode yB 3 = .ok (.astore_n 3, 1) := by decide +kernel
theorem d4 : decode yB 4 = .ok (.aload_n 0, 1) := by decide +kernel
theorem d5 : decode yB 5 = .ok (.iload_n 1, 1) := by decide +kernel
theorem d6 : decode yB 6 = .ok (.aload_n 3, 1) := by decide +kernel
theorem d7 : decode yB 7 = .ok (.iconst 0, 1) := by decide +kernel
theorem d8 : decode yB 8 = .ok (.iload_n 2, 1) := by decide +kernel
theorem d9 : decode yB 9 = .ok (.invokestatic 115, 3) := by decide +kernel
theorem d12 : decode yB 12 = .ok (.istore 4, 2) := by decide +kernel
theorem d14 : decode yB 14 = .ok (.iload 4, 2) := by decide +kernel
theorem d16 : decode yB 16 = .ok (.iload_n 2, 1) := by decide +kernel
theorem d17 : decode yB 17 = .ok (.if_icmp (.eq) 40, 3) := by decide +kernel
theorem d57 : decode yB 57 = .ok (.aload_n 3, 1) := by decide +kernel
theorem d58 : decode yB 58 = .ok (.areturn, 1) := by decide +kernel
def site : List Cond := [.arrayClass .byte, Cmp5.tab] ++ staticW U16 115 Cmp5.yN
def tab : Cond := tabOf yN yB 6 (some (.array .byte)) site
def P (b : Addr) (A : Cell) (o len : Nat) (args : Array Value) (s : State) : Prop := args = #[.ref b, .int (Int32.ofNat o), .int (Int32.ofNat len)] ∧ Ch b A s ∧ o + len ≤ A.slots.size ∧ len ≤ 536870912 ∧ ∀ i, i < len → ¬ 255 < cv A (o + i)
def E (b : Addr) (A : Cell) (o len : Nat) (r : Option Value) (s u : State) : Prop := NewArr .byte "[B" len (fun j => .int (lo8 (cv A (o + j)))) r s u ∧ u.heap.size = s.heap.size + 1
/-- no char of the range above 255: a new byte[] of their low bytes -/
theorem law (l : Launch) (b : Addr) (A : Cell) (o len : Nat) : Law l yN 3 3 1 18 yB 6 (some (.array .byte)) site (P b A o len) (E b A o len) [] 1 len := by
  refine Law.of_walk (plainFor_of_name (by decide +kernel)) (by decide +kernel) (by decide +kernel) (by decide) (fun _ _ h => by rw [h.1]; rfl) (fun _ U U' hal hh h => ⟨h.1, h.2.1.mv hal hh, h.2.2⟩) (fun r U U' V V' h1 hal h2 h => ⟨NewArr.mv r U U' V V' h1 hal h2 h.1, by rw [h1, h2]; exact h.2⟩) ?_
  intro p e s m args below meth c s₁ X0 hexec hbytes hml hret hlk hnm hown hh0 W hP
  obtain ⟨rfl, hA, l1, l2, hp⟩ := hP
  have a31 := hA.1.2.2.2
  have c1 : Steps p.tables e below (s₁.setTop (entryFrame m #[.ref b, .int (Int32.ofNat o), .int (Int32.ofNat len)] 6)) (s₁.setTop (mkF m 0 #[.val (.ref b), .val (.int (Int32.ofNat o)), .val (.int (Int32.ofNat len)), .unset, .unset, .unset] [])) := entry rfl
  have c2 : Steps p.tables e below (s₁.setTop (entryFrame m #[.ref b, .int (Int32.ofNat o), .int (Int32.ofNat len)] 6)) (s₁.setTop (mkF m 1 #[.val (.ref b), .val (.int (Int32.ofNat o)), .val (.int (Int32.ofNat len)), .unset, .unset, .unset] [.int (Int32.ofNat len)])) := c1.trans (by
    refine XS.iloadN X0.here hexec rfl (hb hbytes d0) rfl ?_
    exact Steps.refl _)
  obtain ⟨T3, B3, X3, ba3, bs3, bv3, bh3, bf3, st3⟩ := X0.anew hexec (atype := .byte) (wk W (.arrayClass .byte)) rfl (by show len * 1 ≤ _; omega) (by omega) (g := (mkF m 1 #[.val (.ref b), .val (.int (Int32.ofNat o)), .val (.int (Int32.ofNat len)), .unset, .unset, .unset] [.int (Int32.ofNat len)])) rfl (hb hbytes d1) (rest := []) rfl (Nat.le_refl _) (by show 0 + len ≤ len; omega)
  rw [hh0] at ba3 st3
  have kp3 : XT.Kept s T3 := (XT.Kept.of_eq hh0).push bh3
  have hA3 := hA.keep X3.warmed.alike (kp3 _ _ hA.1.1)
  have hne : b ≠ s.heap.size := hA.1.ne
  have c4 : Steps p.tables e below (s₁.setTop (entryFrame m #[.ref b, .int (Int32.ofNat o), .int (Int32.ofNat len)] 6)) (T3.setTop (mkF m 3 #[.val (.ref b), .val (.int (Int32.ofNat o)), .val (.int (Int32.ofNat len)), .unset, .unset, .unset] [.ref s.heap.size])) := c2.trans (st3 _ (Steps.refl _))
  have c5 : Steps p.tables e below (s₁.setTop (entryFrame m #[.ref b, .int (Int32.ofNat o), .int (Int32.ofNat len)] 6)) (T3.setTop (mkF m 9 #[.val (.ref b), .val (.int (Int32.ofNat o)), .val (.int (Int32.ofNat len)), .val (.ref s.heap.size), .unset, .unset] [.int (Int32.ofNat len), .int 0, .ref s.heap.size, .int (Int32.ofNat o), .ref b])) := c4.trans (by
    refine XS.astoreN X3.here hexec rfl (hb hbytes d3) rfl rfl rfl ?_
    refine XS.aloadN X3.here hexec rfl (hb hbytes d4) rfl rfl ?_
    refine XS.iloadN X3.here hexec rfl (hb hbytes d5) rfl ?_
    refine XS.aloadN X3.here hexec rfl (hb hbytes d6) rfl rfl ?_
    refine iconstV X3.here hexec rfl 0 (hb hbytes d7) (by decide) ?_
    refine XS.iloadN X3.here hexec rfl (hb hbytes d8) rfl ?_
    exact Steps.refl _)
  obtain ⟨v6, T6, X6, E6, g6⟩ := X3.callS hexec (Cmp5.law l b A s.heap.size B3 o 0 len) hown (wks W (staticW U16 115 Cmp5.yN)) (wk W Cmp5.tab) (W := 0) (Nat.le_of_ble_eq_true rfl) (Nat.le_of_ble_eq_true rfl) (Nat.le_refl _) (by show 0 + len + 0 ≤ len; omega) (g := (mkF m 9 #[.val (.ref b), .val (.int (Int32.ofNat o)), .val (.int (Int32.ofNat len)), .val (.ref s.heap.size), .unset, .unset] [.int (Int32.ofNat len), .int (Int32.ofNat 0), .ref s.heap.size, .int (Int32.ofNat o), .ref b])) rfl (by rw [hml]; rfl) c5 (argsL := [.ref b, .int (Int32.ofNat o), .ref s.heap.size, .int (Int32.ofNat 0), .int (Int32.ofNat len)]) (rest := []) rfl rfl (by show 2 * 0 + 0 ≤ _; decide) (hb hbytes d9) (⟨rfl, hA3, ba3, hne, l1, by rw [bs3]; simp, hp⟩)
  obtain ⟨rfl, B6, p6, f6⟩ := E6
  have c7 : Steps p.tables e below (s₁.setTop (entryFrame m #[.ref b, .int (Int32.ofNat o), .int (Int32.ofNat len)] 6)) (T6.setTop (mkF m 12 #[.val (.ref b), .val (.int (Int32.ofNat o)), .val (.int (Int32.ofNat len)), .val (.ref s.heap.size), .unset, .unset] [.int (Int32.ofNat len)])) := g6
  have c8 : Steps p.tables e below (s₁.setTop (entryFrame m #[.ref b, .int (Int32.ofNat o), .int (Int32.ofNat len)] 6)) (T6.setTop (mkF m 58 #[.val (.ref b), .val (.int (Int32.ofNat o)), .val (.int (Int32.ofNat len)), .val (.ref s.heap.size), .val (.int (Int32.ofNat len)), .unset] [.ref s.heap.size])) := c7.trans (by
    refine XS.istore X6.here hexec rfl (hb hbytes d12) rfl rfl ?_
    refine XS.iload X6.here hexec rfl (hb hbytes d14) rfl ?_
    refine XS.iloadN X6.here hexec rfl (hb hbytes d16) rfl ?_
    refine XS.icmpYes X6.here hexec rfl (pc0 := 17) rfl (hb hbytes d17) rfl (ii_eq_t rfl) (by decide) rfl ?_
    refine XS.aloadN X6.here hexec rfl (hb hbytes d57) rfl rfl ?_
    exact Steps.refl _)
  have X8 := X6.wide (L' := []) (cells' := 1) (slots' := len) (fun x hx hlt => by
    simp only [List.nil_append, copyLocs, List.mem_map, List.mem_range] at hx
    obtain ⟨i, -, rfl⟩ := hx
    exact absurd hlt (Nat.lt_irrefl _)) (Nat.le_refl _) (by omega)
  exact ⟨T6, some (.ref s.heap.size), _, _, _, X8, rfl, rfl, rfl, (fun h => by cases h), ⟨⟨rfl, B6, ba3.like (X3.warmed.alike.symm.trans X6.warmed.alike) p6.1 f6.1 f6.2.1 f6.2.2.1, f6.2.1.trans bv3, by rw [X6.warmed.alike.findClass, f6.1]; exact bf3, by rw [f6.2.2.1, bs3]; simp, fun j hj => by rw [f6.2.2.2 j, if_pos (by omega)]; rfl, kp3.put p6 (Nat.le_refl _)⟩, by rw [p6.2.2, bh3, hh0]; simp⟩, fun fs hl => c8.trans (X8.areturnOut hexec rfl hret rfl (hb hbytes d58) hl)⟩
end Cmp3
namespace CodL
def yN : MethodName := ⟨"java/lang/StringUTF16", "coderFromArrayLen", "([BI)B"⟩
abbrev yB : ByteArray := jdk_52_method_15_code
theorem d0 : decode yB 0 = .ok (.iload_n 1, 1) := by decide +kernel
theorem d1 : decode yB 1 = .ok (.aload_n 0, 1) := by decide +kernel
theorem d2 : decode yB 2 = .ok (.arraylength, 1) := by decide +kernel
theorem d3 : decode yB 3 = .ok (.isub, 1) := by decide +kernel
theorem d4 : decode yB 4 = .ok (.bipush 31, 2) := by decide +kernel
theorem d6 : decode yB 6 = .ok (.iushr, 1) := by decide +kernel
theorem d7 : decode yB 7 = .ok (.i2b, 1) := by decide +kernel
theorem d8 : decode yB 8 = .ok (.ireturn, 1) := by decide +kernel
def site : List Cond := []
def tab : Cond := tabOf yN yB 2 (some .byte) site
def P (d : Addr) (B : Cell) (args : Array Value) (s : State) : Prop := args = #[.ref d, .int (Int32.ofNat B.slots.size)] ∧ Arr .byte d B s
def E (r : Option Value) (s u : State) : Prop := XT.PureE (some (.int 0)) r s u
/-- an array as long as the number of chars: LATIN1 -/
theorem law (l : Launch) (d : Addr) (B : Cell) : Law l yN 2 2 0 0 yB 2 (some .byte) site (P d B) E [] 0 0 := by
  refine Law.of_walk (plainFor_of_name (by decide +kernel)) (by decide +kernel) (by decide +kernel) (by decide) (fun _ _ h => by rw [h.1]; rfl) (fun _ U U' hal hh h => ⟨h.1, h.2.mv hal hh⟩) (fun r U U' V V' h1 hal h2 h => XT.PureE.mv r U U' V V' h1 hal h2 h) ?_
  intro p e s m args below meth c s₁ X0 hexec hbytes hml hret hlk hnm hown hh0 W hP
  obtain ⟨rfl, hB⟩ := hP
  have hB0 := hB.mv X0.warmed.alike hh0
  have c1 : Steps p.tables e below (s₁.setTop (entryFrame m #[.ref d, .int (Int32.ofNat B.slots.size)] 2)) (s₁.setTop (mkF m 0 #[.val (.ref d), .val (.int (Int32.ofNat B.slots.size))] [])) := entry rfl
  have c2 : Steps p.tables e below (s₁.setTop (entryFrame m #[.ref d, .int (Int32.ofNat B.slots.size)] 2)) (s₁.setTop (mkF m 2 #[.val (.ref d), .val (.int (Int32.ofNat B.slots.size))] [.ref d, .int (Int32.ofNat B.slots.size)])) := c1.trans (by
    refine XS.iloadN X0.here hexec rfl (hb hbytes d0) rfl ?_
    refine XS.aloadN X0.here hexec rfl (hb hbytes d1) rfl rfl ?_
    exact Steps.refl _)
  have c3 : Steps p.tables e below (s₁.setTop (entryFrame m #[.ref d, .int (Int32.ofNat B.slots.size)] 2)) (s₁.setTop (mkF m 8 #[.val (.ref d), .val (.int (Int32.ofNat B.slots.size))] [.int (lo8 (ushr (Int32.ofNat B.slots.size - Int32.ofNat B.slots.size) 31))])) := c2.trans (by
    refine X0.alen hexec hB0 rfl rfl (hb hbytes d2) ?_
    refine XS.isub X0.here hexec rfl (hb hbytes d3) rfl ?_
    refine bipushV X0.here hexec rfl 31 (hb hbytes d4) (by decide) ?_
    refine iushr X0.here hexec rfl (hb hbytes d6) rfl ?_
    refine i2b X0.here hexec rfl (hb hbytes d7) rfl ?_
    exact Steps.refl _)
  have e0 : lo8 (ushr (Int32.ofNat B.slots.size - Int32.ofNat B.slots.size) 31) = 0 := by rw [Int32.sub_self]; decide
  rw [e0] at c3
  exact ⟨s₁, some (.int 0), _, _, _, X0, rfl, rfl, rfl, (fun h => by cases h), ⟨rfl, hh0⟩, fun fs hl => c3.trans (X0.ireturnOut hexec hret rfl (Or.inr (Or.inr (Or.inl rfl))) (hb hbytes d8) hl)⟩
end CodL
/-- the String at a is Latin-1 over a new byte[] (the heap's one new cell): the low bytes of the len chars of A from o on; every cell but a is kept -/
def Got (a : Addr) (D : Cell) (fV fC : Field) (A : Cell) (o len : Nat) (r : Option Value) (s u : State) : Prop := r = none ∧ ∃ D' V : Cell, Blank "java/lang/String" a D' u ∧ Same D D' [fV.slot, fC.slot] ∧ D'.slots[fV.slot]? = some (.ref s.heap.size) ∧ D'.slots[fC.slot]? = some (.int 0) ∧ Arr .byte s.heap.size V u ∧ V.vm = .none ∧ u.vm.findClass "[B" = some V.cls ∧ V.slots.size = len ∧ (∀ j, j < len → V.slots[j]? = some (.int (lo8 (cv A (o + j))))) ∧ (∀ (y : Addr) (c : Cell), y ≠ a → s.heap[y]? = some c → u.heap[y]? = some c) ∧ u.heap.size = s.heap.size + 1
theorem Got.mv {a : Addr} {D A : Cell} {fV fC : Field} {o len : Nat} : ∀ r (U U' V V' : State), U'.heap = U.heap → V.vm.Alike V'.vm → V'.heap = V.heap → Got a D fV fC A o len r U V → Got a D fV fC A o len r U' V' :=
  fun r U U' V V' h1 hal h2 ⟨e0, D', X, a1, a2, a3, a4, a5, a6, a7, a8, a9, a10, a11⟩ => ⟨e0, D', X, a1.mv hal h2, a2, by rw [h1]; exact a3, a4, by rw [h1]; exact a5.mv hal h2, a6, by rw [hal.findClass]; exact a7, a8, a9, by rw [h1, h2]; exact a10, by rw [h1, h2]; exact a11⟩
namespace New4
def yN : MethodName := ⟨"java/lang/String", "<init>", "([CIILjava/lang/Void;)V"⟩
abbrev yB : ByteArray := jdk_42_method_149_code
theorem d0 : decode yB 0 = .ok (.aload_n 0, 1) := by decide +kernel
theorem d1 : decode yB 1 = .ok (.invokespecial 1, 3) := by decide +kernel
theorem d4 : decode yB 4 = .ok (.iload_n 3, 1) := by decide +kernel
theorem d5 : decode yB 5 = .ok (.ifCond (.ne) 22, 3) := by decide +kernel
theorem d27 : decode yB 27 = .ok (.getstatic 38, 3) := by decide +kernel
theorem d30 : decode yB 30 = .ok (.ifCond (.eq) 28, 3) := by decide +kernel
theorem d33 : decode yB 33 = .ok (.aload_n 1, 1) := by decide +kernel
theorem d34 : decode yB 34 = .ok (.iload_n 2, 1) := by decide +kernel
theorem d35 : decode yB 35 = .ok (.iload_n 3, 1) := by decide +kernel
theorem d36 : decode yB 36 = .ok (.invokestatic 177, 3) := by decide +kernel
theorem d39 : decode yB 39 = .ok (.astore 5, 2) := by decide +kernel
theorem d41 : decode yB 41 = .ok (.aload_n 0, 1) := by decide +kernel
theorem d42 : decode yB 42 = .ok (.aload 5, 2) := by decide +kernel
theorem d44 : decode yB 44 = .ok (.iload_n 3, 1) := by decide +kernel
theorem d45 : decode yB 45 = .ok (.invokestatic 47, 3) := by decide +kernel
theorem d48 : decode yB 48 = .ok (.putfield 15, 3) := by decide +kernel
theorem d51 : decode yB 51 = .ok (.aload_n 0, 1) := by decide +kernel
theorem d52 : decode yB 52 = .ok (.aload 5, 2) := by decide +kernel
theorem d54 : decode yB 54 = .ok (.putfield 9, 3) := by decide +kernel
theorem d57 : decode yB 57 = .ok (.return_, 1) := by decide +kernel
def site : List Cond := [.fieldLink "java/lang/String" 38 "java/lang/String" "COMPACT_STRINGS" "Z", Cmp3.tab, CodL.tab, .laysFinal "java/lang/String" "java/lang/String" "value" "[B", .fieldLink "java/lang/String" 9 "java/lang/String" "value" "[B", .laysFinal "java/lang/String" "java/lang/String" "coder" "B", .fieldLink "java/lang/String" 15 "java/lang/String" "coder" "B"] ++ objW "java/lang/String" 1 ++ staticW "java/lang/String" 177 Cmp3.yN ++ staticW "java/lang/String" 47 CodL.yN
def tab : Cond := tabOf yN yB 6 none site
def P (a : Addr) (D : Cell) (fV fC : Field) (b : Addr) (A : Cell) (z : Int32) (o len : Nat) (args : Array Value) (s : State) : Prop := args = #[.ref a, .ref b, .int (Int32.ofNat o), .int (Int32.ofNat len), .null] ∧ Blank "java/lang/String" a D s ∧ Found "java/lang/String" "value" "[B" fV s ∧ Found "java/lang/String" "coder" "B" fC s ∧ Ch b A s ∧ StaticIs s "java/lang/String" "COMPACT_STRINGS" "Z" (.int z) ∧ ¬ z = 0 ∧ 0 < len ∧ o + len ≤ A.slots.size ∧ len ≤ 536870912 ∧ ∀ i, i < len → ¬ 255 < cv A (o + i)
def E (a : Addr) (D : Cell) (fV fC : Field) (A : Cell) (o len : Nat) (r : Option Value) (s u : State) : Prop := Got a D fV fC A o len r s u
/-- len > 0, no char of the range above 255: a Latin-1 String of their low bytes -/
theorem law (l : Launch) (a : Addr) (D : Cell) (fV fC : Field) (b : Addr) (A : Cell) (z : Int32) (o len : Nat) : Law l yN 5 4 2 35 yB 6 none site (P a D fV fC b A z o len) (E a D fV fC A o len) [⟨a, fC.slot⟩, ⟨a, fV.slot⟩] 1 len := by
  refine Law.of_walk (plainFor_of_name (by decide +kernel)) (by decide +kernel) (by decide +kernel) (by decide) (fun _ _ h => by rw [h.1]; rfl) (fun _ U U' hal hh h => ⟨h.1, h.2.1.mv hal hh, h.2.2.1.al hal, h.2.2.2.1.al hal, h.2.2.2.2.1.mv hal hh, h.2.2.2.2.2.1.there hal hh, h.2.2.2.2.2.2⟩) (fun r U U' V V' h1 hal h2 h => Got.mv r U U' V V' h1 hal h2 h) ?_
  intro p e s m args below meth c s₁ X0 hexec hbytes hml hret hlk hnm hown hh0 W hP
  obtain ⟨rfl, hB, f1, f2, hA, s1, hz, l0, l1, l2, hp⟩ := hP
  have a31 := hA.1.2.2.2
  have c1 : Steps p.tables e below (s₁.setTop (entryFrame m #[.ref a, .ref b, .int (Int32.ofNat o), .int (Int32.ofNat len), .null] 6)) (s₁.setTop (mkF m 0 #[.val (.ref a), .val (.ref b), .val (.int (Int32.ofNat o)), .val (.int (Int32.ofNat len)), .val .null, .unset] [])) := entry rfl
  have c2 : Steps p.tables e below (s₁.setTop (entryFrame m #[.ref a, .ref b, .int (Int32.ofNat o), .int (Int32.ofNat len), .null] 6)) (s₁.setTop (mkF m 1 #[.val (.ref a), .val (.ref b), .val (.int (Int32.ofNat o)), .val (.int (Int32.ofNat len)), .val .null, .unset] [.ref a])) := c1.trans (by
    refine XS.aloadN X0.here hexec rfl (hb hbytes d0) rfl rfl ?_
    exact Steps.refl _)
  obtain ⟨T3, X3, q3, st3⟩ := X0.oinit hexec hown (wks W (objW "java/lang/String" 1)) (g := (mkF m 1 #[.val (.ref a), .val (.ref b), .val (.int (Int32.ofNat o)), .val (.int (Int32.ofNat len)), .val .null, .unset] [.ref a])) rfl (by rw [hml]; rfl) (rest := []) rfl (hb hbytes d1) (W := 0) (by show 2 * 0 + 0 ≤ _; decide) (Nat.le_of_ble_eq_true rfl) (Nat.le_of_ble_eq_true rfl)
  have hh3 := q3.trans hh0
  have c4 : Steps p.tables e below (s₁.setTop (entryFrame m #[.ref a, .ref b, .int (Int32.ofNat o), .int (Int32.ofNat len), .null] 6)) (T3.setTop (mkF m 27 #[.val (.ref a), .val (.ref b), .val (.int (Int32.ofNat o)), .val (.int (Int32.ofNat len)), .val .null, .unset] [])) := (c2.trans (st3 _ (Steps.refl _))).trans (by
    refine XS.iloadN X3.here hexec rfl (hb hbytes d4) rfl ?_
    refine XS.ifYes X3.here hexec rfl (pc0 := 5) rfl (hb hbytes d5) rfl (i0_ne_t (nz32 (by omega) l0)) (by decide) rfl ?_
    exact Steps.refl _)
  obtain ⟨T5, X5, q5, st5⟩ := X3.sget hexec hown (wk W (.fieldLink "java/lang/String" 38 "java/lang/String" "COMPACT_STRINGS" "Z")) s1 (fun _ _ h => by rw [hh3]; exact h) (g := (mkF m 27 #[.val (.ref a), .val (.ref b), .val (.int (Int32.ofNat o)), .val (.int (Int32.ofNat len)), .val .null, .unset] [])) rfl (hb hbytes d27)
  have hh5 := q5.trans hh3
  have c6 : Steps p.tables e below (s₁.setTop (entryFrame m #[.ref a, .ref b, .int (Int32.ofNat o), .int (Int32.ofNat len), .null] 6)) (T5.setTop (mkF m 30 #[.val (.ref a), .val (.ref b), .val (.int (Int32.ofNat o)), .val (.int (Int32.ofNat len)), .val .null, .unset] [.int z])) := c4.trans (st5 _ (Steps.refl _))
  have c7 : Steps p.tables e below (s₁.setTop (entryFrame m #[.ref a, .ref b, .int (Int32.ofNat o), .int (Int32.ofNat len), .null] 6)) (T5.setTop (mkF m 36 #[.val (.ref a), .val (.ref b), .val (.int (Int32.ofNat o)), .val (.int (Int32.ofNat len)), .val .null, .unset] [.int (Int32.ofNat len), .int (Int32.ofNat o), .ref b])) := c6.trans (by
    refine XS.ifNo X5.here hexec rfl (hb hbytes d30) rfl (i0_eq_f hz) ?_
    refine XS.aloadN X5.here hexec rfl (hb hbytes d33) rfl rfl ?_
    refine XS.iloadN X5.here hexec rfl (hb hbytes d34) rfl ?_
    refine XS.iloadN X5.here hexec rfl (hb hbytes d35) rfl ?_
    exact Steps.refl _)
  obtain ⟨v8, T8, X8, E8, g8⟩ := X5.callS hexec (Cmp3.law l b A o len) hown (wks W (staticW "java/lang/String" 177 Cmp3.yN)) (wk W Cmp3.tab) (W := 0) (Nat.le_of_ble_eq_true rfl) (Nat.le_of_ble_eq_true rfl) (Nat.le_refl _) (by show 0 + len ≤ len; omega) (g := (mkF m 36 #[.val (.ref a), .val (.ref b), .val (.int (Int32.ofNat o)), .val (.int (Int32.ofNat len)), .val .null, .unset] [.int (Int32.ofNat len), .int (Int32.ofNat o), .ref b])) rfl (by rw [hml]; rfl) c7 (argsL := [.ref b, .int (Int32.ofNat o), .int (Int32.ofNat len)]) (rest := []) rfl rfl (by show 2 * 0 + 0 ≤ _; decide) (hb hbytes d36) (⟨rfl, hA.mv X5.warmed.alike hh5, l1, l2, hp⟩)
  obtain ⟨e8, z8⟩ := E8
  obtain ⟨rfl, N, n1, n2, n3, n4, n5, n6⟩ := NewArr.mv _ T5 s _ _ hh5.symm (Vm.Alike.refl _) rfl e8
  rw [hh5] at z8
  have hB1 := hB.keep X8.warmed.alike (n6 _ _ hB.1)
  have hne : s.heap.size ≠ a := (Nat.ne_of_lt (Array.getElem?_eq_some_iff.mp hB.1).1).symm
  have c9 : Steps p.tables e below (s₁.setTop (entryFrame m #[.ref a, .ref b, .int (Int32.ofNat o), .int (Int32.ofNat len), .null] 6)) (T8.setTop (mkF m 39 #[.val (.ref a), .val (.ref b), .val (.int (Int32.ofNat o)), .val (.int (Int32.ofNat len)), .val .null, .unset] [.ref s.heap.size])) := g8
  have c10 : Steps p.tables e below (s₁.setTop (entryFrame m #[.ref a, .ref b, .int (Int32.ofNat o), .int (Int32.ofNat len), .null] 6)) (T8.setTop (mkF m 45 #[.val (.ref a), .val (.ref b), .val (.int (Int32.ofNat o)), .val (.int (Int32.ofNat len)), .val .null, .val (.ref s.heap.size)] [.int (Int32.ofNat N.slots.size), .ref s.heap.size, .ref a])) := by
    have hc : Steps p.tables e below (s₁.setTop (entryFrame m #[.ref a, .ref b, .int (Int32.ofNat o), .int (Int32.ofNat len), .null] 6)) (T8.setTop (mkF m 45 #[.val (.ref a), .val (.ref b), .val (.int (Int32.ofNat o)), .val (.int (Int32.ofNat len)), .val .null, .val (.ref s.heap.size)] [.int (Int32.ofNat len), .ref s.heap.size, .ref a])) := c9.trans (by
      refine XS.astore X8.here hexec rfl (hb hbytes d39) rfl rfl rfl ?_
      refine XS.aloadN X8.here hexec rfl (hb hbytes d41) rfl rfl ?_
      refine XS.aload X8.here hexec rfl (hb hbytes d42) rfl rfl ?_
      refine XS.iloadN X8.here hexec rfl (hb hbytes d44) rfl ?_
      exact Steps.refl _)
    rw [n4]; exact hc
  obtain ⟨v11, T11, X11, E11, g11⟩ := X8.callS hexec (CodL.law l s.heap.size N) hown (wks W (staticW "java/lang/String" 47 CodL.yN)) (wk W CodL.tab) (W := 1) (Nat.le_of_ble_eq_true rfl) (Nat.le_of_ble_eq_true rfl) (Nat.le_refl _) (by show 0 + len + 0 ≤ len; omega) (g := (mkF m 45 #[.val (.ref a), .val (.ref b), .val (.int (Int32.ofNat o)), .val (.int (Int32.ofNat len)), .val .null, .val (.ref s.heap.size)] [.int (Int32.ofNat N.slots.size), .ref s.heap.size, .ref a])) rfl (by rw [hml]; rfl) c10 (argsL := [.ref s.heap.size, .int (Int32.ofNat N.slots.size)]) (rest := [.ref a]) rfl rfl (by show 2 * 0 + (1 + 0) ≤ _; decide) (hb hbytes d45) (⟨rfl, n1⟩)
  obtain ⟨rfl, q11⟩ := E11
  have hB11 := hB1.mv (X8.warmed.alike.symm.trans X11.warmed.alike) q11
  have c12 : Steps p.tables e below (s₁.setTop (entryFrame m #[.ref a, .ref b, .int (Int32.ofNat o), .int (Int32.ofNat len), .null] 6)) (T11.setTop (mkF m 48 #[.val (.ref a), .val (.ref b), .val (.int (Int32.ofNat o)), .val (.int (Int32.ofNat len)), .val .null, .val (.ref s.heap.size)] [.int 0, .ref a])) := g11
  obtain ⟨T13, X13, p13, bl13, sl13, st13⟩ := X11.finit hexec hown (wk W (.fieldLink "java/lang/String" 15 "java/lang/String" "coder" "B")) (Or.inr ⟨_, (wk W (.laysFinal "java/lang/String" "java/lang/String" "coder" "B"))⟩) (Or.inl ⟨rfl, hnm⟩) f2 (Or.inl rfl) hB11 (t := .byte) (by decide +kernel) rfl (g := (mkF m 48 #[.val (.ref a), .val (.ref b), .val (.int (Int32.ofNat o)), .val (.int (Int32.ofNat len)), .val .null, .val (.ref s.heap.size)] [.int 0, .ref a])) rfl (rest := []) rfl (hb hbytes d48)
  have c14 : Steps p.tables e below (s₁.setTop (entryFrame m #[.ref a, .ref b, .int (Int32.ofNat o), .int (Int32.ofNat len), .null] 6)) (T13.setTop (mkF m 54 #[.val (.ref a), .val (.ref b), .val (.int (Int32.ofNat o)), .val (.int (Int32.ofNat len)), .val .null, .val (.ref s.heap.size)] [.ref s.heap.size, .ref a])) := (c12.trans (st13 _ (Steps.refl _))).trans (by
    refine XS.aloadN X13.here hexec rfl (hb hbytes d51) rfl rfl ?_
    refine XS.aload X13.here hexec rfl (hb hbytes d52) rfl rfl ?_
    exact Steps.refl _)
  obtain ⟨T15, X15, p15, bl15, sl15, st15⟩ := X13.finit hexec hown (wk W (.fieldLink "java/lang/String" 9 "java/lang/String" "value" "[B")) (Or.inr ⟨_, (wk W (.laysFinal "java/lang/String" "java/lang/String" "value" "[B"))⟩) (Or.inl ⟨rfl, hnm⟩) f1 (Or.inl rfl) bl13 (t := (.array .byte)) (by decide +kernel) rfl (g := (mkF m 54 #[.val (.ref a), .val (.ref b), .val (.int (Int32.ofNat o)), .val (.int (Int32.ofNat len)), .val .null, .val (.ref s.heap.size)] [.ref s.heap.size, .ref a])) rfl (rest := []) rfl (hb hbytes d54)
  have c16 : Steps p.tables e below (s₁.setTop (entryFrame m #[.ref a, .ref b, .int (Int32.ofNat o), .int (Int32.ofNat len), .null] 6)) (T15.setTop (mkF m 57 #[.val (.ref a), .val (.ref b), .val (.int (Int32.ofNat o)), .val (.int (Int32.ofNat len)), .val .null, .val (.ref s.heap.size)] [])) := c14.trans (st15 _ (Steps.refl _))
  have ap := apart (Or.inr ⟨_, (wk W (.laysFinal "java/lang/String" "java/lang/String" "value" "[B"))⟩) (Or.inr ⟨_, (wk W (.laysFinal "java/lang/String" "java/lang/String" "coder" "B"))⟩) f1 f2 (t₁ := .array .byte) (t₂ := .byte) (by decide +kernel) (by decide +kernel) (by decide)
  have al := X8.warmed.alike.symm.trans X15.warmed.alike
  have n7 : T11.heap[s.heap.size]? = some N := by rw [q11]; exact n1.1
  exact ⟨T15, none, _, _, _, X15, by simp, rfl, by omega, (fun _ => rfl), ⟨rfl, _, N, bl15, ((Same.refl D _).set _ (by simp)).set _ (by simp), sl15, (Cell.slots_setSlot_ne _ ap).trans sl13, n1.keep al (p15.other hne (p13.other hne n7)), n2, by rw [al.findClass]; exact n3, n4, n5, fun y c h1 h2 => p15.other h1 (p13.other h1 (by rw [q11]; exact n6 y c h2)), by rw [p15.2.2, p13.2.2, q11]; exact z8⟩, fun fs hl => c16.trans (X15.returnOut hexec hret (hb hbytes d57) hl)⟩
end New4
namespace New1
def yN : MethodName := ⟨"java/lang/String", "<init>", "([C)V"⟩
abbrev yB : ByteArray := jdk_42_method_3_code
theorem d0 : decode yB 0 = .ok (.aload_n 0, 1) := by decide +kernel
theorem d1 : decode yB 1 = .ok (.aload_n 1, 1) := by decide +kernel
theorem d2 : decode yB 2 = .ok (.iconst 0, 1) := by decide +kernel
theorem d3 : decode yB 3 = .ok (.aload_n 1, 1) := by decide +kernel
theorem d4 : decode yB 4 = .ok (.arraylength, 1) := by decide +kernel
theorem d5 : decode yB 5 = .ok (.aconst_null, 1) := by decide +kernel
theorem d6 : decode yB 6 = .ok (.invokespecial 27, 3) := by decide +kernel
theorem d9 : decode yB 9 = .ok (.return_, 1) := by decide +kernel
def site : List Cond := [New4.tab] ++ initW "java/lang/String" 27 New4.yN
def tab : Cond := tabOf yN yB 2 none site
def P (a : Addr) (D : Cell) (fV fC : Field) (b : Addr) (A : Cell) (z : Int32) (args : Array Value) (s : State) : Prop := args = #[.ref a, .ref b] ∧ Blank "java/lang/String" a D s ∧ Found "java/lang/String" "value" "[B" fV s ∧ Found "java/lang/String" "coder" "B" fC s ∧ Ch b A s ∧ StaticIs s "java/lang/String" "COMPACT_STRINGS" "Z" (.int z) ∧ ¬ z = 0 ∧ 0 < A.slots.size ∧ A.slots.size ≤ 536870912 ∧ ∀ i, i < A.slots.size → ¬ 255 < cv A i
def E (a : Addr) (D : Cell) (fV fC : Field) (A : Cell) (r : Option Value) (s u : State) : Prop := Got a D fV fC A 0 A.slots.size r s u
/-- new String(chars), not empty, no char above 255: a Latin-1 String of their low bytes -/
theorem law (l : Launch) (a : Addr) (D : Cell) (fV fC : Field) (b : Addr) (A : Cell) (z : Int32) : Law l yN 2 1 3 52 yB 2 none site (P a D fV fC b A z) (E a D fV fC A) [⟨a, fC.slot⟩, ⟨a, fV.slot⟩] 1 A.slots.size := by
  refine Law.of_walk (plainFor_of_name (by decide +kernel)) (by decide +kernel) (by decide +kernel) (by decide) (fun _ _ h => by rw [h.1]; rfl) (fun _ U U' hal hh h => ⟨h.1, h.2.1.mv hal hh, h.2.2.1.al hal, h.2.2.2.1.al hal, h.2.2.2.2.1.mv hal hh, h.2.2.2.2.2.1.there hal hh, h.2.2.2.2.2.2⟩) (fun r U U' V V' h1 hal h2 h => Got.mv r U U' V V' h1 hal h2 h) ?_
  intro p e s m args below meth c s₁ X0 hexec hbytes hml hret hlk hnm hown hh0 W hP
  obtain ⟨rfl, hB, f1, f2, hA, s1, hz, l0, l2, hp⟩ := hP
  have c1 : Steps p.tables e below (s₁.setTop (entryFrame m #[.ref a, .ref b] 2)) (s₁.setTop (mkF m 0 #[.val (.ref a), .val (.ref b)] [])) := entry rfl
  have c2 : Steps p.tables e below (s₁.setTop (entryFrame m #[.ref a, .ref b] 2)) (s₁.setTop (mkF m 6 #[.val (.ref a), .val (.ref b)] [.null, .int (Int32.ofNat A.slots.size), .int 0, .ref b, .ref a])) := c1.trans (by
    refine XS.aloadN X0.here hexec rfl (hb hbytes d0) rfl rfl ?_
    refine XS.aloadN X0.here hexec rfl (hb hbytes d1) rfl rfl ?_
    refine iconstV X0.here hexec rfl 0 (hb hbytes d2) (by decide) ?_
    refine XS.aloadN X0.here hexec rfl (hb hbytes d3) rfl rfl ?_
    refine X0.alen hexec (hA.1.mv X0.warmed.alike hh0) rfl rfl (hb hbytes d4) ?_
    refine XS.aconstNull X0.here hexec rfl (hb hbytes d5) ?_
    exact Steps.refl _)
  obtain ⟨v3, T3, X3, E3, g3⟩ := X0.callN hexec (New4.law l a D fV fC b A z 0 A.slots.size) rfl hown (wks W (initW "java/lang/String" 27 New4.yN)) (W New4.tab (by simp only [site, List.mem_cons, List.mem_append, true_or, or_true])) (W := 0) (Nat.le_of_ble_eq_true rfl) (Nat.le_of_ble_eq_true rfl) (Nat.le_refl _) (by show 0 + A.slots.size ≤ A.slots.size; omega) (g := (mkF m 6 #[.val (.ref a), .val (.ref b)] [.null, .int (Int32.ofNat A.slots.size), .int (Int32.ofNat 0), .ref b, .ref a])) rfl (by rw [hml]; rfl) c2 (argsL := [.ref b, .int (Int32.ofNat 0), .int (Int32.ofNat A.slots.size), .null]) (rest := []) rfl rfl (by show 2 * 0 + 0 ≤ _; decide) (hb hbytes d6) (⟨rfl, hB.mv X0.warmed.alike hh0, f1.al X0.warmed.alike, f2.al X0.warmed.alike, hA.mv X0.warmed.alike hh0, s1.there X0.warmed.alike hh0, hz, l0, by omega, l2, fun i hi => by rw [Nat.zero_add]; exact hp i hi⟩)
  have e0 := Got.mv _ s₁ s _ _ hh0.symm (Vm.Alike.refl _) rfl E3
  obtain rfl := e0.1
  have c4 : Steps p.tables e below (s₁.setTop (entryFrame m #[.ref a, .ref b] 2)) (T3.setTop (mkF m 9 #[.val (.ref a), .val (.ref b)] [])) := g3
  exact ⟨T3, none, _, _, _, X3, by simp, rfl, by omega, (fun _ => rfl), e0, fun fs hl => c4.trans (X3.returnOut hexec hret (hb hbytes d9) hl)⟩
theorem pays {l : Launch} {R : Room} {p : Program} {e : Env} {below : List Frame} {s : State} {sargs : Array Value} {len W : Nat} (a : Addr) (D : Cell) (fV fC : Field) (b : Addr) (A : Cell) (z : Int32) (htab : tab.before sargs s = true) (hfr : 4 ≤ R.frames) (hlo : W + 65 ≤ R.locals) :
    Back l R p e below s sargs yN len W (fun A₁ a₁ => A₁.cells + 1 ≤ R.cells ∧ A₁.slots + A.slots.size ≤ R.slots ∧ P a D fV fC b A z a₁ A₁.U) (fun A₁ _ v₁ B₁ => E a D fV fC A v₁ A₁.U B₁.U ∧ B₁.locs = A₁.locs ++ [⟨a, fC.slot⟩, ⟨a, fV.slot⟩] ∧ B₁.cells = A₁.cells + 1 ∧ B₁.slots = A₁.slots + A.slots.size) :=
  (law l a D fV fC b A z).pays htab hfr (by omega)
end New1
/-- the byte, read back as charAt reads it, is the char -/
theorem lo8_mask {x : Int32} (h0 : ¬ x < 0) (h1 : ¬ 255 < x) : lo8 x &&& 255 = x := by
  have t : ∀ k : Fin 256, lo8 (Int32.ofNat k.val) &&& 255 = Int32.ofNat k.val := by decide +kernel
  rw [Int32.lt_iff_toInt_lt] at h0 h1
  have e0 : (0 : Int32).toInt = 0 := rfl
  have e1 : (255 : Int32).toInt = 255 := rfl
  obtain ⟨k, hk⟩ : ∃ k : Nat, x.toInt = k := ⟨x.toInt.toNat, by omega⟩
  have hx : x = Int32.ofNat k := Int32.toInt_inj.mp (by rw [hk, Int32.toInt_ofNat_small (by omega)])
  rw [hx]
  exact t ⟨k, by omega⟩
end StrChars
namespace StrChars.Road
open Jvm Sem ClassFile Op Lib Jvm.Stand Jvm.Free Jvm.Free.XT
open Jvm.Lib.Cold (StaticIs)
abbrev ST : String := "java/lang/String"
/-- every table word that New1's law asks, flat -/
abbrev words : List Jvm.Cond := [.code New1.yN New1.yB 2 none, .initialized ST, .methodLink ST 27 New4.yN, .instanceMethod New4.yN,
  .code New4.yN New4.yB 6 none, .fieldLink ST 38 ST "COMPACT_STRINGS" "Z", .laysFinal ST ST "value" "[B", .fieldLink ST 9 ST "value" "[B", .laysFinal ST ST "coder" "B", .fieldLink ST 15 ST "coder" "B",
  .methodLink ST 1 Lib.objectInit, .instanceMethod Lib.objectInit, .code Lib.objectInit ⟨#[0xb1]⟩ 1 none, .methodLink ST 177 Cmp3.yN, .static Cmp3.yN, .methodLink ST 47 CodL.yN, .static CodL.yN,
  .code Cmp3.yN Cmp3.yB 6 (some (.array .byte)), .initialized U16, .arrayClass .byte, .methodLink U16 115 Cmp5.yN, .static Cmp5.yN, .code Cmp5.yN Cmp5.yB 7 (some .int), .code CodL.yN CodL.yB 2 (some .byte)]
theorem tab_of {a : Array Value} {s : State} (h : ∀ w ∈ words, w.before a s = true) : New1.tab.before a s = true := by
  have h5 : Cmp5.tab.before a s = true := unparts (wk h (.code Cmp5.yN Cmp5.yB 7 (some .int))) (wks h (.initialized Cmp5.yN.cls :: Cmp5.site))
  have hc : CodL.tab.before a s = true := unparts (wk h (.code CodL.yN CodL.yB 2 (some .byte))) (wks h (.initialized CodL.yN.cls :: CodL.site))
  have q5 : ∀ w ∈ Cmp5.tab :: words, w.before a s = true := fun w hw => (List.mem_cons.mp hw).elim (fun e => e ▸ h5) (h w)
  have h3 : Cmp3.tab.before a s = true := unparts (wk q5 (.code Cmp3.yN Cmp3.yB 6 (some (.array .byte)))) (wks q5 (.initialized Cmp3.yN.cls :: Cmp3.site))
  have q3 : ∀ w ∈ Cmp3.tab :: CodL.tab :: words, w.before a s = true := fun w hw => (List.mem_cons.mp hw).elim (fun e => e ▸ h3) fun hw => (List.mem_cons.mp hw).elim (fun e => e ▸ hc) (h w)
  have h4 : New4.tab.before a s = true := unparts (wk q3 (.code New4.yN New4.yB 6 none)) (wks q3 (.initialized New4.yN.cls :: New4.site))
  have q4 : ∀ w ∈ New4.tab :: words, w.before a s = true := fun w hw => (List.mem_cons.mp hw).elim (fun e => e ▸ h4) (h w)
  exact unparts (wk q4 (.code New1.yN New1.yB 2 none)) (wks q4 (.initialized New1.yN.cls :: New1.site))
/-- the words ride from the start Z to the walk's own state -/
theorem moved {Z s : State} {a0 args : Array Value} (hZ : Z.Warmed39 s.vm) (hw : ∀ d ∈ words, d.before a0 Z = true) : ∀ d ∈ words, d.before args s = true := fun d hd => by
  have q := hw d hd
  have t : ∀ d ∈ words, d = .arrayClass .byte ∨ (d.onTables && d.keepsFace) = true := by decide +kernel
  rcases t d hd with rfl | t
  · exact RoadKit.mvA hZ q
  · exact RoadKit.mv hZ q t
/-- WHAT COMES BACK, over the tables of the start Z: h the heap at the call, h' behind it -/
def Q (Z : State) (x : Addr) (A : Cell) (h : Heap) (v : Option Value) (h' : Heap) (L : List Loc) : Prop := v = none ∧ (∀ y ∈ L, y.base = x) ∧ RoadKit.Keep h h' [x] ∧ h'.size = h.size + 1 ∧ RoadKit.Exa Z h' x ST ∧ RoadKit.Fld Z h' x ST "value" "[B" (.ref h.size) ∧ RoadKit.Fld Z h' x ST "coder" "B" (.int 0) ∧
  (∃ V : Cell, RoadKit.Arr Z h' h.size V .byte ∧ V.vm = .none ∧ Z.vm.findClass "[B" = some V.cls ∧ V.slots.size = A.slots.size ∧ ∀ j, j < A.slots.size → V.slots[j]? = some (.int (lo8 (cv A j)))) ∧
  ∀ (O n d : String) (w : Value), RoadKit.Fld Z h x O n d w → RoadKit.slotOf Z O n d ≠ RoadKit.slotOf Z ST "value" "[B" → RoadKit.slotOf Z O n d ≠ RoadKit.slotOf Z ST "coder" "B" → RoadKit.Fld Z h' x O n d w
/-- **new String(chars) AT A CALL, IN THE ROAD'S FORM**: for specialBack behind newO: x the fresh String, b the char[] with the cell A -/
theorem back {p : Program} {l : Launch} {e : Env} {R : Room} {s : State} {args : Array Value} {below : List Frame} {len W : Nat} {Z : State} {a0 : Array Value} {h : Heap} (hZ : Z.Warmed39 s.vm) (hw : ∀ d ∈ words, d.before a0 Z = true) {kI : Nat} (wi : (Jvm.Cond.instantiable ST kI).before a0 Z = true)
    {x b : Addr} {A : Cell} {z : Int32} {v0 c0 : Value} (E : RoadKit.Exa Z h x ST) (V : RoadKit.Fld Z h x ST "value" "[B" v0) (C : RoadKit.Fld Z h x ST "coder" "B" c0) (K : RoadKit.Arr Z h b A .char) (hty : Typed .char A) (S : RoadKit.Sta Z h ST "COMPACT_STRINGS" "Z" (.int z)) (hz : ¬ z = 0)
    (l0 : 0 < A.slots.size) (l2 : A.slots.size ≤ 536870912) (hp : ∀ i, i < A.slots.size → ¬ 255 < cv A i) (hfr : 4 ≤ R.frames) (hlo : W + 65 ≤ R.locals) :
    Back l R p e below s args New1.yN len W (fun P a => a = #[.ref x, .ref b] ∧ P.U.heap = h ∧ P.cells + 1 ≤ R.cells ∧ P.slots + A.slots.size ≤ R.slots)
      (fun P _ v B => ∃ L, Q Z x A h v B.U.heap L ∧ B.locs = P.locs ++ L ∧ B.cells = P.cells + 1 ∧ B.slots = P.slots + A.slots.size) := by
  intro m meth c P g ig mk a X hg hsize hdg hW hn hp'
  obtain ⟨rfl, rfl, r1, r2⟩ := hp'
  have al : Z.vm.Alike P.U.vm := hZ.alike.trans X.warmed.alike
  obtain ⟨D, cfV, kV, iV, fV, hD, gV, stV, knV, obV, asV, slV⟩ := id V
  obtain ⟨D', cfC, kC, iC, fC, hD', gC, stC, -, -, asC, slC⟩ := id C
  cases hD.symm.trans hD'
  obtain ⟨D2, kD, e1, e2, e3, e4, e5⟩ := id E
  cases hD.symm.trans e1
  obtain ⟨c2, k2, i1, i2, i3, -⟩ := Cond.instantiable_spec wi
  cases e2.symm.trans i1
  cases e3.symm.trans i2
  obtain ⟨kU, u1, u2⟩ := al.2.2 _ _ e3
  have hB : Blank ST x D P.U := ⟨hD, ⟨knV, fun q hq => by rw [hq] at obV; cases obV⟩, by rw [al.findClass]; exact e2, kU, u1, by rw [u2]; exact i3, by rw [u2]; exact e5 i3⟩
  have F1 : Found ST "value" "[B" fV P.U := ⟨SBG.found_only al ⟨cfV, kV, iV, gV⟩, stV⟩
  have F2 : Found ST "coder" "B" fC P.U := ⟨SBG.found_only al ⟨cfC, kC, iC, gC⟩, stC⟩
  have hA : Ch b A P.U := ⟨⟨K.1, State.isArrayOf_alike al K.2.1, K.2.2, by omega⟩, hty⟩
  have hS : StaticIs P.U ST "COMPACT_STRINGS" "Z" (.int z) := by
    obtain ⟨cfS, iS, kS, fS, st, cS, t1, t2, t3, t4, t5, t6, t7⟩ := S
    exact StaticIs.there (s := { Z with heap := P.U.heap }) ⟨cfS, iS, kS, fS, st, cS, t1, t2, t3, t4, t5, (fun q => by rw [q] at t6; cases t6), t7⟩ al rfl
  obtain ⟨v, B, X', ⟨⟨hv, E', V', q1, q2, q3, q4, q5, q6, q7, q8, q9, q10, q11⟩, hl, hc, hs⟩, st⟩ := New1.pays x D fV fC b A z (tab_of (moved hZ hw)) hfr hlo m meth c P g ig mk _ X hg hsize hdg hW hn ⟨r1, r2, rfl, hB, F1, F2, hA, hS, hz, l0, l2, hp⟩
  have al' : Z.vm.Alike B.U.vm := hZ.alike.trans X'.warmed.alike
  have hsz : E'.slots.size = D.slots.size := by
    obtain ⟨-, -, -, kB, w1, w2, w3⟩ := q1
    obtain ⟨kB', y1, y2⟩ := al'.2.2 _ _ e3
    rw [q2.2.1] at w1
    cases w1.symm.trans y1
    rw [w3, e5 i3, y2]
  refine ⟨v, B, X', ⟨_, ⟨hv, ?_, ⟨by omega, fun y cy hy hn' => q10 y cy (by simpa using hn') hy, fun y cy hy => ?_⟩, q11, ⟨E', _, q1.1, by rw [q2.2.1]; exact e2, by rw [q2.2.1]; exact e3, by rw [q2.1]; exact obV, fun _ => by rw [hsz]; exact e5 i3⟩,
    ⟨E', cfV, kV, iV, fV, q1.1, gV, stV, by rw [q2.1]; exact knV, by rw [q2.1]; exact obV, by rw [q2.2.1]; exact asV, q3⟩, ⟨E', cfC, kC, iC, fC, q1.1, gC, stC, by rw [q2.1]; exact knV, by rw [q2.1]; exact obV, by rw [q2.2.1]; exact asC, q4⟩,
    ⟨V', ⟨q5.1, State.isArrayOf_alike al'.symm q5.2.1, q5.2.2.1⟩, q6, by rw [← al'.findClass]; exact q7, q8, fun j hj => by have := q9 j hj; rwa [Nat.zero_add] at this⟩, fun O n d w F n1 n2 => ?_⟩, hl, hc, hs⟩, st⟩
  · intro y hy
    simp only [List.mem_cons, List.not_mem_nil, or_false] at hy
    rcases hy with rfl | rfl <;> rfl
  · by_cases q : y = x
    · subst q
      cases hD.symm.trans hy
      exact ⟨E', q1.1, q2.2.1, q2.1, hsz⟩
    · exact ⟨cy, q10 y cy q hy, rfl, rfl, rfl⟩
  · obtain ⟨D3, cf, k, i, f, g1, g2, g3, g4, g5, g6, g7⟩ := F
    cases hD.symm.trans g1
    simp only [RoadKit.slotOf, g2, gV, gC, Option.map_some, Option.getD_some] at n1 n2
    exact ⟨E', cf, k, i, f, q1.1, g2, g3, by rw [q2.1]; exact g4, by rw [q2.1]; exact g5, by rw [q2.2.1]; exact g6, by rw [q2.2.2 f.slot (by simp [n1, n2])]; exact g7⟩
end StrChars.Road
namespace StrChars.Road
open Jvm Sem ClassFile Op Lib Jvm.Stand Jvm.Free Jvm.Free.XT
/-- WHAT COMES BACK, the byte[] as a list of values -/
def QA (Z : State) (x : Addr) (zn : Int32) (cs : List Int32) (h : Heap) (v : Option Value) (h' : Heap) (L : List Loc) : Prop := v = none ∧ (∀ y ∈ L, y.base = x) ∧ RoadKit.Keep h h' [x] ∧ h'.size = h.size + 1 ∧ RoadKit.Exa Z h' x ST ∧ RoadKit.Fld Z h' x ST "value" "[B" (.ref h.size) ∧ RoadKit.Fld Z h' x ST "coder" "B" (.int 0) ∧
  (∃ kb, Z.vm.findClass "[B" = some kb ∧ RoadKit.Arv Z h' h.size kb .byte zn (cs.map fun c => .int (lo8 c)) (.int 0)) ∧
  ∀ (O n d : String) (w : Value), RoadKit.Fld Z h x O n d w → RoadKit.slotOf Z O n d ≠ RoadKit.slotOf Z ST "value" "[B" → RoadKit.slotOf Z O n d ≠ RoadKit.slotOf Z ST "coder" "B" → RoadKit.Fld Z h' x O n d w
/-- **new String(chars) AT A CALL, THE ARRAYS AS LISTS**: the char[] at b holds cs, not empty, no char above 255 -/
theorem backArv {p : Program} {l : Launch} {e : Env} {R : Room} {s : State} {args : Array Value} {below : List Frame} {len W : Nat} {Z : State} {a0 : Array Value} {h : Heap} (hZ : Z.Warmed39 s.vm) (hw : ∀ d ∈ words, d.before a0 Z = true) {kI : Nat} (wi : (Jvm.Cond.instantiable ST kI).before a0 Z = true)
    {x b : Addr} {k : ClassId} {zn z : Int32} {cs : List Int32} {dv v0 c0 : Value} (E : RoadKit.Exa Z h x ST) (V : RoadKit.Fld Z h x ST "value" "[B" v0) (C : RoadKit.Fld Z h x ST "coder" "B" c0) (K : RoadKit.Arv Z h b k .char zn (cs.map Value.int) dv) (S : RoadKit.Sta Z h ST "COMPACT_STRINGS" "Z" (.int z)) (hz : ¬ z = 0)
    (hlen : zn.toNatClampNeg = cs.length) (h0 : 0 < cs.length) (hbig : cs.length ≤ 536870912) (hall : ∀ c ∈ cs, ¬ 255 < c) (hfr : 4 ≤ R.frames) (hlo : W + 65 ≤ R.locals) :
    Back l R p e below s args New1.yN len W (fun P a => a = #[.ref x, .ref b] ∧ P.U.heap = h ∧ P.cells + 1 ≤ R.cells ∧ P.slots + cs.length ≤ R.slots)
      (fun P _ v B => ∃ L, QA Z x zn cs h v B.U.heap L ∧ B.locs = P.locs ++ L ∧ B.cells = P.cells + 1 ∧ B.slots = P.slots + cs.length) := by
  obtain ⟨A, K1, K2, K3, K4, K5, K6⟩ := K
  have e : A.slots.size = cs.length := K3.trans hlen
  have hat : ∀ (i : Nat) (hi : i < cs.length), A.slots[i]? = some (.int cs[i]) := fun i hi => by rw [K5 i (by omega)]; simp [List.getD_eq_getElem?_getD, hi]
  have hcv : ∀ (i : Nat) (hi : i < cs.length), cv A i = cs[i] := fun i hi => by unfold cv; rw [hat i hi]
  have hty : Typed .char A := fun i v hv => by
    have hi : i < A.slots.size := (Array.getElem?_eq_some_iff.mp hv).1
    have q := K5 i hi
    rw [hv] at q
    rw [Option.some.inj q]
    exact K6 i hi
  refine Back.mono (back hZ hw wi E V C K1 hty S hz (by omega) (by omega) (fun i hi => by rw [hcv i (by omega)]; exact hall _ (List.getElem_mem _)) hfr hlo) (fun P a hp => ⟨hp.1, hp.2.1, hp.2.2.1, by rw [e]; exact hp.2.2.2⟩) (fun P a v B hp hq => ?_)
  obtain ⟨L, ⟨q1, q2, q3, q4, q5, q6, q7, ⟨V', v1, v2, v3, v4, v5⟩, q9⟩, hl, hc, hs⟩ := hq
  refine ⟨L, ⟨q1, q2, q3, q4, q5, q6, q7, ⟨V'.cls, v3, V', v1, rfl, by rw [v4, e, hlen], K4, fun i hi => ?_, fun i hi => ?_⟩, q9⟩, hl, hc, by rw [hs, e]⟩
  · have hi' : i < cs.length := by omega
    rw [v5 i (by omega), hcv i hi']; simp [List.getD_eq_getElem?_getD, hi']
  · have hi' : i < cs.length := by omega
    simp only [List.getD_eq_getElem?_getD, List.getElem?_map, List.getElem?_eq_getElem hi', Option.map_some, Option.getD_some]
    exact fits_lo8 _
end StrChars.Road
namespace StrChars.Road
open Jvm Sem ClassFile Op Lib Jvm.Stand Jvm.Free Jvm.Free.XT
/-- WHAT COMES BACK, in the writer's own shape -/
def QV (Z : State) (x : Addr) (N : Int32) (bs : List Int32) (h : Heap) (n0 : Nat) (v : Option Value) (h' : Heap) (L : List Loc) : Prop := v = none ∧ RoadKit.Fr n0 L ∧ RoadKit.Keep h h' [x] ∧ RoadKit.Exa Z h' x ST ∧ RoadKit.Fld Z h' x ST "coder" "B" (.int 0) ∧
  ∃ (t : Addr) (kb : ClassId), n0 ≤ t ∧ h.size ≤ t ∧ ¬ t = x ∧ RoadKit.Fld Z h' x ST "value" "[B" (.ref t) ∧ RoadKit.Arv Z h' t kb .byte N (bs.map Value.int) (.int 0)
/-- **new String(chars) AT A CALL, FOR THE WRITER**: a char[] of n known ints, each 0 to 255 -/
theorem backV {p : Program} {l : Launch} {e : Env} {R : Room} {s : State} {args : Array Value} {below : List Frame} {len W : Nat} {Z : State} {a0 : Array Value} {h : Heap} (hZ : Z.Warmed39 s.vm) (hw : ∀ d ∈ words, d.before a0 Z = true) {kI : Nat} (wi : (Jvm.Cond.instantiable ST kI).before a0 Z = true)
    {x b : Addr} {kC : ClassId} {cs bs : List Int32} {d v0 c0 : Value} {z N : Int32} {n n0 : Nat} (hx0 : n0 ≤ x) (hh0 : n0 ≤ h.size) (E : RoadKit.Exa Z h x ST) (V : RoadKit.Fld Z h x ST "value" "[B" v0) (C : RoadKit.Fld Z h x ST "coder" "B" c0) (K : RoadKit.Arv Z h b kC .char N (cs.map Value.int) d) (S : RoadKit.Sta Z h ST "COMPACT_STRINGS" "Z" (.int z)) (hz : ¬ z = 0)
    (hn : cs.length = n) (hN : N = Int32.ofNat n) (l0 : 0 < n) (l2 : n ≤ 4000) (hp : ∀ c ∈ cs, ¬ c < 0 ∧ ¬ (255 : Int32) < c) (hb : bs = cs.map (fun c => c.toInt8.toInt32)) (hfr : 4 ≤ R.frames) (hlo : W + 65 ≤ R.locals) :
    Back l R p e below s args (⟨"java/lang/String", "<init>", "([C)V"⟩ : MethodName) len W (fun P a => a = #[.ref x, .ref b] ∧ P.U.heap = h ∧ P.cells + 1 ≤ R.cells ∧ P.slots + n ≤ R.slots)
      (fun P _ v B => ∃ L, QV Z x N bs h n0 v B.U.heap L ∧ B.locs = P.locs ++ L ∧ B.cells = P.cells + 1 ∧ B.slots = P.slots + n) := by
  subst hn hN hb
  refine Back.mono (backArv hZ hw wi E V C K S hz (n32 (by omega)) l0 (by omega) (fun c hc => (hp c hc).2) hfr hlo) (fun P a hp => hp) (fun P a v B hp hq => ?_)
  obtain ⟨L, ⟨q1, q2, q3, q4, q5, q6, q7, ⟨kb, v1, v2⟩, q9⟩, hl, hc, hs⟩ := hq
  exact ⟨L, ⟨q1, fun y hy => by rw [q2 y hy]; exact hx0, q3, q5, q7, h.size, kb, hh0, Nat.le_refl _, Nat.ne_of_gt E.lt, q6, by rw [List.map_map]; exact v2⟩, hl, hc, hs⟩
end StrChars.Road
namespace StrChars
open Jvm Sem ClassFile Op Lib Jvm.Stand Jvm.Free.XT Jvm.Free.ALB Jvm.Free.JM Jvm.Free
open Jvm.Lib.Cold (StaticIs)
def hi8 (x : Int32) : Int32 := lo8 (x >>> ((8 : Int32) &&& 31))
/-- what StringUTF16.getChar makes of two bytes -/
def pairCh (u v : Int32) : Int32 := (((u &&& 255) <<< ((0 : Int32) &&& 31)) ||| ((v &&& 255) <<< ((8 : Int32) &&& 31))).toUInt32.toUInt16.toUInt32.toInt32
theorem lo8_and (x : Int32) : (lo8 x &&& 255).toBitVec.toNat = x.toBitVec.toNat % 256 := by
  have h : (lo8 x).toBitVec = (x.toBitVec.signExtend 8).signExtend 32 := by rw [lo8, Int8.toBitVec_toInt32, Int32.toBitVec_toInt8]
  rw [Int32.toBitVec_and, BitVec.toNat_and, h]
  have e : ((x.toBitVec.signExtend 8).signExtend 32).toNat % 256 = x.toBitVec.toNat % 256 := by
    rw [BitVec.toNat_signExtend]
    have hlt := x.toBitVec.isLt
    simp only [BitVec.toNat_setWidth, BitVec.toNat_signExtend]
    split <;> split <;> omega
  rw [← e]
  exact Nat.and_two_pow_sub_one_eq_mod _ 8
theorem pair_says {c : Int32} (h0 : ¬ c < 0) (h1 : ¬ 65535 < c) : pairCh (lo8 c) (hi8 c) = c := by
  rw [Int32.lt_iff_toInt_lt] at h0 h1
  have e0 : (0 : Int32).toInt = 0 := rfl
  have e1 : (65535 : Int32).toInt = 65535 := rfl
  have hc : c.toInt = c.toBitVec.toNat := by
    have := c.toBitVec.isLt
    have e : c.toInt = c.toBitVec.toInt := rfl
    rw [e] at h0 h1
    rw [e]
    rw [BitVec.toInt_eq_toNat_cond] at h0 h1 ⊢
    split at h0 <;> split <;> omega
  have hn : c.toBitVec.toNat < 65536 := by omega
  have a1 := lo8_and c
  have a2 : (hi8 c &&& 255).toBitVec.toNat = c.toBitVec.toNat / 256 := by
    rw [hi8, lo8_and]
    have e : ((8 : Int32) &&& 31) = 8 := by decide
    rw [e, Int32.toBitVec_shiftRight]
    have e2 : ((8 : Int32).toBitVec.smod 32) = 8#32 := by decide
    rw [e2, BitVec.sshiftRight_eq', BitVec.toNat_sshiftRight_of_msb_false (by rw [BitVec.msb_eq_false_iff_two_mul_lt]; omega)]
    show c.toBitVec.toNat >>> 8 % 256 = _
    rw [Nat.shiftRight_eq_div_pow]
    omega
  unfold pairCh
  apply Int32.toBitVec_inj.mp
  apply BitVec.eq_of_toNat_eq
  have f0 : ((0 : Int32) &&& 31) = 0 := by decide
  have f8 : ((8 : Int32) &&& 31) = 8 := by decide
  rw [f0, f8]
  have g : (((lo8 c &&& 255) <<< (0 : Int32)) ||| ((hi8 c &&& 255) <<< (8 : Int32))).toBitVec.toNat = c.toBitVec.toNat := by
    rw [Int32.toBitVec_or, Int32.toBitVec_shiftLeft, Int32.toBitVec_shiftLeft]
    have s0 : ((0 : Int32).toBitVec.smod 32) = 0#32 := by decide
    have s8 : ((8 : Int32).toBitVec.smod 32) = 8#32 := by decide
    rw [s0, s8, BitVec.toNat_or]
    simp only [BitVec.shiftLeft_eq', BitVec.toNat_shiftLeft, a1, a2]
    show (c.toBitVec.toNat % 256) <<< 0 % 2 ^ 32 ||| (c.toBitVec.toNat / 256) <<< 8 % 2 ^ 32 = _
    rw [Nat.shiftLeft_zero, Nat.mod_eq_of_lt (show c.toBitVec.toNat % 256 < 2 ^ 32 by omega), Nat.mod_eq_of_lt (show (c.toBitVec.toNat / 256) <<< 8 < 2 ^ 32 by rw [Nat.shiftLeft_eq]; omega), Nat.or_comm, ← Nat.shiftLeft_add_eq_or_of_lt (by omega), Nat.shiftLeft_eq]
    omega
  show BitVec.toNat (((((lo8 c &&& 255) <<< (0 : Int32)) ||| ((hi8 c &&& 255) <<< (8 : Int32))).toBitVec.setWidth 16).setWidth 32) = _
  rw [BitVec.toNat_setWidth, BitVec.toNat_setWidth, g]
  omega
end StrChars
namespace StrChars
open Jvm Sem ClassFile Op Lib Jvm.Stand Jvm.Free.XT Jvm.Free.ALB Jvm.Free.JM Jvm.Free
open Jvm.Lib.Cold (StaticIs)
/-- charAt's cast of a byte read back -/
def chr8 (u : Int32) : Int32 := (u &&& 255).toUInt32.toUInt16.toUInt32.toInt32
theorem chr8_lo8 {c : Int32} (h0 : ¬ c < 0) (h1 : ¬ 255 < c) : chr8 (lo8 c) = c := by
  have t : ∀ k : Fin 256, (Int32.ofNat k.val).toUInt32.toUInt16.toUInt32.toInt32 = Int32.ofNat k.val := by decide +kernel
  unfold chr8
  rw [lo8_mask h0 h1]
  rw [Int32.lt_iff_toInt_lt] at h0 h1
  have e0 : (0 : Int32).toInt = 0 := rfl
  have e1 : (255 : Int32).toInt = 255 := rfl
  obtain ⟨k, hk⟩ : ∃ k : Nat, c.toInt = k := ⟨c.toInt.toNat, by omega⟩
  have hx : c = Int32.ofNat k := Int32.toInt_inj.mp (by rw [hk, Int32.toInt_ofNat_small (by omega)])
  rw [hx]
  exact t ⟨k, by omega⟩
theorem narrow_ch {c : Int32} (h0 : ¬ c < 0) (h1 : ¬ 65535 < c) : narrow .char (.int c) = .int c := by
  have q : narrow .char (.int (pairCh (lo8 c) (hi8 c))) = .int (pairCh (lo8 c) (hi8 c)) := narrow_c _
  rwa [pair_says h0 h1] at q
/-- the array's cell V codes the n chars f 0 .. f (n - 1) by the coder cd, as the JDK does: coder 1 just where some char is above 255 -/
def Cod (cd : Int32) (n : Nat) (f : Nat → Int32) (V : Cell) : Prop := (cd = 0 ∧ V.slots.size = n ∧ ∀ j, j < n → V.slots[j]? = some (.int (lo8 (f j))) ∧ ¬ 255 < f j) ∨ (cd = 1 ∧ V.slots.size = 2 * n ∧ (∀ j, j < n → V.slots[2 * j]? = some (.int (lo8 (f j))) ∧ V.slots[2 * j + 1]? = some (.int (hi8 (f j)))) ∧ ∃ j, j < n ∧ 255 < f j)
theorem Cod.cd {cd : Int32} {n : Nat} {f : Nat → Int32} {V : Cell} (h : Cod cd n f V) : cd = 0 ∨ cd = 1 := h.imp (fun q => q.1) fun q => q.1
/-- **x is a String of the n chars f 0 .. f (n - 1)**, Latin-1 or UTF-16; its array at t has the cell V -/
def Txt (x t : Addr) (V : Cell) (cd : Int32) (n : Nat) (f : Nat → Int32) (U : State) : Prop := Exact "java/lang/String" x U ∧ Has x "java/lang/String" "value" "[B" (.ref t) U ∧ Has x "java/lang/String" "coder" "B" (.int cd) U ∧ XT.Arr .byte t V U ∧ Cod cd n f V ∧ ∀ j, j < n → ¬ f j < 0 ∧ ¬ 65535 < f j
theorem Txt.mv {x t : Addr} {V : Cell} {cd : Int32} {n : Nat} {f : Nat → Int32} {U U' : State} (h : Txt x t V cd n f U) (hal : U.vm.Alike U'.vm) (hh : U'.heap = U.heap) : Txt x t V cd n f U' := ⟨h.1.mv hal hh, h.2.1.mv hal hh, h.2.2.1.mv hal hh, h.2.2.2.1.mv hal hh, h.2.2.2.2⟩
namespace IsL
def yN : MethodName := ⟨"java/lang/String", "isLatin1", "()Z"⟩
abbrev yB : ByteArray := jdk_42_method_154_code
theorem d0 : decode yB 0 = .ok (.getstatic 38, 3) := by decide +kernel
theorem d3 : decode yB 3 = .ok (.ifCond (.eq) 14, 3) := by decide +kernel
theorem d6 : decode yB 6 = .ok (.aload_n 0, 1) := by decide +kernel
theorem d7 : decode yB 7 = .ok (.getfield 15, 3) := by decide +kernel
theorem d10 : decode yB 10 = .ok (.ifCond (.ne) 7, 3) := by decide +kernel
theorem d13 : decode yB 13 = .ok (.iconst 1, 1) := by decide +kernel
theorem d14 : decode yB 14 = .ok (.goto 4, 3) := by decide +kernel
theorem d17 : decode yB 17 = .ok (.iconst 0, 1) := by decide +kernel
theorem d18 : decode yB 18 = .ok (.ireturn, 1) := by decide +kernel
def site : List Cond := [.fieldLink "java/lang/String" 38 "java/lang/String" "COMPACT_STRINGS" "Z", .fieldLink "java/lang/String" 15 "java/lang/String" "coder" "B"]
def tab : Cond := tabOf yN yB 1 (some .boolean) site
def P (x : Addr) (cd z : Int32) (args : Array Value) (s : State) : Prop := args = #[.ref x] ∧ Has x "java/lang/String" "coder" "B" (.int cd) s ∧ (cd = 0 ∨ cd = 1) ∧ StaticIs s "java/lang/String" "COMPACT_STRINGS" "Z" (.int z) ∧ ¬ z = 0
def E (cd : Int32) (r : Option Value) (s u : State) : Prop := XT.PureE (some (.int (1 - cd))) r s u
theorem law (l : Launch) (x : Addr) (cd z : Int32) : Law l yN 1 0 0 0 yB 1 (some .boolean) site (P x cd z) (E cd) [] 0 0 := by
  refine Law.of_walk (plainFor_of_name (by decide +kernel)) (by decide +kernel) (by decide +kernel) (by decide) (fun _ _ h => by rw [h.1]; rfl) (fun _ U U' hal hh h => ⟨h.1, h.2.1.mv hal hh, h.2.2.1, h.2.2.2.1.there hal hh, h.2.2.2.2⟩) (fun r U U' V V' h1 hal h2 h => XT.PureE.mv r U U' V V' h1 hal h2 h) ?_
  intro p e s m args below meth c s₁ X0 hexec hbytes hml hret hlk hnm hown hh0 W hP
  obtain ⟨rfl, hx, hc, s1, hz⟩ := hP
  have c1 : Steps p.tables e below (s₁.setTop (entryFrame m #[.ref x] 1)) (s₁.setTop (mkF m 0 #[.val (.ref x)] [])) := entry rfl
  obtain ⟨T2, X2, q2, st2⟩ := X0.sget hexec hown (wk W (.fieldLink "java/lang/String" 38 "java/lang/String" "COMPACT_STRINGS" "Z")) s1 (fun _ _ h => by rw [hh0]; exact h) (g := (mkF m 0 #[.val (.ref x)] [])) rfl (hb hbytes d0)
  have hh2 := q2.trans hh0
  have c3 : Steps p.tables e below (s₁.setTop (entryFrame m #[.ref x] 1)) (T2.setTop (mkF m 7 #[.val (.ref x)] [.ref x])) := (c1.trans (st2 _ (Steps.refl _))).trans (by
    refine XS.ifNo X2.here hexec rfl (hb hbytes d3) rfl (i0_eq_f hz) ?_
    refine XS.aloadN X2.here hexec rfl (hb hbytes d6) rfl rfl ?_
    exact Steps.refl _)
  obtain ⟨T4, X4, q4, st4⟩ := X2.hget hexec hown (wk W (.fieldLink "java/lang/String" 15 "java/lang/String" "coder" "B")) (hx.mv X2.warmed.alike hh2) (g := (mkF m 7 #[.val (.ref x)] [.ref x])) rfl (rest := []) rfl (hb hbytes d7)
  have c5 : Steps p.tables e below (s₁.setTop (entryFrame m #[.ref x] 1)) (T4.setTop (mkF m 10 #[.val (.ref x)] [.int cd])) := c3.trans (st4 _ (Steps.refl _))
  have c6 : Steps p.tables e below (s₁.setTop (entryFrame m #[.ref x] 1)) (T4.setTop (mkF m 18 #[.val (.ref x)] [.int (1 - cd)])) := by
    rcases hc with rfl | rfl
    · exact c5.trans (by
        refine XS.ifNo X4.here hexec rfl (hb hbytes d10) rfl (i0_ne_f rfl) ?_
        refine iconstV X4.here hexec rfl 1 (hb hbytes d13) (by decide) ?_
        refine XS.goto X4.here hexec rfl (pc0 := 14) rfl (hb hbytes d14) (by decide) rfl ?_
        exact Steps.refl _)
    · exact c5.trans (by
        refine XS.ifYes X4.here hexec rfl (pc0 := 10) rfl (hb hbytes d10) rfl (i0_ne_t (by decide)) (by decide) rfl ?_
        refine iconstV X4.here hexec rfl 0 (hb hbytes d17) (by decide) ?_
        exact Steps.refl _)
  exact ⟨T4, some (.int (1 - cd)), _, _, _, X4, rfl, rfl, rfl, (fun h => by cases h), ⟨rfl, q4.trans hh2⟩, fun fs hl => c6.trans (X4.ireturnOut hexec hret (by rcases hc with rfl | rfl <;> rfl) (Or.inr (Or.inl rfl)) (hb hbytes d18) hl)⟩
end IsL
namespace LChA
def yN : MethodName := ⟨"java/lang/StringLatin1", "charAt", "([BI)C"⟩
abbrev yB : ByteArray := jdk_43_method_2_code
theorem d0 : decode yB 0 = .ok (.iload_n 1, 1) := by decide +kernel
theorem d1 : decode yB 1 = .ok (.aload_n 0, 1) := by decide +kernel
theorem d2 : decode yB 2 = .ok (.arraylength, 1) := by decide +kernel
theorem d3 : decode yB 3 = .ok (.invokestatic 9, 3) := by decide +kernel
theorem d6 : decode yB 6 = .ok (.aload_n 0, 1) := by decide +kernel
theorem d7 : decode yB 7 = .ok (.iload_n 1, 1) := by decide +kernel
theorem d8 : decode yB 8 = .ok (.baload, 1) := by decide +kernel
theorem d9 : decode yB 9 = .ok (.sipush 255, 3) := by decide +kernel
theorem d12 : decode yB 12 = .ok (.iand, 1) := by decide +kernel
theorem d13 : decode yB 13 = .ok (.i2c, 1) := by decide +kernel
theorem d14 : decode yB 14 = .ok (.ireturn, 1) := by decide +kernel
def site : List Cond := [JO.Str_checkIndex.tab] ++ staticW "java/lang/StringLatin1" 9 JO.Str_checkIndex.yN
def tab : Cond := tabOf yN yB 2 (some .char) site
def P (t : Addr) (V : Cell) (i : Nat) (u : Int32) (fm : Value) (args : Array Value) (s : State) : Prop := args = #[.ref t, .int (Int32.ofNat i)] ∧ XT.Arr .byte t V s ∧ V.slots[i]? = some (.int u) ∧ (StaticIs s "jdk/internal/util/Preconditions" "SIOOBE_FORMATTER" "Ljava/util/function/BiFunction;" fm ∧ fm.isRef = true)
def E (u : Int32) (r : Option Value) (s w : State) : Prop := XT.PureE (some (.int (chr8 u))) r s w
theorem law (l : Launch) (t : Addr) (V : Cell) (i : Nat) (u : Int32) (fm : Value) : Law l yN 2 2 2 27 yB 2 (some .char) site (P t V i u fm) (E u) [] 0 0 := by
  refine Law.of_walk (plainFor_of_name (by decide +kernel)) (by decide +kernel) (by decide +kernel) (by decide) (fun _ _ h => by rw [h.1]; rfl) (fun _ U U' hal hh h => ⟨h.1, h.2.1.mv hal hh, h.2.2.1, h.2.2.2.1.there hal hh, h.2.2.2.2⟩) (fun r U U' V V' h1 hal h2 h => XT.PureE.mv r U U' V V' h1 hal h2 h) ?_
  intro p e s m args below meth c s₁ X0 hexec hbytes hml hret hlk hnm hown hh0 W hP
  obtain ⟨rfl, hV, hu, s1, rf⟩ := hP
  have v31 := hV.2.2.2
  have hi : i < V.slots.size := (Array.getElem?_eq_some_iff.mp hu).1
  have c1 : Steps p.tables e below (s₁.setTop (entryFrame m #[.ref t, .int (Int32.ofNat i)] 2)) (s₁.setTop (mkF m 0 #[.val (.ref t), .val (.int (Int32.ofNat i))] [])) := entry rfl
  have c2 : Steps p.tables e below (s₁.setTop (entryFrame m #[.ref t, .int (Int32.ofNat i)] 2)) (s₁.setTop (mkF m 3 #[.val (.ref t), .val (.int (Int32.ofNat i))] [.int (Int32.ofNat V.slots.size), .int (Int32.ofNat i)])) := c1.trans (by
    refine XS.iloadN X0.here hexec rfl (hb hbytes d0) rfl ?_
    refine XS.aloadN X0.here hexec rfl (hb hbytes d1) rfl rfl ?_
    refine X0.alen hexec (hV.mv X0.warmed.alike hh0) rfl rfl (hb hbytes d2) ?_
    exact Steps.refl _)
  obtain ⟨v3, T3, X3, E3, g3⟩ := X0.callS hexec (JO.Str_checkIndex.law l (Int32.ofNat i) (Int32.ofNat V.slots.size) fm) hown (wks W (staticW "java/lang/StringLatin1" 9 JO.Str_checkIndex.yN)) (wk W JO.Str_checkIndex.tab) (W := 0) (Nat.le_of_ble_eq_true rfl) (Nat.le_of_ble_eq_true rfl) (Nat.le_refl _) (Nat.le_refl _) (g := (mkF m 3 #[.val (.ref t), .val (.int (Int32.ofNat i))] [.int (Int32.ofNat V.slots.size), .int (Int32.ofNat i)])) rfl (by rw [hml]; rfl) c2 (argsL := [.int (Int32.ofNat i), .int (Int32.ofNat V.slots.size)]) (rest := []) rfl rfl (by show 2 * 0 + 0 ≤ _; decide) (hb hbytes d3) (⟨rfl, rf, s1.there X0.warmed.alike hh0, Int32.ofNat_not_neg (by omega), lt32 v31 hi⟩)
  obtain ⟨rfl, q3⟩ := E3
  have hh3 := q3.trans hh0
  have c4 : Steps p.tables e below (s₁.setTop (entryFrame m #[.ref t, .int (Int32.ofNat i)] 2)) (T3.setTop (mkF m 14 #[.val (.ref t), .val (.int (Int32.ofNat i))] [.int (chr8 u)])) := Steps.trans g3 (by
    refine XS.aloadN X3.here hexec rfl (hb hbytes d6) rfl rfl ?_
    refine XS.iloadN X3.here hexec rfl (hb hbytes d7) rfl ?_
    refine X3.aget hexec (hV.mv X3.warmed.alike hh3) rfl hu rfl rfl (hb hbytes d8) ?_
    refine sipushV X3.here hexec rfl 255 (hb hbytes d9) (by decide) ?_
    refine XS.iand X3.here hexec rfl (hb hbytes d12) rfl ?_
    refine i2c X3.here hexec rfl (hb hbytes d13) rfl ?_
    exact Steps.refl _)
  exact ⟨T3, some (.int (chr8 u)), _, _, _, X3, rfl, rfl, rfl, (fun h => by cases h), ⟨rfl, hh3⟩, fun fs hl => c4.trans (X3.ireturnOut hexec hret (narrow_c _) (Or.inr (Or.inr (Or.inr (Or.inl rfl)))) (hb hbytes d14) hl)⟩
end LChA
end StrChars
namespace StrChars.Road
open Jvm Sem ClassFile Op Lib Jvm.Stand Jvm.Free Jvm.Free.XT
open Jvm.Lib.Cold (StaticIs)
theorem consq {a : Array Value} {s : State} {c : Jvm.Cond} {L : List Jvm.Cond} (h0 : c.before a s = true) (h : ∀ w ∈ L, w.before a s = true) : ∀ w ∈ c :: L, w.before a s = true := fun w hw => (List.mem_cons.mp hw).elim (fun e => e ▸ h0) (h w)
/-- the bytes of the chars cs, low before high -/
def wideBytes : List Int32 → List Value
  | [] => []
  | c :: cs => .int (lo8 c) :: .int (hi8 c) :: wideBytes cs
theorem wide_lo (d : Value) : ∀ (cs : List Int32) (j : Nat), j < cs.length → (wideBytes cs).getD (2 * j) d = .int (lo8 (cs.getD j 0))
  | [], j, h => absurd h (Nat.not_lt_zero j)
  | c :: cs, 0, _ => rfl
  | c :: cs, j + 1, h => by
    have q := wide_lo d cs j (by simpa using h)
    rw [show 2 * (j + 1) = 2 * j + 1 + 1 from by omega]
    simpa [wideBytes] using q
theorem wide_hi (d : Value) : ∀ (cs : List Int32) (j : Nat), j < cs.length → (wideBytes cs).getD (2 * j + 1) d = .int (hi8 (cs.getD j 0))
  | [], j, h => absurd h (Nat.not_lt_zero j)
  | c :: cs, 0, _ => rfl
  | c :: cs, j + 1, h => by
    have q := wide_hi d cs j (by simpa using h)
    rw [show 2 * (j + 1) + 1 = 2 * j + 1 + 1 + 1 from by omega]
    simpa [wideBytes] using q
theorem low_at (d : Value) (cs : List Int32) (j : Nat) (h : j < cs.length) : (cs.map fun c => Value.int (lo8 c)).getD j d = .int (lo8 (cs.getD j 0)) := by
  simp [List.getD_eq_getElem?_getD, h]
/-- an array of N2 bytes vs codes the chars cs by the coder cd -/
def CodA (cs : List Int32) (cd N2 : Int32) (vs : List Value) : Prop := (cd = 0 ∧ N2 = Int32.ofNat cs.length ∧ vs = (cs.map fun c => Value.int (lo8 c)) ∧ ∀ c ∈ cs, ¬ 255 < c) ∨ (cd = 1 ∧ N2 = Int32.ofNat (2 * cs.length) ∧ vs = wideBytes cs ∧ ∃ c ∈ cs, 255 < c)
theorem CodA.cod {cs : List Int32} {cd N2 : Int32} {vs : List Value} {V : Cell} (h : CodA cs cd N2 vs) (hn : 2 * cs.length < 2 ^ 31) (hs : V.slots.size = N2.toNatClampNeg) (hv : RoadKit.Has V vs (.int 0)) : Cod cd cs.length (fun j => cs.getD j 0) V := by
  rcases h with ⟨rfl, rfl, rfl, h⟩ | ⟨rfl, rfl, rfl, c, hc, hw⟩
  · rw [n32 (by omega)] at hs
    exact Or.inl ⟨rfl, hs, fun j hj => ⟨by rw [hv j (by omega), low_at _ _ _ hj], by
      have e : cs.getD j 0 = cs[j] := by simp [List.getD_eq_getElem?_getD, hj]
      show ¬ 255 < cs.getD j 0
      rw [e]; exact h _ (List.getElem_mem _)⟩⟩
  · rw [n32 (by omega)] at hs
    obtain ⟨j, hj, rfl⟩ := List.getElem_of_mem hc
    exact Or.inr ⟨rfl, hs, fun j hj => ⟨by rw [hv _ (by omega), wide_lo _ _ _ hj], by rw [hv _ (by omega), wide_hi _ _ _ hj]⟩, j, hj, by
      have e : cs.getD j 0 = cs[j] := by simp [List.getD_eq_getElem?_getD, hj]
      show 255 < cs.getD j 0
      rw [e]; exact hw⟩
/-- an object of exactly java/lang/String, its two fields found: as the laws ask it -/
theorem strObj {Z U : State} {a0 : Array Value} {kI : Nat} (wi : (Jvm.Cond.instantiable ST kI).before a0 Z = true) (al : Z.vm.Alike U.vm) {x : Addr} {v0 c0 : Value} (E : RoadKit.Exa Z U.heap x ST) (V : RoadKit.Fld Z U.heap x ST "value" "[B" v0) (C : RoadKit.Fld Z U.heap x ST "coder" "B" c0) :
    ∃ (D : Cell) (fV fC : Field), Blank ST x D U ∧ Found ST "value" "[B" fV U ∧ Found ST "coder" "B" fC U ∧ D.slots[fV.slot]? = some v0 ∧ D.slots[fC.slot]? = some c0 ∧ RoadKit.slotOf Z ST "value" "[B" = fV.slot ∧ RoadKit.slotOf Z ST "coder" "B" = fC.slot := by
  obtain ⟨D, cfV, kV, iV, fV, hD, gV, stV, knV, obV, asV, slV⟩ := V
  obtain ⟨D', cfC, kC, iC, fC, hD', gC, stC, -, -, asC, slC⟩ := C
  cases hD.symm.trans hD'
  obtain ⟨D2, kD, e1, e2, e3, e4, e5⟩ := E
  cases hD.symm.trans e1
  obtain ⟨c2, k2, i1, i2, i3, -⟩ := Cond.instantiable_spec wi
  cases e2.symm.trans i1
  cases e3.symm.trans i2
  obtain ⟨kU, u1, u2⟩ := al.2.2 _ _ e3
  exact ⟨D, fV, fC, ⟨hD, ⟨knV, fun q hq => by rw [hq] at obV; cases obV⟩, by rw [al.findClass]; exact e2, kU, u1, by rw [u2]; exact i3, by rw [u2]; exact e5 i3⟩, ⟨SBG.found_only al ⟨cfV, kV, iV, gV⟩, stV⟩, ⟨SBG.found_only al ⟨cfC, kC, iC, gC⟩, stC⟩, slV, slC, by simp [RoadKit.slotOf, gV], by simp [RoadKit.slotOf, gC]⟩
theorem sta_is {Z U : State} (al : Z.vm.Alike U.vm) {C n d : String} {v : Value} (S : RoadKit.Sta Z U.heap C n d v) : StaticIs U C n d v := by
  obtain ⟨cfS, iS, kS, fS, st, cS, t1, t2, t3, t4, t5, t6, t7⟩ := S
  exact StaticIs.there (s := { Z with heap := U.heap }) ⟨cfS, iS, kS, fS, st, cS, t1, t2, t3, t4, t5, (fun q => by rw [q] at t6; cases t6), t7⟩ al rfl
end StrChars.Road
namespace StrChars.Road
open Jvm Sem ClassFile Op Lib Jvm.Stand Jvm.Free Jvm.Free.XT
open Jvm.Lib.Cold (StaticIs)
/-- the road's facts of a String, as the laws ask it -/
theorem txt_of {Z U : State} {a0 : Array Value} {kI : Nat} (wi : (Jvm.Cond.instantiable ST kI).before a0 Z = true) (al : Z.vm.Alike U.vm) {x t : Addr} {kb : ClassId} {cs : List Int32} {cd N2 : Int32} {vs : List Value} (E : RoadKit.Exa Z U.heap x ST) (V : RoadKit.Fld Z U.heap x ST "value" "[B" (.ref t)) (C : RoadKit.Fld Z U.heap x ST "coder" "B" (.int cd)) (K : RoadKit.Arv Z U.heap t kb .byte N2 vs (.int 0)) (hc : CodA cs cd N2 vs) (hb : ∀ c ∈ cs, ¬ c < 0 ∧ ¬ (65535 : Int32) < c) (l2 : cs.length ≤ 4000) :
    ∃ A, Txt x t A cd cs.length (fun j => cs.getD j 0) U := by
  obtain ⟨A, K1, K2, K3, K4, K5, K6⟩ := K
  have hcod := hc.cod (by omega) K3 K5
  obtain ⟨D, fV, fC, hB, F1, F2, g1, g2, -, -⟩ := strObj wi al E V C
  exact ⟨A, ⟨_, hB.2.2.1, D, hB.1, rfl, by cases q : D.vm <;> first | rfl | exact absurd q (hB.2.1.2 _)⟩, Has.of hB F1 g1, Has.of hB F2 g2, ⟨K1.1, State.isArrayOf_alike al K1.2.1, K1.2.2, by rcases hcod with ⟨-, q, -⟩ | ⟨-, q, -⟩ <;> omega⟩, hcod, fun j hj => by
    have e : cs.getD j 0 = cs[j] := by simp [List.getD_eq_getElem?_getD, hj]
    show ¬ cs.getD j 0 < 0 ∧ ¬ 65535 < cs.getD j 0
    rw [e]; exact hb _ (List.getElem_mem _)⟩
end StrChars.Road
namespace StrChars
open Jvm Sem ClassFile Op Lib Jvm.Stand Jvm.Free.XT Jvm.Free.ALB Jvm.Free.JM Jvm.Free
open Jvm.Lib.Cold (StaticIs)
namespace ChN
def yN : MethodName := ⟨"java/lang/String", "charAt", "(I)C"⟩
abbrev yB : ByteArray := jdk_42_method_56_code
theorem d0 : decode yB 0 = .ok (.aload_n 0, 1) := by decide +kernel
theorem d1 : decode yB 1 = .ok (.invokevirtual 492, 3) := by decide +kernel
theorem d4 : decode yB 4 = .ok (.ifCond (.eq) 12, 3) := by decide +kernel
theorem d7 : decode yB 7 = .ok (.aload_n 0, 1) := by decide +kernel
theorem d8 : decode yB 8 = .ok (.getfield 9, 3) := by decide +kernel
theorem d11 : decode yB 11 = .ok (.iload_n 1, 1) := by decide +kernel
theorem d12 : decode yB 12 = .ok (.invokestatic 495, 3) := by decide +kernel
theorem d15 : decode yB 15 = .ok (.ireturn, 1) := by decide +kernel
def site : List Cond := [.fieldLink "java/lang/String" 9 "java/lang/String" "value" "[B", IsL.tab, LChA.tab] ++ virtW "java/lang/String" 492 "java/lang/String" IsL.yN IsL.yN ++ staticW "java/lang/String" 495 LChA.yN
def tab : Cond := tabOf yN yB 2 (some .char) site
def P (x t : Addr) (V : Cell) (n : Nat) (f : Nat → Int32) (z : Int32) (fm : Value) (i : Nat) (args : Array Value) (s : State) : Prop := args = #[.ref x, .int (Int32.ofNat i)] ∧ Txt x t V 0 n f s ∧ i < n ∧ StaticIs s "java/lang/String" "COMPACT_STRINGS" "Z" (.int z) ∧ ¬ z = 0 ∧ StaticIs s "jdk/internal/util/Preconditions" "SIOOBE_FORMATTER" "Ljava/util/function/BiFunction;" fm ∧ fm.isRef = true
def E (f : Nat → Int32) (i : Nat) (r : Option Value) (s u : State) : Prop := XT.PureE (some (.int (f i))) r s u
/-- charAt(i) of a Latin-1 String of n chars, i < n: f i -/
theorem law (l : Launch) (x t : Addr) (V : Cell) (n : Nat) (f : Nat → Int32) (z : Int32) (fm : Value) (i : Nat) : Law l yN 2 1 3 40 yB 2 (some .char) site (P x t V n f z fm i) (E f i) [] 0 0 := by
  refine Law.of_walk (plainFor_of_name (by decide +kernel)) (by decide +kernel) (by decide +kernel) (by decide) (fun _ _ h => by rw [h.1]; rfl) (fun _ U U' hal hh h => ⟨h.1, h.2.1.mv hal hh, h.2.2.1, h.2.2.2.1.there hal hh, h.2.2.2.2.1, h.2.2.2.2.2.1.there hal hh, h.2.2.2.2.2.2⟩) (fun r U U' V V' h1 hal h2 h => XT.PureE.mv r U U' V V' h1 hal h2 h) ?_
  intro p e s m args below meth c s₁ X0 hexec hbytes hml hret hlk hnm hown hh0 W hP
  obtain ⟨rfl, hx, hi, s1, hz, s3, rf⟩ := hP
  have v31 := hx.2.2.2.1.2.2.2
  have hr := hx.2.2.2.2.2 i hi
  have hx0 := hx.mv X0.warmed.alike hh0
  have c1 : Steps p.tables e below (s₁.setTop (entryFrame m #[.ref x, .int (Int32.ofNat i)] 2)) (s₁.setTop (mkF m 1 #[.val (.ref x), .val (.int (Int32.ofNat i))] [.ref x])) := Steps.trans (entry rfl) (by
    show Steps p.tables e below (s₁.setTop (mkF m 0 #[.val (.ref x), .val (.int (Int32.ofNat i))] [])) _
    refine XS.aloadN X0.here hexec rfl (hb hbytes d0) rfl rfl ?_
    exact Steps.refl _)
  obtain ⟨v2, T2, X2, E2, g2⟩ := X0.callV hexec (IsL.law l x 0 z) hown (wks W (virtW "java/lang/String" 492 "java/lang/String" IsL.yN IsL.yN)) rfl (by decide) (wk W IsL.tab) (W := 0) (Nat.le_of_ble_eq_true rfl) (Nat.le_of_ble_eq_true rfl) (Nat.le_refl _) (Nat.le_refl _) (hx0.1.fc X0.warmed.alike) hx0.1.is (g := (mkF m 1 #[.val (.ref x), .val (.int (Int32.ofNat i))] [.ref x])) rfl (by rw [hml]; rfl) c1 (argsL := []) (rest := []) rfl rfl (by show 2 * 0 + 0 ≤ _; decide) (hb hbytes d1) (⟨rfl, hx0.2.2.1, hx.2.2.2.2.1.cd, s1.there X0.warmed.alike hh0, hz⟩)
  obtain ⟨rfl, q2⟩ := E2
  have hh2 := q2.trans hh0
  have hx2 := hx.mv X2.warmed.alike hh2
  obtain ⟨-, k1, k2⟩ | ⟨k0, -⟩ := hx.2.2.2.2.1
  · have c3 : Steps p.tables e below (s₁.setTop (entryFrame m #[.ref x, .int (Int32.ofNat i)] 2)) (T2.setTop (mkF m 8 #[.val (.ref x), .val (.int (Int32.ofNat i))] [.ref x])) := Steps.trans g2 (by
      refine XS.ifNo X2.here hexec rfl (hb hbytes d4) rfl (i0_eq_f (by decide)) ?_
      refine XS.aloadN X2.here hexec rfl (hb hbytes d7) rfl rfl ?_
      exact Steps.refl _)
    obtain ⟨T4, X4, q4, st4⟩ := X2.hget hexec hown (wk W (.fieldLink "java/lang/String" 9 "java/lang/String" "value" "[B")) hx2.2.1 (g := (mkF m 8 #[.val (.ref x), .val (.int (Int32.ofNat i))] [.ref x])) rfl (rest := []) rfl (hb hbytes d8)
    have hh4 := q4.trans hh2
    have c5 : Steps p.tables e below (s₁.setTop (entryFrame m #[.ref x, .int (Int32.ofNat i)] 2)) (T4.setTop (mkF m 12 #[.val (.ref x), .val (.int (Int32.ofNat i))] [.int (Int32.ofNat i), .ref t])) := (c3.trans (st4 _ (Steps.refl _))).trans (by
      refine XS.iloadN X4.here hexec rfl (hb hbytes d11) rfl ?_
      exact Steps.refl _)
    obtain ⟨v6, T6, X6, E6, g6⟩ := X4.callS hexec (LChA.law l t V i (lo8 (f i)) fm) hown (wks W (staticW "java/lang/String" 495 LChA.yN)) (wk W LChA.tab) (W := 0) (Nat.le_of_ble_eq_true rfl) (Nat.le_of_ble_eq_true rfl) (Nat.le_refl _) (Nat.le_refl _) (g := (mkF m 12 #[.val (.ref x), .val (.int (Int32.ofNat i))] [.int (Int32.ofNat i), .ref t])) rfl (by rw [hml]; rfl) c5 (argsL := [.ref t, .int (Int32.ofNat i)]) (rest := []) rfl rfl (by show 2 * 0 + 0 ≤ _; decide) (hb hbytes d12) (⟨rfl, hx.2.2.2.1.mv X4.warmed.alike hh4, (k2 i hi).1, s3.there X4.warmed.alike hh4, rf⟩)
    obtain ⟨rfl, q6⟩ := E6
    rw [chr8_lo8 hr.1 (k2 i hi).2] at g6
    exact ⟨T6, some (.int (f i)), _, _, _, X6, rfl, rfl, rfl, (fun h => by cases h), ⟨rfl, q6.trans hh4⟩, fun fs hl => Steps.trans g6 (X6.ireturnOut hexec hret (narrow_ch hr.1 hr.2) (Or.inr (Or.inr (Or.inr (Or.inl rfl)))) (hb hbytes d15) hl)⟩
  · exact absurd k0 (by decide)
theorem pays {l : Launch} {R : Room} {p : Program} {e : Env} {below : List Frame} {s : State} {sargs : Array Value} {len W : Nat} (x t : Addr) (V : Cell) (n : Nat) (f : Nat → Int32) (z : Int32) (fm : Value) (i : Nat) (htab : tab.before sargs s = true) (hfr : 4 ≤ R.frames) (hlo : W + 53 ≤ R.locals) :
    Back l R p e below s sargs yN len W (fun A₁ a₁ => A₁.cells + 0 ≤ R.cells ∧ A₁.slots + 0 ≤ R.slots ∧ P x t V n f z fm i a₁ A₁.U) (fun A₁ _ v₁ B₁ => E f i v₁ A₁.U B₁.U ∧ B₁.locs = A₁.locs ++ [] ∧ B₁.cells = A₁.cells + 0 ∧ B₁.slots = A₁.slots + 0) :=
  (law l x t V n f z fm i).pays htab hfr (by omega)
end ChN
end StrChars
namespace StrChars.Road
open Jvm Sem ClassFile Op Lib Jvm.Stand Jvm.Free Jvm.Free.XT
open Jvm.Lib.Cold (StaticIs)
/-- the words of String.charAt(int), the Latin-1 road alone -/
abbrev wordsChN : List Jvm.Cond := [.code ChN.yN ChN.yB 2 (some .char), .initialized ST, .fieldLink ST 9 ST "value" "[B", .fieldLink ST 38 ST "COMPACT_STRINGS" "Z", .fieldLink ST 15 ST "coder" "B", .code IsL.yN IsL.yB 1 (some .boolean), .methodLink ST 492 IsL.yN, .declares IsL.yN, .selects ST IsL.yN IsL.yN, .instanceMethod IsL.yN,
  .methodLink ST 495 LChA.yN, .static LChA.yN, .code LChA.yN LChA.yB 2 (some .char), .initialized "java/lang/StringLatin1", .methodLink "java/lang/StringLatin1" 9 JO.Str_checkIndex.yN, .static JO.Str_checkIndex.yN, .code JO.Str_checkIndex.yN JO.Str_checkIndex.yB 2 none,
  .fieldLink ST 1053 "jdk/internal/util/Preconditions" "SIOOBE_FORMATTER" "Ljava/util/function/BiFunction;", .methodLink ST 1059 JC.PreCheck.yN, .static JC.PreCheck.yN, .code JC.PreCheck.yN JC.PreCheck.yB 3 (some .int), .initialized "jdk/internal/util/Preconditions"]
theorem tabChN_of {a : Array Value} {s : State} (h : ∀ w ∈ wordsChN, w.before a s = true) : ChN.tab.before a s = true := by
  have hp : JC.PreCheck.tab.before a s = true := unparts (wk h (.code JC.PreCheck.yN JC.PreCheck.yB 3 (some .int))) (wks h (.initialized JC.PreCheck.yN.cls :: JC.PreCheck.site))
  have qk := consq hp h
  have hk : JO.Str_checkIndex.tab.before a s = true := unparts (wk qk (.code JO.Str_checkIndex.yN JO.Str_checkIndex.yB 2 none)) (wks qk (.initialized JO.Str_checkIndex.yN.cls :: JO.Str_checkIndex.site))
  have ql := consq hk h
  have hl : LChA.tab.before a s = true := unparts (wk ql (.code LChA.yN LChA.yB 2 (some .char))) (wks ql (.initialized LChA.yN.cls :: LChA.site))
  have hi : IsL.tab.before a s = true := unparts (wk h (.code IsL.yN IsL.yB 1 (some .boolean))) (wks h (.initialized IsL.yN.cls :: IsL.site))
  have q := consq hi (consq hl h)
  exact unparts (wk q (.code ChN.yN ChN.yB 2 (some .char))) (wks q (.initialized ChN.yN.cls :: ChN.site))
theorem movedChN {Z s : State} {a0 args : Array Value} (hZ : Z.Warmed39 s.vm) (hw : ∀ d ∈ wordsChN, d.before a0 Z = true) : ∀ d ∈ wordsChN, d.before args s = true := fun d hd => by
  have t : ∀ d ∈ wordsChN, (d.onTables && d.keepsFace) = true := by decide +kernel
  exact RoadKit.mv hZ (hw d hd) (t d hd)
/-- **charAt(i) OF A LATIN-1 STRING**, i < n: the char -/
theorem chN {p : Program} {l : Launch} {e : Env} {R : Room} {s : State} {args : Array Value} {below : List Frame} {len W : Nat} {Z : State} {a0 : Array Value} {h : Heap} (hZ : Z.Warmed39 s.vm) (hw : ∀ d ∈ wordsChN, d.before a0 Z = true) {kI : Nat} (wi : (Jvm.Cond.instantiable ST kI).before a0 Z = true)
    {x t : Addr} {kb : ClassId} {cs : List Int32} {N2 z : Int32} {vs : List Value} {fm : Value} {i : Nat} {j : Int32} (E : RoadKit.Exa Z h x ST) (V : RoadKit.Fld Z h x ST "value" "[B" (.ref t)) (C : RoadKit.Fld Z h x ST "coder" "B" (.int 0)) (K : RoadKit.Arv Z h t kb .byte N2 vs (.int 0)) (hc : CodA cs 0 N2 vs) (hb : ∀ c ∈ cs, ¬ c < 0 ∧ ¬ (65535 : Int32) < c)
    (S : RoadKit.Sta Z h ST "COMPACT_STRINGS" "Z" (.int z)) (hz : ¬ z = 0) (F : RoadKit.Sta Z h "jdk/internal/util/Preconditions" "SIOOBE_FORMATTER" "Ljava/util/function/BiFunction;" fm) (rf : fm.isRef = true) (l2 : cs.length ≤ 4000) (hi : i < cs.length) (hj : j = Int32.ofNat i) (hfr : 4 ≤ R.frames) (hlo : W + 53 ≤ R.locals) :
    Back l R p e below s args (⟨"java/lang/String", "charAt", "(I)C"⟩ : MethodName) len W (fun P a => a = #[.ref x, .int j] ∧ P.U.heap = h ∧ P.cells + 0 ≤ R.cells ∧ P.slots + 0 ≤ R.slots)
      (fun P _ v B => ∃ L, (v = some (.int (cs.getD i 0)) ∧ L = [] ∧ B.U.heap = h) ∧ B.locs = P.locs ++ L ∧ B.cells = P.cells + 0 ∧ B.slots = P.slots + 0) := by
  subst hj
  intro m meth c P g ig mk a X hg hsize hdg hW hn hp'
  obtain ⟨rfl, rfl, r1, r2⟩ := hp'
  have al : Z.vm.Alike P.U.vm := hZ.alike.trans X.warmed.alike
  obtain ⟨A, hx⟩ := txt_of wi al E V C K hc hb l2
  obtain ⟨v, B, X', ⟨⟨hv, hh⟩, hl, hk, hs⟩, st⟩ := ChN.pays x t A cs.length (fun j => cs.getD j 0) z fm i (tabChN_of (movedChN hZ hw)) hfr hlo m meth c P g ig mk _ X hg hsize hdg hW hn ⟨r1, r2, rfl, hx, hi, sta_is al S, hz, sta_is al F, rf⟩
  exact ⟨v, B, X', ⟨[], ⟨hv, rfl, hh⟩, hl, hk, hs⟩, st⟩
/-- what backV says of its String, as the contracts of this text ask it: cs's low bytes, coder 0 -/
theorem codOf {cs : List Int32} {n : Nat} (hn : cs.length = n) (hb : ∀ c ∈ cs, ¬ 255 < c) : CodA cs 0 (Int32.ofNat n) ((cs.map lo8).map Value.int) := Or.inl ⟨rfl, by rw [hn], by simp [List.map_map, Function.comp_def], hb⟩
end StrChars.Road
end Jvm.Pilot.@@N@@
namespace Jvm.Pilot.@@N@@
open Jvm Jvm.ClassFile Sem Op Lib Jvm.Free Jvm.Stand Jvm.LawKit Jvm.RoadKit Bundle Jvm.Pilot.@@N@@.Jvm.D
theorem own_and255 (x : Int32) : ¬ (x &&& (255 : Int32)) < 0 ∧ ¬ (255 : Int32) < (x &&& (255 : Int32)) := by
  have h := c_and x (255 : Int32) (by decide)
  have e : (255 : Int32).toInt = 255 := by decide
  have e0 : (0 : Int32).toInt = 0 := by decide
  rw [Int32.lt_iff_toInt_lt, Int32.lt_iff_toInt_lt]; omega
theorem own_nar (x : Int32) (h : ¬ x < 0 ∧ ¬ (255 : Int32) < x) : x.toUInt32.toUInt16.toUInt32.toInt32 = x := by
  have q := c_i2c x
  have e : (255 : Int32).toInt = 255 := by decide
  have e0 : (0 : Int32).toInt = 0 := by decide
  rw [Int32.lt_iff_toInt_lt, Int32.lt_iff_toInt_lt] at h
  apply Int32.toInt_inj.mp
  omega
theorem own_narI (x : Int32) (h : ¬ x < 0 ∧ ¬ (255 : Int32) < x) : ¬ nar .char x < 0 ∧ ¬ (255 : Int32) < nar .char x := by
  have e : nar .char x = x := own_nar x h
  rw [e]; exact h
theorem own_i2c (x : Int32) (h : ¬ x < 0 ∧ ¬ (255 : Int32) < x) : ¬ x.toUInt32.toUInt16.toUInt32.toInt32 < 0 ∧ ¬ (255 : Int32) < x.toUInt32.toUInt16.toUInt32.toInt32 := by
  rw [own_nar x h]; exact h
theorem own_up (cs : List Int32) (h : ∀ c ∈ cs, ¬ c < 0 ∧ ¬ (255 : Int32) < c) : ∀ c ∈ cs, ¬ c < 0 ∧ ¬ (65535 : Int32) < c := fun c hc => ⟨(h c hc).1, fun q => (h c hc).2 (by
  rw [Int32.lt_iff_toInt_lt] at q ⊢
  have e1 : (65535 : Int32).toInt = 65535 := by decide
  have e2 : (255 : Int32).toInt = 255 := by decide
  omega)⟩
theorem own_cat {w : Value} (h : w.isRef = true) : w.category = 1 := by rcases ref_cases h with rfl | ⟨a, rfl⟩ <;> rfl
theorem own_nrw {w : Value} {t : FieldType} (h : w.isRef = true) (ht : t.isReference = true) : narrow t w = w := by
  rcases ref_cases h with rfl | ⟨a, rfl⟩ <;> cases t <;> first | rfl | cases ht
theorem own_fit {w : Value} {t : FieldType} (h : w.isRef = true) (ht : t.isReference = true) : fits t w = true := by
  rcases ref_cases h with rfl | ⟨a, rfl⟩ <;> cases t <;> first | rfl | cases ht
def OptStr (Z : State) (h : Heap) (w : Value) : Prop := w = .null ∨ ∃ a, w = .ref a ∧ Exa Z h a "java/lang/String"
theorem OptStr.ref {Z : State} {h : Heap} {w : Value} (F : OptStr Z h w) : w.isRef = true := by rcases F with rfl | ⟨a, rfl, -⟩ <;> rfl
theorem OptStr.ext {Z : State} {h h' : Heap} {w : Value} (E : Ext h h') (F : OptStr Z h w) : OptStr Z h' w := F.imp id fun ⟨a, q, r⟩ => ⟨a, q, r.ext E⟩
theorem OptStr.wr {Z : State} {h h' : Heap} {w v : Value} {b : Addr} {sl : Nat} (W : Wr h h' b sl v) (F : OptStr Z h w) : OptStr Z h' w := F.imp id fun ⟨a, q, r⟩ => ⟨a, q, r.wr W⟩
theorem OptStr.keep {Z : State} {h h' : Heap} {w : Value} {ws : List Addr} (F : OptStr Z h w) (K : Keep h h' ws) : OptStr Z h' w := F.imp id fun ⟨a, q, r⟩ => ⟨a, q, r.keep K⟩
theorem own_safeStr {Z : State} {EL : List (String × Nat)} {vm : Vm} {h : Heap} {x : Addr} (hal : Z.vm.Alike vm) (E : Exa Z h x "java/lang/String") (F : Fld Z h x "java/lang/String" "value" "[B" .null) : Safe Z EL vm h x := fun B => by
  obtain ⟨cell, k, e1, e2, e3, -, -⟩ := E
  obtain ⟨cell', cf, kf, i, f, f1, f2, f3, -, -, -, f7⟩ := F
  cases e1.symm.trans f1
  obtain ⟨p, -, u, a, -, q, -, G, rfl | rfl⟩ := B
  · cases (show h[q.sa]? = some q.sC from G.ha).symm.trans e1
    obtain ⟨cS, ⟨⟨-, -, -, ⟨c1, k1, i1, g1, -⟩, -, -, -, v1, -⟩, -⟩, -⟩ := G
    obtain ⟨k', g0⟩ := ff_back (Z := Z) (U := Wst Z vm h) hal g1
    have g2 : Z.fieldFound? "java/lang/String" "value" "[B" = _ := g0
    rw [f2] at g2
    simp only [Option.some.injEq, Prod.mk.injEq] at g2
    rw [← g2.2.2.2, f7] at v1
    cases v1
  · cases (show h[q.sd]? = some q.SA from G.hd).symm.trans e1
    obtain ⟨cS, -, -, f, -⟩ := G
    have f' : vm.findClass "[B" = some q.SA.cls := f
    rw [hal.findClass] at f'
    obtain ⟨k1, q1, q2⟩ := Vm.findClass_spec f'
    obtain ⟨k2, q3, q4⟩ := Vm.findClass_spec e2
    cases q1.symm.trans q3
    exact absurd (q2.symm.trans q4) (by decide)
theorem own_ne_arv {Z : State} {h : Heap} {a b : Addr} {C : String} {a0 : Array Value} {kk : Nat} {k : ClassId} {ty : FieldType} {z : Int32} {vs : List Value} {d : Value} (F : Exa Z h a C) (wi : (Cond.instantiable C kk).before a0 Z = true) (G : Arv Z h b k ty z vs d) : a ≠ b := by
  obtain ⟨c, A, -⟩ := G
  exact ne_arr F wi A
theorem own_narE (x : Int32) (h : ¬ x < 0 ∧ ¬ (255 : Int32) < x) : nar .char x = x := own_nar x h
theorem own_declares {Z : State} {a0 : Array Value} {y : MethodName} {b : ByteArray} {ml : Nat} {r : Option FieldType} (w1 : (Cond.instanceMethod y).before a0 Z = true) (w2 : (Cond.code y b ml r).before a0 Z = true) : (Cond.declares y).before a0 Z = true := by
  obtain ⟨m, meth, h1, h2, h3, -⟩ := Cond.instanceMethod_spec w1
  obtain ⟨meth', c, g1, -, -, -, -, -, -, g8⟩ := Cond.code_spec h1 w2
  cases h2.symm.trans g1
  simp [Cond.before, Cond.holds, Cond.value, h1, h2, h3, g8]
theorem own_notFace {args : Array Value} {s : State} {K : String} {y z : MethodName} (hsel : (Cond.selects K z z).before args s = true) (hc : z.cls = y.cls) : NotFace s y := fun r0 h0 => by
  obtain ⟨c2, r2, m2, -, -, q3, -, kP, hkP, hkPi⟩ := Cond.selects_spec hsel
  have f1 := findClass_of_methodNamed h0
  have f2 := findClass_of_methodNamed q3
  rw [hc] at f2
  have e := Option.some.inj (f1.symm.trans f2)
  exact ⟨kP, by rw [e]; exact hkP, hkPi⟩
theorem own_sameM {Z : State} {a0 : Array Value} {y : MethodName} {K n d : String} (w1 : (Cond.instanceMethod y).before a0 Z = true) (hC : y.cls ≠ "java/lang/invoke/MethodHandle" ∧ y.cls ≠ "java/lang/invoke/VarHandle") (w2 : (Cond.selects K ⟨y.cls, n, d⟩ ⟨y.cls, n, d⟩).before a0 Z = true) : (Cond.sameMethod y.cls y.cls y.name y.desc).before a0 Z = true := by
  obtain ⟨m, meth, h1, h2, h3, -⟩ := Cond.instanceMethod_spec w1
  obtain ⟨c2, r2, m2, -, -, q3, -, kP, hkP, hkPi⟩ := Cond.selects_spec w2
  have f1 := findClass_of_methodNamed h1
  have f0 := findClass_of_methodNamed q3
  have f2 : Z.vm.findClass y.cls = some m2.cls := f0
  have g := State.methodFound?_of_named h1 hC
  have h1' : Z.methodNamed? ⟨y.cls, y.name, y.desc⟩ = some m := h1
  simp [Cond.before, Cond.holds, Cond.value, f2, g, h1', hkP, hkPi]
theorem own_ofn {a : Nat} (h : a < 2 ^ 31) : (Int32.ofNat a).toNatClampNeg = a := by
  have := len_toInt h
  show (Nat.toInt32 a).toNatClampNeg = a
  simp only [Int32.toNatClampNeg, this]; rfl
theorem own_nn {a : Nat} (h : a < 2 ^ 31) : ¬ Int32.ofNat a < 0 := by
  have := len_toInt h
  have e0 : (0 : Int32).toInt = 0 := by decide
  show ¬ Nat.toInt32 a < 0
  rw [Int32.lt_iff_toInt_lt, this, e0]; omega
theorem own_cap (a b : Nat) (h : a + b ≤ 16) : ¬ (0 : Int32) < ((Int32.ofNat a + Int32.ofNat b) - ((16 : Int32) >>> ((0 : Int32) &&& 31))) := by
  have k : ∀ x : Fin 17, ∀ y : Fin 17, x.val + y.val ≤ 16 → ¬ (0 : Int32) < ((Int32.ofNat x.val + Int32.ofNat y.val) - ((16 : Int32) >>> ((0 : Int32) &&& 31))) := by decide +kernel
  exact k ⟨a, by omega⟩ ⟨b, by omega⟩ h
theorem own_not16 {a : Nat} (h : a ≤ 15) : ¬ Int32.ofNat a = (16 : Int32) := by
  have k : ∀ x : Fin 16, ¬ Int32.ofNat x.val = (16 : Int32) := by decide +kernel
  exact k ⟨a, by omega⟩
theorem own_lt16 {a : Nat} (h : a ≤ 15) : Int32.ofNat a < (16 : Int32) := by
  have k : ∀ x : Fin 16, Int32.ofNat x.val < (16 : Int32) := by decide +kernel
  exact k ⟨a, by omega⟩
theorem own_z31 : ((0 : Int32) &&& 31) = 0 := by decide
theorem own_shl0 (p : Int32) : (p <<< ((0 : Int32) &&& 31)) = p := by rw [own_z31]; simp
theorem own_shr0 (p : Int32) : (p >>> ((0 : Int32) &&& 31)) = p := by rw [own_z31]; simp
theorem own_sub0 (p : Int32) : (p - (0 : Int32)) = p := by simp
theorem own_len (bs cs : List Int32) : (Int32.ofNat bs.length + Int32.ofNat cs.length) = Int32.ofNat (bs ++ cs).length := by rw [List.length_append, Int32.ofNat_add]
theorem own_svl (bs : List Int32) : (((bs).map (fun c : Int32 => c.toInt8.toInt32)).map Value.int).length = bs.length := by simp
theorem own_cpres {Z : State} {h : Heap} {b : Addr} {k : ClassId} {z : Int32} {bs cs : List Int32} {kk : Nat} (hb : bs.length < 2 ^ 31) (hc : cs.length < 2 ^ 31)
    (F : Arv Z h b k .byte z (((((bs).map (fun c : Int32 => c.toInt8.toInt32)).map Value.int) ++ List.replicate kk (Value.int 0)).take (Int32.ofNat bs.length).toNatClampNeg ++ (List.range (Int32.ofNat cs.length).toNatClampNeg).map (fun i => (((cs).map (fun c : Int32 => c.toInt8.toInt32)).map Value.int).getD ((0 : Int32).toNatClampNeg + i) (Value.int 0)) ++ ((((bs).map (fun c : Int32 => c.toInt8.toInt32)).map Value.int) ++ List.replicate kk (Value.int 0)).drop ((Int32.ofNat bs.length).toNatClampNeg + (Int32.ofNat cs.length).toNatClampNeg)) (.int 0)) :
    Arv Z h b k .byte z ((((bs ++ cs)).map (fun c : Int32 => c.toInt8.toInt32)).map Value.int) (.int 0) := by
  rw [own_ofn hb, own_ofn hc] at F
  have e1 : ((((bs).map (fun c : Int32 => c.toInt8.toInt32)).map Value.int) ++ List.replicate kk (Value.int 0)).take bs.length = (((bs).map (fun c : Int32 => c.toInt8.toInt32)).map Value.int) := by
    rw [List.take_append_of_le_length (by simp)]; exact List.take_of_length_le (by simp)
  have e2 : (List.range cs.length).map (fun i => (((cs).map (fun c : Int32 => c.toInt8.toInt32)).map Value.int).getD ((0 : Int32).toNatClampNeg + i) (Value.int 0)) = (((cs).map (fun c : Int32 => c.toInt8.toInt32)).map Value.int) := by
    apply List.ext_getElem (by simp)
    intro i h1 h2
    have e0 : (0 : Int32).toNatClampNeg = 0 := by decide
    have hi : i < cs.length := by simpa using h2
    simp [e0, List.getD_eq_getElem?_getD, hi]
  have e3 : ((((bs).map (fun c : Int32 => c.toInt8.toInt32)).map Value.int) ++ List.replicate kk (Value.int 0)).drop (bs.length + cs.length) = List.replicate (kk - cs.length) (Value.int 0) := by
    rw [List.drop_append]; simp
  rw [e1, e2, e3] at F
  refine F.pad fun i => ?_
  have e4 : ((((bs ++ cs)).map (fun c : Int32 => c.toInt8.toInt32)).map Value.int) = (((bs).map (fun c : Int32 => c.toInt8.toInt32)).map Value.int) ++ (((cs).map (fun c : Int32 => c.toInt8.toInt32)).map Value.int) := by simp
  rw [e4]; exact (pad_rep _ _ _ i).symm
theorem own_cast {Z : State} {h : Heap} {t : Addr} {k : ClassId} {ty : FieldType} {z z' : Int32} {vs vs' : List Value} {d : Value} (e1 : z = z') (e2 : vs = vs') (V : Arv Z h t k ty z vs d) : Arv Z h t k ty z' vs' d := by subst e1 e2; exact V
def own_cs (p c0 c1 : Int32) : List Int32 := if p = 0 then [] else if p = 1 then [c0] else [c0, c1]
theorem own_cs_lat {p c0 c1 : Int32} (h0 : ¬ c0 < 0 ∧ ¬ (255 : Int32) < c0) (h1 : ¬ c1 < 0 ∧ ¬ (255 : Int32) < c1) : ∀ c ∈ own_cs p c0 c1, ¬ c < 0 ∧ ¬ (255 : Int32) < c := by
  intro c hc; simp only [own_cs] at hc
  split at hc
  · simp at hc
  · split at hc
    · simp only [List.mem_cons, List.not_mem_nil, or_false] at hc; rw [hc]; exact h0
    · simp only [List.mem_cons, List.not_mem_nil, or_false] at hc
      rcases hc with hc | hc
      · rw [hc]; exact h0
      · rw [hc]; exact h1
theorem own_cs_len (p c0 c1 : Int32) : (own_cs p c0 c1).length ≤ 2 := by
  simp only [own_cs]; split
  · simp
  · split <;> simp
theorem own_rem3 (x : Int32) (h : 0 ≤ x.toInt) : x % 3 = 0 ∨ x % 3 = 1 ∨ x % 3 = 2 := by
  have e0 : (0 : Int32).toInt = 0 := by decide
  have e1 : (1 : Int32).toInt = 1 := by decide
  have e2 : (2 : Int32).toInt = 2 := by decide
  have q := (c_irem x 3 3 (by decide)).1 h
  rw [← Int32.toInt_inj, ← Int32.toInt_inj, ← Int32.toInt_inj, e0, e1, e2, q]
  omega
theorem own_and3 (x y : Int32) (hy : 0 ≤ y.toInt) : 0 ≤ (x &&& y).toInt := (c_and x y hy).1
theorem own_ltn {i n : Nat} (h1 : i < 5) (h2 : n ≤ 4000) (h : Int32.ofNat i < Int32.ofNat n) : i < n := by
  have q1 : (Nat.toInt32 i).toInt = i := len_toInt (by omega)
  have q2 : (Nat.toInt32 n).toInt = n := len_toInt (by omega)
  have h' : Nat.toInt32 i < Nat.toInt32 n := h
  rw [Int32.lt_iff_toInt_lt, q1, q2] at h'; omega
theorem own_conlen (k j a b c d : Int32) : (((([] ++ (own_cs k a b)) ++ [(10 : Int32)]) ++ (own_cs j c d))).length ≤ 4000 := by
  have h1 := own_cs_len k a b
  have h2 := own_cs_len j c d
  simp only [List.length_append, List.length_nil, List.length_cons]; omega
theorem own_con5 {k j a b c d : Int32} (hk : k = 0 ∨ k = 1 ∨ k = 2) (hj : j = 0 ∨ j = 1 ∨ j = 2) : Int32.ofNat (((([] ++ (own_cs k a b)) ++ [(10 : Int32)]) ++ (own_cs j c d))).length = ((k + (1 : Int32)) + j) := by
  rcases hk with rfl | rfl | rfl <;> rcases hj with rfl | rfl | rfl <;> rfl
theorem own_conhp {k j a b c d : Int32} (h1 : ¬ a < 0 ∧ ¬ (255 : Int32) < a) (h2 : ¬ b < 0 ∧ ¬ (255 : Int32) < b) (h3 : ¬ c < 0 ∧ ¬ (255 : Int32) < c) (h4 : ¬ d < 0 ∧ ¬ (255 : Int32) < d) : ∀ e ∈ ((([] ++ (own_cs k a b)) ++ [(10 : Int32)]) ++ (own_cs j c d)), ¬ e < 0 ∧ ¬ (255 : Int32) < e := by
  intro e he
  simp only [List.mem_append, List.mem_cons, List.not_mem_nil, or_false, false_or] at he
  rcases he with (he | he) | he
  · exact own_cs_lat h1 h2 e he
  · rw [he]; decide
  · exact own_cs_lat h3 h4 e he
theorem own_okl (i : Nat) (k j a b c d : Int32) (hi : i < 5) (hk : k = 0 ∨ k = 1 ∨ k = 2) (hj : j = 0 ∨ j = 1 ∨ j = 2) (h : Int32.ofNat i < Int32.ofNat (((([] ++ (own_cs k a b)) ++ [(10 : Int32)]) ++ (own_cs j c d))).length) :
    (((([] ++ (own_cs k a b)) ++ [(10 : Int32)]) ++ (own_cs j c d))).getD i 0 = if Int32.ofNat i < k then (if Int32.ofNat i = 0 then a else b) else if Int32.ofNat i = k then (10 : Int32) else if ((Int32.ofNat i - k) - (1 : Int32)) = 0 then c else d := by
  have h5 : i = 0 ∨ i = 1 ∨ i = 2 ∨ i = 3 ∨ i = 4 := by omega
  rcases hk with rfl | rfl | rfl <;> rcases hj with rfl | rfl | rfl <;> rcases h5 with rfl | rfl | rfl | rfl | rfl <;> first | rfl | exact absurd h (show ¬ _ from by first | (show ¬ (_ : Int32) < (Int32.ofNat 1); decide) | (show ¬ (_ : Int32) < (Int32.ofNat 2); decide) | (show ¬ (_ : Int32) < (Int32.ofNat 3); decide) | (show ¬ (_ : Int32) < (Int32.ofNat 4); decide))
theorem pno_0 : plainName "java/lang/String" = true := by first | (simp [plainName, overriddenIn]; done) | decide +kernel
theorem pdo_0 : parseMethodDescriptor "([CIILjava/lang/Void;)V" = some ⟨[(.array .char), .int, .int, (.object "java/lang/Void")], none⟩ := by decide +kernel
theorem pdo_1 : parseMethodDescriptor "()B" = some ⟨[], some .byte⟩ := by decide +kernel
theorem pno_1 : plainName "java/lang/AbstractStringBuilder" = true := by first | (simp [plainName, overriddenIn]; done) | decide +kernel
theorem pdo_2 : parseMethodDescriptor "(Ljava/lang/String;)V" = some ⟨[(.object "java/lang/String")], none⟩ := by decide +kernel
theorem pdo_3 : parseMethodDescriptor "([BIB)V" = some ⟨[(.array .byte), .int, .byte], none⟩ := by decide +kernel
theorem pdo_4 : parseMethodDescriptor "()I" = some ⟨[], some .int⟩ := by decide +kernel
theorem pdo_5 : parseMethodDescriptor "(I)V" = some ⟨[.int], none⟩ := by decide +kernel
theorem pdo_6 : parseMethodDescriptor "(ILjava/lang/String;)V" = some ⟨[.int, (.object "java/lang/String")], none⟩ := by decide +kernel
theorem pdo_7 : parseMethodDescriptor "(Ljava/lang/String;)Ljava/lang/AbstractStringBuilder;" = some ⟨[(.object "java/lang/String")], some (.object "java/lang/AbstractStringBuilder")⟩ := by decide +kernel
theorem pno_2 : plainName "java/lang/StringBuilder" = true := by first | (simp [plainName, overriddenIn]; done) | decide +kernel
theorem pno_3 : plainName "java/util/Arrays" = true := by first | (simp [plainName, overriddenIn]; done) | decide +kernel
theorem pdo_8 : parseMethodDescriptor "(II)V" = some ⟨[.int, .int], none⟩ := by decide +kernel
theorem pdo_9 : parseMethodDescriptor "(II)I" = some ⟨[.int, .int], some .int⟩ := by decide +kernel
theorem pdo_10 : parseMethodDescriptor "([BII)[B" = some ⟨[(.array .byte), .int, .int], some (.array .byte)⟩ := by decide +kernel
theorem pdo_11 : parseMethodDescriptor "()[B" = some ⟨[], some (.array .byte)⟩ := by decide +kernel
theorem pdo_12 : parseMethodDescriptor "()Z" = some ⟨[], some .boolean⟩ := by decide +kernel
theorem pdo_13 : parseMethodDescriptor "(Ljava/lang/AbstractStringBuilder;Ljava/lang/Void;)V" = some ⟨[(.object "java/lang/AbstractStringBuilder"), (.object "java/lang/Void")], none⟩ := by decide +kernel
theorem pdo_14 : parseMethodDescriptor "(Ljava/lang/StringBuilder;)V" = some ⟨[(.object "java/lang/StringBuilder")], none⟩ := by decide +kernel
theorem pdo_15 : parseMethodDescriptor "([C)V" = some ⟨[(.array .char)], none⟩ := by decide +kernel
theorem pno_4 : plainName "com/example/stateful_search/statefulsearch/session/SearchResultSummaryPinLaw" = true := by first | (simp [plainName, overriddenIn]; done) | decide +kernel
theorem pno_5 : plainName "java/lang/Record" = true := by first | (simp [plainName, overriddenIn]; done) | decide +kernel
theorem pdo_16 : parseMethodDescriptor "()V" = some ⟨[], none⟩ := by decide +kernel
theorem pno_6 : plainName "com/example/stateful_search/statefulsearch/session/SearchResult" = true := by first | (simp [plainName, overriddenIn]; done) | decide +kernel
theorem pdo_17 : parseMethodDescriptor "(Ljava/lang/String;)Ljava/lang/StringBuilder;" = some ⟨[(.object "java/lang/String")], some (.object "java/lang/StringBuilder")⟩ := by decide +kernel
theorem pdo_18 : parseMethodDescriptor "()Ljava/lang/String;" = some ⟨[], some (.object "java/lang/String")⟩ := by decide +kernel
theorem pdo_19 : parseMethodDescriptor "(I)C" = some ⟨[.int], some .char⟩ := by decide +kernel
theorem pdo_20 : parseMethodDescriptor "(ICC)Ljava/lang/String;" = some ⟨[.int, .char, .char], some (.object "java/lang/String")⟩ := by decide +kernel
theorem pdo_21 : parseMethodDescriptor "(ILjava/lang/String;Ljava/lang/String;Ljava/lang/String;)V" = some ⟨[.int, (.object "java/lang/String"), (.object "java/lang/String"), (.object "java/lang/String")], none⟩ := by decide +kernel
theorem pdo_22 : parseMethodDescriptor "(Ljava/lang/String;IICCCC)Z" = some ⟨[(.object "java/lang/String"), .int, .int, .char, .char, .char, .char], some .boolean⟩ := by decide +kernel
def Q_emp (Z : State) (a : Addr) (h0 : Heap) (n0 : Nat) (v : Option Value) (h : Heap) (L : List Loc) : Prop := v = none ∧ Fr n0 L ∧ Keep h0 h [a] ∧ Exa Z h a "java/lang/String" ∧ Fld Z h a "java/lang/String" "coder" "B" (.int 0) ∧ ∃ (t : Addr) (kb : ClassId), ¬ t = a ∧ Fld Z h a "java/lang/String" "value" "[B" (.ref t) ∧ Arv Z h t kb .byte 0 [] (.int 0)
theorem d_rm_emp4_0 : decode jdk_42_method_149_code 0 = .ok (.aload_n 0, 1) := by decide +kernel
theorem d_rm_emp4_1 : decode jdk_42_method_149_code 1 = .ok (.invokespecial 1, 3) := by decide +kernel
theorem d_rm_emp4_4 : decode jdk_42_method_149_code 4 = .ok (.iload_n 3, 1) := by decide +kernel
theorem d_rm_emp4_5 : decode jdk_42_method_149_code 5 = .ok (.ifCond .ne 22, 3) := by decide +kernel
theorem d_rm_emp4_8 : decode jdk_42_method_149_code 8 = .ok (.aload_n 0, 1) := by decide +kernel
theorem d_rm_emp4_9 : decode jdk_42_method_149_code 9 = .ok (.ldc 7, 2) := by decide +kernel
theorem d_rm_emp4_11 : decode jdk_42_method_149_code 11 = .ok (.getfield 9, 3) := by decide +kernel
theorem d_rm_emp4_14 : decode jdk_42_method_149_code 14 = .ok (.putfield 9, 3) := by decide +kernel
theorem d_rm_emp4_17 : decode jdk_42_method_149_code 17 = .ok (.aload_n 0, 1) := by decide +kernel
theorem d_rm_emp4_18 : decode jdk_42_method_149_code 18 = .ok (.ldc 7, 2) := by decide +kernel
theorem d_rm_emp4_20 : decode jdk_42_method_149_code 20 = .ok (.getfield 15, 3) := by decide +kernel
theorem d_rm_emp4_23 : decode jdk_42_method_149_code 23 = .ok (.putfield 15, 3) := by decide +kernel
theorem d_rm_emp4_26 : decode jdk_42_method_149_code 26 = .ok (.return_, 1) := by decide +kernel
theorem ef_rm_emp4 (m : MethodId) (x0 : Addr) (x1 : Addr) (x2 : Int32) (x3 : Int32) : entryFrame m #[(.ref x0), (.ref x1), (.int x2), (.int x3), .null] 6 = mkF m 0 #[.val (.ref x0), .val (.ref x1), .val (.int x2), .val (.int x3), .val .null, .unset] [] := by first | (simp [entryFrame, mkF, argsToLocals, Value.category]; done) | rfl
set_option maxRecDepth 65536 in
set_option maxHeartbeats 3000000 in
theorem rm_emp4 (l : Launch) (Z : State) (a0 : Array Value) (hw : ∀ d ∈ tables_1, d.before a0 Z = true) (hEW : EW Z a0 consts_1) (ws : List Jvm.Cond) (a b : Addr) (h0 : Heap) (n0 : Nat) (Z0 : n0 ≤ h0.size) (E_a : Exa Z h0 a "java/lang/String") (ga : n0 ≤ a) (F_value : Fld Z h0 a "java/lang/String" "value" "[B" .null) (F_coder : Fld Z h0 a "java/lang/String" "coder" "B" (.int (0 : Int32))) :
    MetFree l (⟨"java/lang/String", "<init>", "([CIILjava/lang/Void;)V"⟩ : MethodName) (head1 (Jvm.Cond.code (⟨"java/lang/String", "<init>", "([CIILjava/lang/Void;)V"⟩ : MethodName) jdk_42_method_149_code 6 none :: ws) ({ frames := 1, cells := 2, slots := 4, locals := 12 } : Room)) (fun αs U => αs = #[(.ref a), (.ref b), (.int (0 : Int32)), (.int (0 : Int32)), .null] ∧ Z.Warmed39 U.vm ∧ U.heap = h0 ∧ CHv Z consts_1 U.vm h0) (fun _ _ _ _ _ => True) (fun _ U o U' => ∃ v L, o = .returned v ∧ Q_emp Z a h0 n0 v U'.heap L ∧ CHr Z consts_1 U.vm U.heap U'.vm U'.heap ∧ ReturnedEndW U o U' L ({ frames := 1, cells := 2, slots := 4, locals := 12 } : Room).cells ({ frames := 1, cells := 2, slots := 4, locals := 12 } : Room).slots) := by
  refine MetFree.of_bodySF (plainFor_of_name pno_0) hisR ?_
  intro pP e s m args below meth cC s₁ Bd hml0 hP hK
  obtain ⟨rfl, hZ, hh, CH0⟩ := hP
  have hx := Bd.exec
  have hby := Bd.bytes
  have hml : cC.maxLocals = 6 := hml0
  have hown : s.vm.findClass "java/lang/String" = some m.cls := findClass_of_methodNamed Bd.named
  have hnm := (name_of_methodNamed Bd.named Bd.method).1
  have X0 : Stand pP l e ({ frames := 1, cells := 2, slots := 4, locals := 12 } : Room) (s.setVm s.vm) m #[(.ref a), (.ref b), (.int (0 : Int32)), (.int (0 : Int32)), .null] below meth cC s₁ [] 0 0 := Stand.of_body Bd
  have e0 : s₁.heap = h0 := by rw [← hh, Bd.state]; rfl
  have N0 := Fr.nil n0
  have KC0 : Keep h0 h0 [a] := Keep.refl h0 _
  replace hZ : Z.Warmed39 (s.setVm s.vm).vm := hZ
  replace hown : (s.setVm s.vm).vm.findClass "java/lang/String" = some m.cls := hown
  have SI0 : s.Since s.vm h0.size := (State.WarmedH.refl s).since _
  have SK0 : h0.size ≤ h0.size := Nat.le_refl _
  have CR0 : CHr Z consts_1 s.vm h0 s.vm h0 := CHr.refl CH0
  obtain ⟨A0, hA0⟩ : ∃ z, z = s₁.setTop (entryFrame m #[(.ref a), (.ref b), (.int (0 : Int32)), (.int (0 : Int32)), .null] 6) := ⟨_, rfl⟩
  have pre0 : ∀ τ, Steps pP.tables e below (s₁.setTop (mkF m 0 #[.val (.ref a), .val (.ref b), .val (.int (0 : Int32)), .val (.int (0 : Int32)), .val .null, .unset] [])) τ → Steps pP.tables e below A0 τ := fun τ κ => by rw [hA0]; exact castTop (ef_rm_emp4 m a b (0 : Int32) (0 : Int32)) κ
  have wS : ∀ a ∈ Bundle.stringAtoms, a.before a0 Z = true := fun d hd => hw d ((by decide +kernel : ∀ d ∈ Bundle.stringAtoms, d ∈ tables_1) d hd)
  have Sf101 : Safe Z consts_1 s.vm h0 a := own_safeStr hZ.alike E_a F_value
  obtain ⟨T102, X102, e102, st102⟩ := initO X0 hx hZ hown (hw _ (List.mem_of_getElem? (i := 16) rfl)) (hw _ (List.mem_of_getElem? (i := 17) rfl)) (hw _ (List.mem_of_getElem? (i := 18) rfl)) e0 (g := (mkF m 1 #[.val (.ref a), .val (.ref b), .val (.int (0 : Int32)), .val (.int (0 : Int32)), .val .null, .unset] [(.ref a)])) rfl (by rw [hml]; rfl) rfl (hb hby d_rm_emp4_1) (by decide) (W := 0) (by show 2 * 0 + _ ≤ _; exact Nat.le_of_eq rfl) (by decide)
  have pq103 : ∀ τ, Steps pP.tables e below (T102.setTop (mkF m 4 #[.val (.ref a), .val (.ref b), .val (.int (0 : Int32)), .val (.int (0 : Int32)), .val .null, .unset] [])) τ → Steps pP.tables e below A0 τ := by
    intro τ κ
    refine pre0 τ ?_
    refine XS.aloadN X0.here hx rfl (hb hby d_rm_emp4_0) rfl rfl ?_
    refine st102 _ ?_
    exact κ
  obtain ⟨b104, T104, h104, k104, t104, kb104, X104, e104, E104, SI104, SK104, Z104, O104, A104, Fc104, Fv104, V104, lt104, ltt104, C104, L104, ne104, st104⟩ := ldcCH (s := s) (vm0 := s.vm) (EL := consts_1) X102 hx hZ hown (hw _ (List.mem_of_getElem? (i := 19) rfl)) wS e102 SI0 SK0 hEW (by decide) CH0 (vs := []) (z := (0 : Int32)) (by decide) (by decide) (by decide) (g := (mkF m 9 #[.val (.ref a), .val (.ref b), .val (.int (0 : Int32)), .val (.int (0 : Int32)), .val .null, .unset] [(.ref a)])) rfl (hb hby d_rm_emp4_9) (n := 0) (by decide) (by decide) (by decide) (by decide)
  have pq105 : ∀ τ, Steps pP.tables e below (T104.setTop (mkF m 11 #[.val (.ref a), .val (.ref b), .val (.int (0 : Int32)), .val (.int (0 : Int32)), .val .null, .unset] [(.ref b104), (.ref a)])) τ → Steps pP.tables e below A0 τ := by
    intro τ κ
    refine pq103 τ ?_
    refine XS.iloadN X102.here hx rfl (hb hby d_rm_emp4_4) rfl ?_
    refine XS.ifNo X102.here hx rfl (hb hby d_rm_emp4_5) rfl ((if0 _ _).trans (teq (by decide : ((0 : Int32) = (0 : Int32)))).2) ?_
    refine XS.aloadN X102.here hx rfl (hb hby d_rm_emp4_8) rfl rfl ?_
    refine st104 _ ?_
    exact κ
  have K104 : Keep h0 h104 [] := (Keep.refl _ _).ext E104
  have KC104 : Keep h0 h104 [a] := KC0.trans K104 all0
  have CH104 := C104.1
  have CR104 := CHr.trans CR0 C104
  have f106 := (CHr.safe C104 E_a.lt Sf101)
  obtain ⟨T107, X107, e107, st107⟩ := getF X104 hx Z104 O104 (host := "") (Or.inl (hw _ (List.mem_of_getElem? (i := 25) rfl))) Via.refl e104 Fv104 (g := (mkF m 11 #[.val (.ref a), .val (.ref b), .val (.int (0 : Int32)), .val (.int (0 : Int32)), .val .null, .unset] [(.ref b104), (.ref a)])) rfl rfl (hb hby d_rm_emp4_11)
  have pq108 : ∀ τ, Steps pP.tables e below (T107.setTop (mkF m 14 #[.val (.ref a), .val (.ref b), .val (.int (0 : Int32)), .val (.int (0 : Int32)), .val .null, .unset] [(.ref t104), (.ref a)])) τ → Steps pP.tables e below A0 τ := by
    intro τ κ
    refine pq105 τ ?_
    refine st107 _ ?_
    exact κ
  have f109 := (E_a.keep K104)
  have f110 := (F_value.keep K104 nin0)
  obtain ⟨T111, h111, X111, e111, W111, st111⟩ := putF X107 hx Z104 O104 (host := "") (Or.inl (hw _ (List.mem_of_getElem? (i := 25) rfl))) Via.refl e107 f110 f109 (Or.inr ⟨(hw _ (List.mem_of_getElem? (i := 21) rfl)), rfl, hnm⟩) (hw _ (List.mem_of_getElem? (i := 6) rfl)) (ty := (.array .byte)) (by decide) rfl rfl (g := (mkF m 14 #[.val (.ref a), .val (.ref b), .val (.int (0 : Int32)), .val (.int (0 : Int32)), .val .null, .unset] [(.ref t104), (.ref a)])) rfl rfl (hb hby d_rm_emp4_14)
  have pq112 : ∀ τ, Steps pP.tables e below (T111.setTop (mkF m 17 #[.val (.ref a), .val (.ref b), .val (.int (0 : Int32)), .val (.int (0 : Int32)), .val .null, .unset] [])) τ → Steps pP.tables e below A0 τ := by
    intro τ κ
    refine pq108 τ ?_
    refine st111 _ ?_
    exact κ
  have KC111 : Keep h0 h111 [a] := KC104.wr W111 (Or.inl (List.mem_of_getElem? (i := 0) rfl))
  have CH111 := CHv.wr W111 f106 CH104
  have CR111 := CHr.trans CR104 (CHr.wr W111 f106 CH104)
  have SK111 := Nat.le_trans SK104 (Keep.of_wr W111).1
  have Fw111 := f110.same W111
  have N111 := Fr.snoc X111 N0 ga
  have f114 := (Fc104.other W111 (Or.inl (Ne.symm (ne104 _ f106).1)))
  obtain ⟨T115, X115, e115, st115⟩ := getF X111 hx Z104 O104 (host := "") (Or.inl (hw _ (List.mem_of_getElem? (i := 26) rfl))) Via.refl e111 f114 (g := (mkF m 20 #[.val (.ref a), .val (.ref b), .val (.int (0 : Int32)), .val (.int (0 : Int32)), .val .null, .unset] [(.ref b104), (.ref a)])) rfl rfl (hb hby d_rm_emp4_20)
  have pq116 : ∀ τ, Steps pP.tables e below (T115.setTop (mkF m 23 #[.val (.ref a), .val (.ref b), .val (.int (0 : Int32)), .val (.int (0 : Int32)), .val .null, .unset] [(.int (0 : Int32)), (.ref a)])) τ → Steps pP.tables e below A0 τ := by
    intro τ κ
    refine pq112 τ ?_
    refine XS.aloadN X111.here hx rfl (hb hby d_rm_emp4_17) rfl rfl ?_
    refine ldcAgain (Z := Z) (a0 := a0) X111 hx Z104 O104 (hw _ (List.mem_of_getElem? (i := 19) rfl)) L104 (g := (mkF m 18 #[.val (.ref a), .val (.ref b), .val (.int (0 : Int32)), .val (.int (0 : Int32)), .val .null, .unset] [(.ref a)])) rfl (hb hby d_rm_emp4_18) _ ?_
    refine st115 _ ?_
    exact κ
  have f117 := (f109.wr W111)
  have f118 := ((F_coder.keep K104 nin0).other W111 (Or.inr (slot_ne (Or.inr (hw _ (List.mem_of_getElem? (i := 22) rfl))) (Or.inr (hw _ (List.mem_of_getElem? (i := 21) rfl))) (by decide) (t := .byte) (t' := (.array .byte)) (by decide) (by decide))))
  have f120 := (Safe.wr W111 f106 CH104 f106)
  obtain ⟨T119, h119, X119, e119, W119, st119⟩ := putFN X115 hx Z104 O104 (hw _ (List.mem_of_getElem? (i := 26) rfl)) Via.refl e115 f118 f117 (Or.inr ⟨(hw _ (List.mem_of_getElem? (i := 22) rfl)), rfl, hnm⟩) (hw _ (List.mem_of_getElem? (i := 6) rfl)) (ty := .byte) (v' := (.int (0 : Int32))) (by decide) rfl (by decide) (g := (mkF m 23 #[.val (.ref a), .val (.ref b), .val (.int (0 : Int32)), .val (.int (0 : Int32)), .val .null, .unset] [(.int (0 : Int32)), (.ref a)])) rfl rfl (hb hby d_rm_emp4_23)
  have pq121 : ∀ τ, Steps pP.tables e below (T119.setTop (mkF m 26 #[.val (.ref a), .val (.ref b), .val (.int (0 : Int32)), .val (.int (0 : Int32)), .val .null, .unset] [])) τ → Steps pP.tables e below A0 τ := by
    intro τ κ
    refine pq116 τ ?_
    refine st119 _ ?_
    exact κ
  have KC119 : Keep h0 h119 [a] := KC111.wr W119 (Or.inl (List.mem_of_getElem? (i := 0) rfl))
  have CH119 := CHv.wr W119 f120 CH111
  have CR119 := CHr.trans CR111 (CHr.wr W119 f120 CH111)
  have SK119 := Nat.le_trans SK111 (Keep.of_wr W119).1
  have Fw119 := f118.same W119
  have N119 := Fr.snoc X119 N111 ga
  have f122 := (f117.wr W119)
  have f123 := (Fw111.other W119 (Or.inr (slot_ne (Or.inr (hw _ (List.mem_of_getElem? (i := 21) rfl))) (Or.inr (hw _ (List.mem_of_getElem? (i := 22) rfl))) (by decide) (t := (.array .byte)) (t' := .byte) (by decide) (by decide))))
  have f124 := ((V104.other W111 (Ne.symm (ne104 _ f106).2)).other W119 (Ne.symm (ne104 _ f106).2))
  have SKe := Nat.le_trans SK119 (Nat.le_of_eq (congrArg (fun z : Heap => Array.size z) (Eq.symm e119)))
  obtain ⟨fs, hrE, hrun, hended, hEnd⟩ := X119.leaveW SI104 SKe (v := none) (fun _ => rfl)
  have CHe := CHr.trans CR119 (CHv.at X119 Z104 hEW CH119)
  have pqE := pq121
  rw [hA0] at pqE
  refine ⟨_, _, pqE _ ?_, hrun, hended, _, _, rfl, ?_, ?_, hEnd.1, hEnd.2.1, hEnd.2.2.1, hEnd.2.2.2.mono (by decide) (by decide)⟩
  · show Steps pP.tables e below (T119.setTop (mkF m 26 #[.val (.ref a), .val (.ref b), .val (.int (0 : Int32)), .val (.int (0 : Int32)), .val .null, .unset] [])) _
    exact X119.returnOut hx Bd.returns (hb hby d_rm_emp4_26) hrE
  · show Q_emp Z a h0 n0 _ T119.heap _
    rw [e119]
    exact ⟨rfl, N119, KC119, f122, Fw119, t104, _, (Ne.symm (ne104 _ f106).2), f123, f124⟩
  · show CHr Z consts_1 s.vm s.heap T119.vm T119.heap
    first | (rw [hh, e119]; exact CHe) | (rw [hh]; exact CHe)
theorem d_rm_emp1_0 : decode jdk_42_method_3_code 0 = .ok (.aload_n 0, 1) := by decide +kernel
theorem d_rm_emp1_1 : decode jdk_42_method_3_code 1 = .ok (.aload_n 1, 1) := by decide +kernel
theorem d_rm_emp1_2 : decode jdk_42_method_3_code 2 = .ok (.iconst 0, 1) := by decide +kernel
theorem d_rm_emp1_3 : decode jdk_42_method_3_code 3 = .ok (.aload_n 1, 1) := by decide +kernel
theorem d_rm_emp1_4 : decode jdk_42_method_3_code 4 = .ok (.arraylength, 1) := by decide +kernel
theorem d_rm_emp1_5 : decode jdk_42_method_3_code 5 = .ok (.aconst_null, 1) := by decide +kernel
theorem d_rm_emp1_6 : decode jdk_42_method_3_code 6 = .ok (.invokespecial 27, 3) := by decide +kernel
theorem d_rm_emp1_9 : decode jdk_42_method_3_code 9 = .ok (.return_, 1) := by decide +kernel
theorem ef_rm_emp1 (m : MethodId) (x0 : Addr) (x1 : Addr) : entryFrame m #[(.ref x0), (.ref x1)] 2 = mkF m 0 #[.val (.ref x0), .val (.ref x1)] [] := by first | (simp [entryFrame, mkF, argsToLocals, Value.category]; done) | rfl
set_option maxRecDepth 65536 in
set_option maxHeartbeats 3000000 in
theorem rm_emp1 (l : Launch) (Z : State) (a0 : Array Value) (hw : ∀ d ∈ tables_1, d.before a0 Z = true) (hEW : EW Z a0 consts_1) (ws : List Jvm.Cond) (a b : Addr) (kc : ClassId) (h0 : Heap) (n0 : Nat) (Z0 : n0 ≤ h0.size) (E_a : Exa Z h0 a "java/lang/String") (ga : n0 ≤ a) (F_value : Fld Z h0 a "java/lang/String" "value" "[B" .null) (F_coder : Fld Z h0 a "java/lang/String" "coder" "B" (.int (0 : Int32))) (V_b : Arv Z h0 b kc .char (0 : Int32) [] (.int (0 : Int32))) :
    MetFree l (⟨"java/lang/String", "<init>", "([C)V"⟩ : MethodName) (head1 (Jvm.Cond.code (⟨"java/lang/String", "<init>", "([C)V"⟩ : MethodName) jdk_42_method_3_code 2 none :: ws) ({ frames := 2, cells := 2, slots := 4, locals := 29 } : Room)) (fun αs U => αs = #[(.ref a), (.ref b)] ∧ Z.Warmed39 U.vm ∧ U.heap = h0 ∧ CHv Z consts_1 U.vm h0) (fun _ _ _ _ _ => True) (fun _ U o U' => ∃ v L, o = .returned v ∧ Q_emp Z a h0 n0 v U'.heap L ∧ CHr Z consts_1 U.vm U.heap U'.vm U'.heap ∧ ReturnedEndW U o U' L ({ frames := 2, cells := 2, slots := 4, locals := 29 } : Room).cells ({ frames := 2, cells := 2, slots := 4, locals := 29 } : Room).slots) := by
  refine MetFree.of_bodySF (plainFor_of_name pno_0) hisR ?_
  intro pP e s m args below meth cC s₁ Bd hml0 hP hK
  obtain ⟨rfl, hZ, hh, CH0⟩ := hP
  have hx := Bd.exec
  have hby := Bd.bytes
  have hml : cC.maxLocals = 2 := hml0
  have hown : s.vm.findClass "java/lang/String" = some m.cls := findClass_of_methodNamed Bd.named
  have hnm := (name_of_methodNamed Bd.named Bd.method).1
  have X0 : Stand pP l e ({ frames := 2, cells := 2, slots := 4, locals := 29 } : Room) (s.setVm s.vm) m #[(.ref a), (.ref b)] below meth cC s₁ [] 0 0 := Stand.of_body Bd
  have e0 : s₁.heap = h0 := by rw [← hh, Bd.state]; rfl
  have N0 := Fr.nil n0
  have KC0 : Keep h0 h0 [a] := Keep.refl h0 _
  replace hZ : Z.Warmed39 (s.setVm s.vm).vm := hZ
  replace hown : (s.setVm s.vm).vm.findClass "java/lang/String" = some m.cls := hown
  have SI0 : s.Since s.vm h0.size := (State.WarmedH.refl s).since _
  have SK0 : h0.size ≤ h0.size := Nat.le_refl _
  have CR0 : CHr Z consts_1 s.vm h0 s.vm h0 := CHr.refl CH0
  obtain ⟨A0, hA0⟩ : ∃ z, z = s₁.setTop (entryFrame m #[(.ref a), (.ref b)] 2) := ⟨_, rfl⟩
  have pre0 : ∀ τ, Steps pP.tables e below (s₁.setTop (mkF m 0 #[.val (.ref a), .val (.ref b)] [])) τ → Steps pP.tables e below A0 τ := fun τ κ => by rw [hA0]; exact castTop (ef_rm_emp1 m a b) κ
  obtain ⟨cl101, Ar101, q101, S101, M101, Hs101, G101⟩ := id V_b
  obtain ⟨_, _, ⟨T102, L102, k102, n102⟩, -, X102, S102, G102, ⟨Lc102, hQ102, l102, y102, z102, C102⟩, st102⟩ := X0.specialBackS hx (y := (⟨"java/lang/String", "<init>", "([CIILjava/lang/Void;)V"⟩ : MethodName)) rfl hown (mvT hZ (hw _ (List.mem_of_getElem? (i := 12) rfl))) (mvT hZ (hw _ (List.mem_of_getElem? (i := 13) rfl))) (mvT hZ (hw _ (List.mem_of_getElem? (i := 15) rfl))) (by decide) (backOfSH (s := s) (vm0 := s.vm) (EL := consts_1) (W := 0) (rm_emp4 l Z a0 hw hEW [] a b h0 n0 Z0 E_a ga F_value F_coder) hZ (hw _ (List.mem_of_getElem? (i := 15) rfl)) (hw _ (List.mem_of_getElem? (i := 7) rfl)) (by decide) (by decide) hEW CH0) (g := (mkF m 6 #[.val (.ref a), .val (.ref b)] [.null, (.int (0 : Int32)), (.int (0 : Int32)), (.ref b), (.ref a)])) rfl (by rw [hml]; rfl) (Steps.refl _) (a := a) (argsL := [(.ref b), (.int (0 : Int32)), (.int (0 : Int32)), .null]) (rest := []) (lenOf pdo_0 rfl) rfl (by show 2 * 0 + _ ≤ _; exact Nat.le_of_eq rfl) (hb hby d_rm_emp1_6) (fun _ _ => ⟨rfl, e0, (by decide : 0 + 2 ≤ _), (by decide : 0 + 4 ≤ _)⟩)
  dsimp only [Pt.U, Pt.locs, Pt.cells, Pt.slots] at X102 l102 y102 z102 st102 hQ102 S102 G102 C102
  subst l102 y102 z102
  have G102a : h0.size ≤ T102.heap.size := by first | exact G102 | (rw [← e0]; exact G102)
  obtain ⟨X102, SI102, Z102, O102⟩ := rebS SI0 SK0 X102 S102 G102a hZ hown
  have SK102 : T102.heap.size ≤ T102.heap.size := Nat.le_refl _
  obtain ⟨rfl, Nq102, K102, Ex102, Fc102, t102, kb102, tc102, Fv102, Vt102⟩ := hQ102
  have N102 := Fr.app N0 Nq102
  have pq103 : ∀ τ, Steps pP.tables e below (T102.setTop (mkF m 9 #[.val (.ref a), .val (.ref b)] [])) τ → Steps pP.tables e below A0 τ := by
    intro τ κ
    refine pre0 τ ?_
    refine XS.aloadN X0.here hx rfl (hb hby d_rm_emp1_0) rfl rfl ?_
    refine XS.aloadN X0.here hx rfl (hb hby d_rm_emp1_1) rfl rfl ?_
    refine XS.iconst X0.here hx rfl (hb hby d_rm_emp1_2) ?_
    refine XS.aloadN X0.here hx rfl (hb hby d_rm_emp1_3) rfl rfl ?_
    refine X0.arraylength hx (by rw [e0]; exact Ar101.1) (State.isArrayOf_alike hZ.alike Ar101.2.1) (g := (mkF m 4 #[.val (.ref a), .val (.ref b)] [(.ref b), (.int (0 : Int32)), (.ref b), (.ref a)])) rfl rfl (hb hby d_rm_emp1_4) _ ?_
    rw [len_of S101 M101]
    refine XS.aconstNull X0.here hx rfl (hb hby d_rm_emp1_5) ?_
    refine st102.trans ?_
    exact κ
  have KC102 : Keep h0 T102.heap [a] := KC0.trans K102 (allS (Or.inl (List.mem_of_getElem? (i := 0) rfl)) all0)
  have CH102 := C102.1
  have CR102 := CHr.trans CR0 C102
  have SKe := SK102
  obtain ⟨fs, hrE, hrun, hended, hEnd⟩ := X102.leaveW SI102 SKe (v := none) (fun _ => rfl)
  have CHe := CHr.trans CR102 (CHv.at X102 Z102 hEW CH102)
  have pqE := pq103
  rw [hA0] at pqE
  refine ⟨_, _, pqE _ ?_, hrun, hended, _, _, rfl, ?_, ?_, hEnd.1, hEnd.2.1, hEnd.2.2.1, hEnd.2.2.2.mono (by decide) (by decide)⟩
  · show Steps pP.tables e below (T102.setTop (mkF m 9 #[.val (.ref a), .val (.ref b)] [])) _
    exact X102.returnOut hx Bd.returns (hb hby d_rm_emp1_9) hrE
  · show Q_emp Z a h0 n0 _ T102.heap _
    exact ⟨rfl, N102, KC102, Ex102, Fc102, t102, _, tc102, Fv102, Vt102⟩
  · show CHr Z consts_1 s.vm s.heap T102.vm T102.heap
    rw [hh]; exact CHe
def Q_cod (h0 : Heap) (n0 : Nat) (v : Option Value) (h : Heap) (L : List Loc) : Prop := v = some (.int 0) ∧ Fr n0 L ∧ h = h0
theorem d_rm_cod_0 : decode jdk_42_method_152_code 0 = .ok (.getstatic 38, 3) := by decide +kernel
theorem d_rm_cod_3 : decode jdk_42_method_152_code 3 = .ok (.ifCond .eq 10, 3) := by decide +kernel
theorem d_rm_cod_6 : decode jdk_42_method_152_code 6 = .ok (.aload_n 0, 1) := by decide +kernel
theorem d_rm_cod_7 : decode jdk_42_method_152_code 7 = .ok (.getfield 15, 3) := by decide +kernel
theorem d_rm_cod_10 : decode jdk_42_method_152_code 10 = .ok (.goto 4, 3) := by decide +kernel
theorem d_rm_cod_14 : decode jdk_42_method_152_code 14 = .ok (.ireturn, 1) := by decide +kernel
theorem ef_rm_cod (m : MethodId) (x0 : Addr) : entryFrame m #[(.ref x0)] 1 = mkF m 0 #[.val (.ref x0)] [] := by first | (simp [entryFrame, mkF, argsToLocals, Value.category]; done) | rfl
set_option maxRecDepth 65536 in
set_option maxHeartbeats 3000000 in
theorem rm_cod (l : Launch) (Z : State) (a0 : Array Value) (hw : ∀ d ∈ tables_1, d.before a0 Z = true) (ws : List Jvm.Cond) (x : Addr) (G1 : Int32) (h0 : Heap) (n0 : Nat) (Z0 : n0 ≤ h0.size) (O2 : Sta Z Z.heap "java/lang/String" "COMPACT_STRINGS" "Z" (.int G1)) (P5 : ¬ (G1 = (0 : Int32))) (X00 : Old Z n0 h0) (F_c : Fld Z h0 x "java/lang/String" "coder" "B" (.int 0)) :
    MetFree l (⟨"java/lang/String", "coder", "()B"⟩ : MethodName) (head1 (Jvm.Cond.code (⟨"java/lang/String", "coder", "()B"⟩ : MethodName) jdk_42_method_152_code 1 (some .byte) :: ws) ({ frames := 0, cells := 0, slots := 0, locals := 0 } : Room)) (fun αs U => αs = #[(.ref x)] ∧ Z.Warmed39 U.vm ∧ U.heap = h0) (fun _ _ _ _ _ => True) (fun _ U o U' => ∃ v L, o = .returned v ∧ Q_cod h0 n0 v U'.heap L ∧ FrameEnd U o U' L ({ frames := 0, cells := 0, slots := 0, locals := 0 } : Room).cells ({ frames := 0, cells := 0, slots := 0, locals := 0 } : Room).slots) := by
  refine MetFree.of_bodySF (plainFor_of_name pno_0) hisR ?_
  intro pP e s m args below meth cC s₁ Bd hml0 hP hK
  obtain ⟨rfl, hZ, hh⟩ := hP
  have hx := Bd.exec
  have hby := Bd.bytes
  have hml : cC.maxLocals = 1 := hml0
  have hown : s.vm.findClass "java/lang/String" = some m.cls := findClass_of_methodNamed Bd.named
  have hnm := (name_of_methodNamed Bd.named Bd.method).1
  have X0 : Stand pP l e ({ frames := 0, cells := 0, slots := 0, locals := 0 } : Room) s m #[(.ref x)] below meth cC s₁ [] 0 0 := Stand.of_body Bd
  have e0 : s₁.heap = h0 := by rw [← hh, Bd.state]; rfl
  have N0 := Fr.nil n0
  have KC0 : Keep h0 h0 [] := Keep.refl h0 _
  obtain ⟨A0, hA0⟩ : ∃ z, z = s₁.setTop (entryFrame m #[(.ref x)] 1) := ⟨_, rfl⟩
  have pre0 : ∀ τ, Steps pP.tables e below (s₁.setTop (mkF m 0 #[.val (.ref x)] [])) τ → Steps pP.tables e below A0 τ := fun τ κ => by rw [hA0]; exact castTop (ef_rm_cod m x) κ
  obtain ⟨T101, X101, e101, st101⟩ := getS2 X0 hx hZ hown (host := "") (Or.inl (hw _ (List.mem_of_getElem? (i := 91) rfl))) Via.refl e0 (O2.ext X00.2) (g := (mkF m 0 #[.val (.ref x)] [])) rfl (hb hby d_rm_cod_0)
  have pq102 : ∀ τ, Steps pP.tables e below (T101.setTop (mkF m 3 #[.val (.ref x)] [(.int G1)])) τ → Steps pP.tables e below A0 τ := by
    intro τ κ
    refine pre0 τ ?_
    refine st101 _ ?_
    exact κ
  obtain ⟨T103, X103, e103, st103⟩ := getF X101 hx hZ hown (host := "") (Or.inl (hw _ (List.mem_of_getElem? (i := 26) rfl))) Via.refl e101 F_c (g := (mkF m 7 #[.val (.ref x)] [(.ref x)])) rfl rfl (hb hby d_rm_cod_7)
  have pq104 : ∀ τ, Steps pP.tables e below (T103.setTop (mkF m 10 #[.val (.ref x)] [(.int (0 : Int32))])) τ → Steps pP.tables e below A0 τ := by
    intro τ κ
    refine pq102 τ ?_
    refine XS.ifNo X101.here hx rfl (hb hby d_rm_cod_3) rfl ((if0 _ _).trans (feq P5).1) ?_
    refine XS.aloadN X101.here hx rfl (hb hby d_rm_cod_6) rfl rfl ?_
    refine st103 _ ?_
    exact κ
  obtain ⟨fs, hrE, hrun, hended, hW, hsame⟩ := X103.leave (v := some (.int (0 : Int32))) (fun h => by rw [Bd.returns] at h; cases h)
  have pqE := pq104
  rw [hA0] at pqE
  refine ⟨_, _, pqE _ ?_, hrun, hended, _, _, rfl, ?_, ⟨_, rfl⟩, hW, hsame.mono (by decide) (by decide)⟩
  · refine XS.goto X103.here hx rfl (pc0 := 10) (pc' := 14) rfl (hb hby d_rm_cod_10) (by decide) (by decide) ?_
    show Steps pP.tables e below (T103.setTop (mkF m 14 #[.val (.ref x)] [(.int (0 : Int32))])) _
    exact retN X103 hx (t := .byte) Bd.returns (by simp) (hb hby d_rm_cod_14) hrE
  · show Q_cod h0 n0 _ T103.heap _
    rw [e103]
    exact ⟨rfl, N0, rfl⟩
def Q_len (cs : List Int32) (h0 : Heap) (n0 : Nat) (v : Option Value) (h : Heap) (L : List Loc) : Prop := v = some (.int (Int32.ofNat (cs).length)) ∧ Fr n0 L ∧ h = h0
theorem d_rm_len_0 : decode jdk_42_method_54_code 0 = .ok (.aload_n 0, 1) := by decide +kernel
theorem d_rm_len_1 : decode jdk_42_method_54_code 1 = .ok (.getfield 9, 3) := by decide +kernel
theorem d_rm_len_4 : decode jdk_42_method_54_code 4 = .ok (.arraylength, 1) := by decide +kernel
theorem d_rm_len_5 : decode jdk_42_method_54_code 5 = .ok (.aload_n 0, 1) := by decide +kernel
theorem d_rm_len_6 : decode jdk_42_method_54_code 6 = .ok (.invokevirtual 335, 3) := by decide +kernel
theorem d_rm_len_9 : decode jdk_42_method_54_code 9 = .ok (.ishr, 1) := by decide +kernel
theorem d_rm_len_10 : decode jdk_42_method_54_code 10 = .ok (.ireturn, 1) := by decide +kernel
theorem ef_rm_len (m : MethodId) (x0 : Addr) : entryFrame m #[(.ref x0)] 1 = mkF m 0 #[.val (.ref x0)] [] := by first | (simp [entryFrame, mkF, argsToLocals, Value.category]; done) | rfl
set_option maxRecDepth 65536 in
set_option maxHeartbeats 3000000 in
theorem rm_len (l : Launch) (Z : State) (a0 : Array Value) (hw : ∀ d ∈ tables_1, d.before a0 Z = true) (ws : List Jvm.Cond) (x t : Addr) (kb : ClassId) (cs : List Int32) (G1 : Int32) (h0 : Heap) (n0 : Nat) (Z0 : n0 ≤ h0.size) (O2 : Sta Z Z.heap "java/lang/String" "COMPACT_STRINGS" "Z" (.int G1)) (P5 : ¬ (G1 = (0 : Int32))) (X00 : Old Z n0 h0) (E_x : Exa Z h0 x "java/lang/String") (F_c : Fld Z h0 x "java/lang/String" "coder" "B" (.int 0)) (F_v : Fld Z h0 x "java/lang/String" "value" "[B" (.ref t)) (V_t : Arv Z h0 t kb .byte (Int32.ofNat (cs).length) (((cs).map (fun c : Int32 => c.toInt8.toInt32)).map Value.int) (.int 0)) :
    MetFree l (⟨"java/lang/String", "length", "()I"⟩ : MethodName) (head1 (Jvm.Cond.code (⟨"java/lang/String", "length", "()I"⟩ : MethodName) jdk_42_method_54_code 1 (some .int) :: ws) ({ frames := 1, cells := 0, slots := 0, locals := 13 } : Room)) (fun αs U => αs = #[(.ref x)] ∧ Z.Warmed39 U.vm ∧ U.heap = h0) (fun _ _ _ _ _ => True) (fun _ U o U' => ∃ v L, o = .returned v ∧ Q_len cs h0 n0 v U'.heap L ∧ FrameEnd U o U' L ({ frames := 1, cells := 0, slots := 0, locals := 13 } : Room).cells ({ frames := 1, cells := 0, slots := 0, locals := 13 } : Room).slots) := by
  refine MetFree.of_bodySF (plainFor_of_name pno_0) hisR ?_
  intro pP e s m args below meth cC s₁ Bd hml0 hP hK
  obtain ⟨rfl, hZ, hh⟩ := hP
  have hx := Bd.exec
  have hby := Bd.bytes
  have hml : cC.maxLocals = 1 := hml0
  have hown : s.vm.findClass "java/lang/String" = some m.cls := findClass_of_methodNamed Bd.named
  have hnm := (name_of_methodNamed Bd.named Bd.method).1
  have X0 : Stand pP l e ({ frames := 1, cells := 0, slots := 0, locals := 13 } : Room) s m #[(.ref x)] below meth cC s₁ [] 0 0 := Stand.of_body Bd
  have e0 : s₁.heap = h0 := by rw [← hh, Bd.state]; rfl
  have N0 := Fr.nil n0
  have KC0 : Keep h0 h0 [] := Keep.refl h0 _
  obtain ⟨A0, hA0⟩ : ∃ z, z = s₁.setTop (entryFrame m #[(.ref x)] 1) := ⟨_, rfl⟩
  have pre0 : ∀ τ, Steps pP.tables e below (s₁.setTop (mkF m 0 #[.val (.ref x)] [])) τ → Steps pP.tables e below A0 τ := fun τ κ => by rw [hA0]; exact castTop (ef_rm_len m x) κ
  obtain ⟨T101, X101, e101, st101⟩ := getF X0 hx hZ hown (host := "") (Or.inl (hw _ (List.mem_of_getElem? (i := 25) rfl))) Via.refl e0 F_v (g := (mkF m 1 #[.val (.ref x)] [(.ref x)])) rfl rfl (hb hby d_rm_len_1)
  have pq102 : ∀ τ, Steps pP.tables e below (T101.setTop (mkF m 4 #[.val (.ref x)] [(.ref t)])) τ → Steps pP.tables e below A0 τ := by
    intro τ κ
    refine pre0 τ ?_
    refine XS.aloadN X0.here hx rfl (hb hby d_rm_len_0) rfl rfl ?_
    refine st101 _ ?_
    exact κ
  obtain ⟨cl103, Ar103, q103, S103, M103, Hs103, G103⟩ := id V_t
  obtain ⟨cq105, kq105, q105a, q105b, q105c⟩ := isOf hZ e101 E_x
  obtain ⟨_, _, ⟨T104, L104, k104, n104⟩, -, X104, ⟨Lc104, hQ104, l104, y104, z104⟩, st104⟩ := X101.virtualBack hx (y := (⟨"java/lang/String", "coder", "()B"⟩ : MethodName)) (z := (⟨"java/lang/String", "coder", "()B"⟩ : MethodName)) hown (mvT hZ (hw _ (List.mem_of_getElem? (i := 86) rfl))) (mvT hZ (hw _ (List.mem_of_getElem? (i := 87) rfl))) (notFace_of_selects (args := #[]) (mvT hZ (hw _ (List.mem_of_getElem? (i := 89) rfl)))) (mvT hZ (hw _ (List.mem_of_getElem? (i := 89) rfl))) (mvT hZ (hw _ (List.mem_of_getElem? (i := 88) rfl))) (by decide) (backOf (W := 1) (rm_cod l Z a0 hw [] x G1 h0 n0 Z0 O2 P5 X00 F_c) hZ (hw _ (List.mem_of_getElem? (i := 90) rfl)) (hw _ (List.mem_of_getElem? (i := 7) rfl)) (by decide) (by decide)) q105a q105c (g := (mkF m 6 #[.val (.ref x)] [(.ref x), (.int (Int32.ofNat (cs).length))])) rfl (by rw [hml]; rfl) (Steps.refl _) (argsL := []) (rest := [(.int (Int32.ofNat (cs).length))]) (lenOf pdo_1 rfl) rfl (by show 2 * 0 + _ ≤ _; exact Nat.le_of_eq rfl) (hb hby d_rm_len_6) (fun _ _ => ⟨rfl, e101, (by decide : 0 + 0 ≤ _), (by decide : 0 + 0 ≤ _)⟩)
  dsimp only [Pt.U, Pt.locs, Pt.cells, Pt.slots] at X104 l104 y104 z104 st104 hQ104
  subst l104 y104 z104
  obtain ⟨rfl, Nq104, eq104⟩ := hQ104
  have N104 := Fr.app N0 Nq104
  have pq106 : ∀ τ, Steps pP.tables e below (T104.setTop (mkF m 9 #[.val (.ref x)] [(.int (0 : Int32)), (.int (Int32.ofNat (cs).length))])) τ → Steps pP.tables e below A0 τ := by
    intro τ κ
    refine pq102 τ ?_
    refine X101.arraylength hx (by rw [e101]; exact Ar103.1) (State.isArrayOf_alike hZ.alike Ar103.2.1) (g := (mkF m 4 #[.val (.ref x)] [(.ref t)])) rfl rfl (hb hby d_rm_len_4) _ ?_
    rw [len_of S103 M103]
    refine XS.aloadN X101.here hx rfl (hb hby d_rm_len_5) rfl rfl ?_
    refine st104.trans ?_
    exact κ
  have pq107 : ∀ τ, Steps pP.tables e below (T104.setTop (mkF m 10 #[.val (.ref x)] [(.int ((Int32.ofNat (cs).length) >>> ((0 : Int32) &&& 31)))])) τ → Steps pP.tables e below A0 τ := by
    intro τ κ
    refine pq106 τ ?_
    refine XS.ishr X104.here hx rfl (hb hby d_rm_len_9) rfl ?_
    exact κ
  have pq108 : ∀ τ, Steps pP.tables e below (T104.setTop (mkF m 10 #[.val (.ref x)] [(.int (Int32.ofNat (cs).length))])) τ → Steps pP.tables e below A0 τ := by intro τ κ; refine pq107 τ ?_; rw [show ((Int32.ofNat (cs).length) >>> ((0 : Int32) &&& 31)) = (Int32.ofNat (cs).length) from own_shr0 _]; exact κ
  obtain ⟨fs, hrE, hrun, hended, hW, hsame⟩ := X104.leave (v := some (.int (Int32.ofNat (cs).length))) (fun h => by rw [Bd.returns] at h; cases h)
  have pqE := pq108
  rw [hA0] at pqE
  refine ⟨_, _, pqE _ ?_, hrun, hended, _, _, rfl, ?_, ⟨_, rfl⟩, hW, hsame.mono (by decide) (by decide)⟩
  · show Steps pP.tables e below (T104.setTop (mkF m 10 #[.val (.ref x)] [(.int (Int32.ofNat (cs).length))])) _
    exact retOut X104 hx Bd.returns rfl (Or.inl ⟨rfl, Or.inl rfl, _, rfl⟩) (hb hby d_rm_len_10) hrE
  · show Q_len cs h0 n0 _ T104.heap _
    rw [eq104]
    exact ⟨rfl, N104, rfl⟩
def Q_gb (Z : State) (vb : Addr) (kv : ClassId) (bs cs : List Int32) (h0 : Heap) (n0 : Nat) (v : Option Value) (h : Heap) (L : List Loc) : Prop := v = none ∧ Fr n0 L ∧ Keep h0 h [vb] ∧ Arv Z h vb kv .byte 16 ((((bs ++ cs)).map (fun c : Int32 => c.toInt8.toInt32)).map Value.int) (.int 0)
theorem d_rm_gb_0 : decode jdk_42_method_147_code 0 = .ok (.aload_n 0, 1) := by decide +kernel
theorem d_rm_gb_1 : decode jdk_42_method_147_code 1 = .ok (.invokevirtual 335, 3) := by decide +kernel
theorem d_rm_gb_4 : decode jdk_42_method_147_code 4 = .ok (.iload_n 3, 1) := by decide +kernel
theorem d_rm_gb_5 : decode jdk_42_method_147_code 5 = .ok (.if_icmp .ne 23, 3) := by decide +kernel
theorem d_rm_gb_8 : decode jdk_42_method_147_code 8 = .ok (.aload_n 0, 1) := by decide +kernel
theorem d_rm_gb_9 : decode jdk_42_method_147_code 9 = .ok (.getfield 9, 3) := by decide +kernel
theorem d_rm_gb_12 : decode jdk_42_method_147_code 12 = .ok (.iconst 0, 1) := by decide +kernel
theorem d_rm_gb_13 : decode jdk_42_method_147_code 13 = .ok (.aload_n 1, 1) := by decide +kernel
theorem d_rm_gb_14 : decode jdk_42_method_147_code 14 = .ok (.iload_n 2, 1) := by decide +kernel
theorem d_rm_gb_15 : decode jdk_42_method_147_code 15 = .ok (.iload_n 3, 1) := by decide +kernel
theorem d_rm_gb_16 : decode jdk_42_method_147_code 16 = .ok (.ishl, 1) := by decide +kernel
theorem d_rm_gb_17 : decode jdk_42_method_147_code 17 = .ok (.aload_n 0, 1) := by decide +kernel
theorem d_rm_gb_18 : decode jdk_42_method_147_code 18 = .ok (.getfield 9, 3) := by decide +kernel
theorem d_rm_gb_21 : decode jdk_42_method_147_code 21 = .ok (.arraylength, 1) := by decide +kernel
theorem d_rm_gb_22 : decode jdk_42_method_147_code 22 = .ok (.invokestatic 212, 3) := by decide +kernel
theorem d_rm_gb_25 : decode jdk_42_method_147_code 25 = .ok (.goto 18, 3) := by decide +kernel
theorem d_rm_gb_43 : decode jdk_42_method_147_code 43 = .ok (.return_, 1) := by decide +kernel
theorem ef_rm_gb (m : MethodId) (x0 : Addr) (x1 : Addr) (x2 : Int32) (x3 : Int32) : entryFrame m #[(.ref x0), (.ref x1), (.int x2), (.int x3)] 4 = mkF m 0 #[.val (.ref x0), .val (.ref x1), .val (.int x2), .val (.int x3)] [] := by first | (simp [entryFrame, mkF, argsToLocals, Value.category]; done) | rfl
set_option maxRecDepth 65536 in
set_option maxHeartbeats 3000000 in
theorem rm_gb (l : Launch) (Z : State) (a0 : Array Value) (hw : ∀ d ∈ tables_1, d.before a0 Z = true) (ws : List Jvm.Cond) (x t : Addr) (kb : ClassId) (cs : List Int32) (vb : Addr) (kv : ClassId) (bs : List Int32) (G1 : Int32) (h0 : Heap) (n0 : Nat) (Z0 : n0 ≤ h0.size) (O2 : Sta Z Z.heap "java/lang/String" "COMPACT_STRINGS" "Z" (.int G1)) (P5 : ¬ (G1 = (0 : Int32))) (X00 : Old Z n0 h0) (E_x : Exa Z h0 x "java/lang/String") (F_c : Fld Z h0 x "java/lang/String" "coder" "B" (.int 0)) (F_v : Fld Z h0 x "java/lang/String" "value" "[B" (.ref t)) (V_t : Arv Z h0 t kb .byte (Int32.ofNat (cs).length) (((cs).map (fun c : Int32 => c.toInt8.toInt32)).map Value.int) (.int 0)) (V_sb : Arv Z h0 vb kv .byte 16 (((bs).map (fun c : Int32 => c.toInt8.toInt32)).map Value.int) (.int 0)) (gvb : n0 ≤ vb) (hne : t ≠ vb) (hl : (bs).length + (cs).length ≤ 16) :
    MetFree l (⟨"java/lang/String", "getBytes", "([BIB)V"⟩ : MethodName) (head1 (Jvm.Cond.code (⟨"java/lang/String", "getBytes", "([BIB)V"⟩ : MethodName) jdk_42_method_147_code 4 none :: ws) ({ frames := 1, cells := 0, slots := 0, locals := 18 } : Room)) (fun αs U => αs = #[(.ref x), (.ref vb), (.int (Int32.ofNat (bs).length)), (.int (0 : Int32))] ∧ Z.Warmed39 U.vm ∧ U.heap = h0) (fun _ _ _ _ _ => True) (fun _ U o U' => ∃ v L, o = .returned v ∧ Q_gb Z vb kv bs cs h0 n0 v U'.heap L ∧ FrameEnd U o U' L ({ frames := 1, cells := 0, slots := 0, locals := 18 } : Room).cells ({ frames := 1, cells := 0, slots := 0, locals := 18 } : Room).slots) := by
  refine MetFree.of_bodySF (plainFor_of_name pno_0) hisR ?_
  intro pP e s m args below meth cC s₁ Bd hml0 hP hK
  obtain ⟨rfl, hZ, hh⟩ := hP
  have hx := Bd.exec
  have hby := Bd.bytes
  have hml : cC.maxLocals = 4 := hml0
  have hown : s.vm.findClass "java/lang/String" = some m.cls := findClass_of_methodNamed Bd.named
  have hnm := (name_of_methodNamed Bd.named Bd.method).1
  have X0 : Stand pP l e ({ frames := 1, cells := 0, slots := 0, locals := 18 } : Room) s m #[(.ref x), (.ref vb), (.int (Int32.ofNat (bs).length)), (.int (0 : Int32))] below meth cC s₁ [] 0 0 := Stand.of_body Bd
  have e0 : s₁.heap = h0 := by rw [← hh, Bd.state]; rfl
  have N0 := Fr.nil n0
  have KC0 : Keep h0 h0 [vb] := Keep.refl h0 _
  obtain ⟨A0, hA0⟩ : ∃ z, z = s₁.setTop (entryFrame m #[(.ref x), (.ref vb), (.int (Int32.ofNat (bs).length)), (.int (0 : Int32))] 4) := ⟨_, rfl⟩
  have pre0 : ∀ τ, Steps pP.tables e below (s₁.setTop (mkF m 0 #[.val (.ref x), .val (.ref vb), .val (.int (Int32.ofNat (bs).length)), .val (.int (0 : Int32))] [])) τ → Steps pP.tables e below A0 τ := fun τ κ => by rw [hA0]; exact castTop (ef_rm_gb m x vb (Int32.ofNat (bs).length) (0 : Int32)) κ
  obtain ⟨cq102, kq102, q102a, q102b, q102c⟩ := isOf hZ e0 E_x
  obtain ⟨_, _, ⟨T101, L101, k101, n101⟩, -, X101, ⟨Lc101, hQ101, l101, y101, z101⟩, st101⟩ := X0.virtualBack hx (y := (⟨"java/lang/String", "coder", "()B"⟩ : MethodName)) (z := (⟨"java/lang/String", "coder", "()B"⟩ : MethodName)) hown (mvT hZ (hw _ (List.mem_of_getElem? (i := 86) rfl))) (mvT hZ (hw _ (List.mem_of_getElem? (i := 87) rfl))) (notFace_of_selects (args := #[]) (mvT hZ (hw _ (List.mem_of_getElem? (i := 89) rfl)))) (mvT hZ (hw _ (List.mem_of_getElem? (i := 89) rfl))) (mvT hZ (hw _ (List.mem_of_getElem? (i := 88) rfl))) (by decide) (backOf (W := 0) (rm_cod l Z a0 hw [] x G1 h0 n0 Z0 O2 P5 X00 F_c) hZ (hw _ (List.mem_of_getElem? (i := 90) rfl)) (hw _ (List.mem_of_getElem? (i := 7) rfl)) (by decide) (by decide)) q102a q102c (g := (mkF m 1 #[.val (.ref x), .val (.ref vb), .val (.int (Int32.ofNat (bs).length)), .val (.int (0 : Int32))] [(.ref x)])) rfl (by rw [hml]; rfl) (Steps.refl _) (argsL := []) (rest := []) (lenOf pdo_1 rfl) rfl (by show 2 * 0 + _ ≤ _; exact Nat.le_of_eq rfl) (hb hby d_rm_gb_1) (fun _ _ => ⟨rfl, e0, (by decide : 0 + 0 ≤ _), (by decide : 0 + 0 ≤ _)⟩)
  dsimp only [Pt.U, Pt.locs, Pt.cells, Pt.slots] at X101 l101 y101 z101 st101 hQ101
  subst l101 y101 z101
  obtain ⟨rfl, Nq101, eq101⟩ := hQ101
  have N101 := Fr.app N0 Nq101
  have pq103 : ∀ τ, Steps pP.tables e below (T101.setTop (mkF m 4 #[.val (.ref x), .val (.ref vb), .val (.int (Int32.ofNat (bs).length)), .val (.int (0 : Int32))] [(.int (0 : Int32))])) τ → Steps pP.tables e below A0 τ := by
    intro τ κ
    refine pre0 τ ?_
    refine XS.aloadN X0.here hx rfl (hb hby d_rm_gb_0) rfl rfl ?_
    refine st101.trans ?_
    exact κ
  obtain ⟨T104, X104, e104, st104⟩ := getF X101 hx hZ hown (host := "") (Or.inl (hw _ (List.mem_of_getElem? (i := 25) rfl))) Via.refl eq101 F_v (g := (mkF m 9 #[.val (.ref x), .val (.ref vb), .val (.int (Int32.ofNat (bs).length)), .val (.int (0 : Int32))] [(.ref x)])) rfl rfl (hb hby d_rm_gb_9)
  have pq105 : ∀ τ, Steps pP.tables e below (T104.setTop (mkF m 12 #[.val (.ref x), .val (.ref vb), .val (.int (Int32.ofNat (bs).length)), .val (.int (0 : Int32))] [(.ref t)])) τ → Steps pP.tables e below A0 τ := by
    intro τ κ
    refine pq103 τ ?_
    refine XS.iloadN X101.here hx rfl (hb hby d_rm_gb_4) rfl ?_
    refine XS.icmpNo X101.here hx rfl (hb hby d_rm_gb_5) rfl (teq (by decide : ((0 : Int32) = (0 : Int32)))).2 ?_
    refine XS.aloadN X101.here hx rfl (hb hby d_rm_gb_8) rfl rfl ?_
    refine st104 _ ?_
    exact κ
  have pq106 : ∀ τ, Steps pP.tables e below (T104.setTop (mkF m 17 #[.val (.ref x), .val (.ref vb), .val (.int (Int32.ofNat (bs).length)), .val (.int (0 : Int32))] [(.int ((Int32.ofNat (bs).length) <<< ((0 : Int32) &&& 31))), (.ref vb), (.int (0 : Int32)), (.ref t)])) τ → Steps pP.tables e below A0 τ := by
    intro τ κ
    refine pq105 τ ?_
    refine XS.iconst X104.here hx rfl (hb hby d_rm_gb_12) ?_
    refine XS.aloadN X104.here hx rfl (hb hby d_rm_gb_13) rfl rfl ?_
    refine XS.iloadN X104.here hx rfl (hb hby d_rm_gb_14) rfl ?_
    refine XS.iloadN X104.here hx rfl (hb hby d_rm_gb_15) rfl ?_
    refine XS.ishl X104.here hx rfl (hb hby d_rm_gb_16) rfl ?_
    exact κ
  have pq107 : ∀ τ, Steps pP.tables e below (T104.setTop (mkF m 17 #[.val (.ref x), .val (.ref vb), .val (.int (Int32.ofNat (bs).length)), .val (.int (0 : Int32))] [(.int (Int32.ofNat (bs).length)), (.ref vb), (.int (0 : Int32)), (.ref t)])) τ → Steps pP.tables e below A0 τ := by intro τ κ; refine pq106 τ ?_; rw [show ((Int32.ofNat (bs).length) <<< ((0 : Int32) &&& 31)) = (Int32.ofNat (bs).length) from own_shl0 _]; exact κ
  obtain ⟨T108, X108, e108, st108⟩ := getF X104 hx hZ hown (host := "") (Or.inl (hw _ (List.mem_of_getElem? (i := 25) rfl))) Via.refl e104 F_v (g := (mkF m 18 #[.val (.ref x), .val (.ref vb), .val (.int (Int32.ofNat (bs).length)), .val (.int (0 : Int32))] [(.ref x), (.int (Int32.ofNat (bs).length)), (.ref vb), (.int (0 : Int32)), (.ref t)])) rfl rfl (hb hby d_rm_gb_18)
  have pq109 : ∀ τ, Steps pP.tables e below (T108.setTop (mkF m 21 #[.val (.ref x), .val (.ref vb), .val (.int (Int32.ofNat (bs).length)), .val (.int (0 : Int32))] [(.ref t), (.int (Int32.ofNat (bs).length)), (.ref vb), (.int (0 : Int32)), (.ref t)])) τ → Steps pP.tables e below A0 τ := by
    intro τ κ
    refine pq107 τ ?_
    refine XS.aloadN X104.here hx rfl (hb hby d_rm_gb_17) rfl rfl ?_
    refine st108 _ ?_
    exact κ
  obtain ⟨cl110, Ar110, q110, S110, M110, Hs110, G110⟩ := id V_t
  obtain ⟨T111, h111, L111, X111, e111, N111, K111, V111a, st111⟩ := cpA X108 hx hZ hown (hw _ (List.mem_of_getElem? (i := 115) rfl)) (hw _ (List.mem_of_getElem? (i := 118) rfl)) (hw _ (List.mem_of_getElem? (i := 116) rfl)) (hw _ (List.mem_of_getElem? (i := 117) rfl)) e108 V_t (V_sb.pad (pad_rep (((bs).map (fun c : Int32 => c.toInt8.toInt32)).map Value.int) (.int 0) 16)) (Or.inl ⟨rfl, rfl⟩) (by decide) (own_nn (by omega : (bs).length < 2 ^ 31)) (own_nn (by omega : (cs).length < 2 ^ 31)) (by rw [own_ofn (by omega : (cs).length < 2 ^ 31)]; show 0 + _ ≤ _; omega) (by rw [own_ofn (by omega : (bs).length < 2 ^ 31), own_ofn (by omega : (cs).length < 2 ^ 31)]; show _ ≤ 16; exact hl) rfl (by rw [own_ofn (by omega : (bs).length < 2 ^ 31), own_ofn (by omega : (cs).length < 2 ^ 31), List.length_append, own_svl, List.length_replicate]; omega) N101 gvb (g := (mkF m 22 #[.val (.ref x), .val (.ref vb), .val (.int (Int32.ofNat (bs).length)), .val (.int (0 : Int32))] [(.int (Int32.ofNat (cs).length)), (.int (Int32.ofNat (bs).length)), (.ref vb), (.int (0 : Int32)), (.ref t)])) rfl (by rw [hml]; rfl) rfl (hb hby d_rm_gb_22) (by decide) (W := 0) (by show 2 * 0 + _ ≤ _; exact Nat.le_of_eq rfl) (by decide)
  have pq112 : ∀ τ, Steps pP.tables e below (T111.setTop (mkF m 25 #[.val (.ref x), .val (.ref vb), .val (.int (Int32.ofNat (bs).length)), .val (.int (0 : Int32))] [])) τ → Steps pP.tables e below A0 τ := by
    intro τ κ
    refine pq109 τ ?_
    refine X108.arraylength hx (by rw [e108]; exact Ar110.1) (State.isArrayOf_alike hZ.alike Ar110.2.1) (g := (mkF m 21 #[.val (.ref x), .val (.ref vb), .val (.int (Int32.ofNat (bs).length)), .val (.int (0 : Int32))] [(.ref t), (.int (Int32.ofNat (bs).length)), (.ref vb), (.int (0 : Int32)), (.ref t)])) rfl rfl (hb hby d_rm_gb_21) _ ?_
    rw [len_of S110 M110]
    refine st111 _ ?_
    exact κ
  have KC111 : Keep h0 h111 [vb] := KC0.trans K111 (allS (Or.inl (List.mem_of_getElem? (i := 0) rfl)) all0)
  have V111 : Arv Z h111 vb kv .byte (16 : Int32) ((((bs ++ cs)).map (fun c : Int32 => c.toInt8.toInt32)).map Value.int) (.int 0) := own_cpres (bs := bs) (cs := cs) (by omega : (bs).length < 2 ^ 31) (by omega : (cs).length < 2 ^ 31) V111a
  obtain ⟨fs, hrE, hrun, hended, hW, hsame⟩ := X111.leave (v := none) (fun _ => rfl)
  have pqE := pq112
  rw [hA0] at pqE
  refine ⟨_, _, pqE _ ?_, hrun, hended, _, _, rfl, ?_, ⟨_, rfl⟩, hW, hsame.mono (by decide) (by decide)⟩
  · refine XS.goto X111.here hx rfl (pc0 := 25) (pc' := 43) rfl (hb hby d_rm_gb_25) (by decide) (by decide) ?_
    show Steps pP.tables e below (T111.setTop (mkF m 43 #[.val (.ref x), .val (.ref vb), .val (.int (Int32.ofNat (bs).length)), .val (.int (0 : Int32))] [])) _
    exact X111.returnOut hx Bd.returns (hb hby d_rm_gb_43) hrE
  · show Q_gb Z vb kv bs cs h0 n0 _ T111.heap _
    rw [e111]
    exact ⟨rfl, N111, KC111, V111⟩
def Q_inf (h0 : Heap) (n0 : Nat) (v : Option Value) (h : Heap) (L : List Loc) : Prop := v = none ∧ Fr n0 L ∧ h = h0
theorem d_rm_inf_0 : decode jdk_68_method_71_code 0 = .ok (.getstatic 18, 3) := by decide +kernel
theorem d_rm_inf_3 : decode jdk_68_method_71_code 3 = .ok (.ifCond .eq 18, 3) := by decide +kernel
theorem d_rm_inf_6 : decode jdk_68_method_71_code 6 = .ok (.aload_n 0, 1) := by decide +kernel
theorem d_rm_inf_7 : decode jdk_68_method_71_code 7 = .ok (.getfield 22, 3) := by decide +kernel
theorem d_rm_inf_10 : decode jdk_68_method_71_code 10 = .ok (.aload_n 1, 1) := by decide +kernel
theorem d_rm_inf_11 : decode jdk_68_method_71_code 11 = .ok (.invokevirtual 40, 3) := by decide +kernel
theorem d_rm_inf_14 : decode jdk_68_method_71_code 14 = .ok (.if_icmp .eq 7, 3) := by decide +kernel
theorem d_rm_inf_21 : decode jdk_68_method_71_code 21 = .ok (.return_, 1) := by decide +kernel
theorem ef_rm_inf (m : MethodId) (x0 : Addr) (x1 : Addr) : entryFrame m #[(.ref x0), (.ref x1)] 2 = mkF m 0 #[.val (.ref x0), .val (.ref x1)] [] := by first | (simp [entryFrame, mkF, argsToLocals, Value.category]; done) | rfl
set_option maxRecDepth 65536 in
set_option maxHeartbeats 3000000 in
theorem rm_inf (l : Launch) (Z : State) (a0 : Array Value) (hw : ∀ d ∈ tables_1, d.before a0 Z = true) (ws : List Jvm.Cond) (sb x : Addr) (G1 : Int32) (h0 : Heap) (n0 : Nat) (Z0 : n0 ≤ h0.size) (O2 : Sta Z Z.heap "java/lang/String" "COMPACT_STRINGS" "Z" (.int G1)) (P5 : ¬ (G1 = (0 : Int32))) (X00 : Old Z n0 h0) (F_sc : Fld Z h0 sb "java/lang/AbstractStringBuilder" "coder" "B" (.int 0)) (E_x : Exa Z h0 x "java/lang/String") (F_c : Fld Z h0 x "java/lang/String" "coder" "B" (.int 0)) :
    MetFree l (⟨"java/lang/AbstractStringBuilder", "inflateIfNeededFor", "(Ljava/lang/String;)V"⟩ : MethodName) (head1 (Jvm.Cond.code (⟨"java/lang/AbstractStringBuilder", "inflateIfNeededFor", "(Ljava/lang/String;)V"⟩ : MethodName) jdk_68_method_71_code 2 none :: ws) ({ frames := 1, cells := 0, slots := 0, locals := 13 } : Room)) (fun αs U => αs = #[(.ref sb), (.ref x)] ∧ Z.Warmed39 U.vm ∧ U.heap = h0) (fun _ _ _ _ _ => True) (fun _ U o U' => ∃ v L, o = .returned v ∧ Q_inf h0 n0 v U'.heap L ∧ FrameEnd U o U' L ({ frames := 1, cells := 0, slots := 0, locals := 13 } : Room).cells ({ frames := 1, cells := 0, slots := 0, locals := 13 } : Room).slots) := by
  refine MetFree.of_bodySF (plainFor_of_name pno_1) hisR ?_
  intro pP e s m args below meth cC s₁ Bd hml0 hP hK
  obtain ⟨rfl, hZ, hh⟩ := hP
  have hx := Bd.exec
  have hby := Bd.bytes
  have hml : cC.maxLocals = 2 := hml0
  have hown : s.vm.findClass "java/lang/AbstractStringBuilder" = some m.cls := findClass_of_methodNamed Bd.named
  have hnm := (name_of_methodNamed Bd.named Bd.method).1
  have X0 : Stand pP l e ({ frames := 1, cells := 0, slots := 0, locals := 13 } : Room) s m #[(.ref sb), (.ref x)] below meth cC s₁ [] 0 0 := Stand.of_body Bd
  have e0 : s₁.heap = h0 := by rw [← hh, Bd.state]; rfl
  have N0 := Fr.nil n0
  have KC0 : Keep h0 h0 [] := Keep.refl h0 _
  obtain ⟨A0, hA0⟩ : ∃ z, z = s₁.setTop (entryFrame m #[(.ref sb), (.ref x)] 2) := ⟨_, rfl⟩
  have pre0 : ∀ τ, Steps pP.tables e below (s₁.setTop (mkF m 0 #[.val (.ref sb), .val (.ref x)] [])) τ → Steps pP.tables e below A0 τ := fun τ κ => by rw [hA0]; exact castTop (ef_rm_inf m sb x) κ
  obtain ⟨T101, X101, e101, st101⟩ := getS2 X0 hx hZ hown (host := "") (Or.inl (hw _ (List.mem_of_getElem? (i := 66) rfl))) Via.refl e0 (O2.ext X00.2) (g := (mkF m 0 #[.val (.ref sb), .val (.ref x)] [])) rfl (hb hby d_rm_inf_0)
  have pq102 : ∀ τ, Steps pP.tables e below (T101.setTop (mkF m 3 #[.val (.ref sb), .val (.ref x)] [(.int G1)])) τ → Steps pP.tables e below A0 τ := by
    intro τ κ
    refine pre0 τ ?_
    refine st101 _ ?_
    exact κ
  obtain ⟨T103, X103, e103, st103⟩ := getF X101 hx hZ hown (host := "") (Or.inl (hw _ (List.mem_of_getElem? (i := 69) rfl))) Via.refl e101 F_sc (g := (mkF m 7 #[.val (.ref sb), .val (.ref x)] [(.ref sb)])) rfl rfl (hb hby d_rm_inf_7)
  have pq104 : ∀ τ, Steps pP.tables e below (T103.setTop (mkF m 10 #[.val (.ref sb), .val (.ref x)] [(.int (0 : Int32))])) τ → Steps pP.tables e below A0 τ := by
    intro τ κ
    refine pq102 τ ?_
    refine XS.ifNo X101.here hx rfl (hb hby d_rm_inf_3) rfl ((if0 _ _).trans (feq P5).1) ?_
    refine XS.aloadN X101.here hx rfl (hb hby d_rm_inf_6) rfl rfl ?_
    refine st103 _ ?_
    exact κ
  obtain ⟨cq106, kq106, q106a, q106b, q106c⟩ := isOf hZ e103 E_x
  obtain ⟨_, _, ⟨T105, L105, k105, n105⟩, -, X105, ⟨Lc105, hQ105, l105, y105, z105⟩, st105⟩ := X103.virtualBack hx (y := (⟨"java/lang/String", "coder", "()B"⟩ : MethodName)) (z := (⟨"java/lang/String", "coder", "()B"⟩ : MethodName)) hown (mvT hZ (hw _ (List.mem_of_getElem? (i := 109) rfl))) (mvT hZ (hw _ (List.mem_of_getElem? (i := 87) rfl))) (notFace_of_selects (args := #[]) (mvT hZ (hw _ (List.mem_of_getElem? (i := 89) rfl)))) (mvT hZ (hw _ (List.mem_of_getElem? (i := 89) rfl))) (mvT hZ (hw _ (List.mem_of_getElem? (i := 88) rfl))) (by decide) (backOf (W := 1) (rm_cod l Z a0 hw [] x G1 h0 n0 Z0 O2 P5 X00 F_c) hZ (hw _ (List.mem_of_getElem? (i := 90) rfl)) (hw _ (List.mem_of_getElem? (i := 7) rfl)) (by decide) (by decide)) q106a q106c (g := (mkF m 11 #[.val (.ref sb), .val (.ref x)] [(.ref x), (.int (0 : Int32))])) rfl (by rw [hml]; rfl) (Steps.refl _) (argsL := []) (rest := [(.int (0 : Int32))]) (lenOf pdo_1 rfl) rfl (by show 2 * 0 + _ ≤ _; exact Nat.le_of_eq rfl) (hb hby d_rm_inf_11) (fun _ _ => ⟨rfl, e103, (by decide : 0 + 0 ≤ _), (by decide : 0 + 0 ≤ _)⟩)
  dsimp only [Pt.U, Pt.locs, Pt.cells, Pt.slots] at X105 l105 y105 z105 st105 hQ105
  subst l105 y105 z105
  obtain ⟨rfl, Nq105, eq105⟩ := hQ105
  have N105 := Fr.app N0 Nq105
  have pq107 : ∀ τ, Steps pP.tables e below (T105.setTop (mkF m 14 #[.val (.ref sb), .val (.ref x)] [(.int (0 : Int32)), (.int (0 : Int32))])) τ → Steps pP.tables e below A0 τ := by
    intro τ κ
    refine pq104 τ ?_
    refine XS.aloadN X103.here hx rfl (hb hby d_rm_inf_10) rfl rfl ?_
    refine st105.trans ?_
    exact κ
  obtain ⟨fs, hrE, hrun, hended, hW, hsame⟩ := X105.leave (v := none) (fun _ => rfl)
  have pqE := pq107
  rw [hA0] at pqE
  refine ⟨_, _, pqE _ ?_, hrun, hended, _, _, rfl, ?_, ⟨_, rfl⟩, hW, hsame.mono (by decide) (by decide)⟩
  · refine XS.icmpYes X105.here hx rfl (pc0 := 14) (pc' := 21) rfl (hb hby d_rm_inf_14) rfl (teq (by decide : ((0 : Int32) = (0 : Int32)))).1 (by decide) (by decide) ?_
    show Steps pP.tables e below (T105.setTop (mkF m 21 #[.val (.ref sb), .val (.ref x)] [])) _
    exact X105.returnOut hx Bd.returns (hb hby d_rm_inf_21) hrE
  · show Q_inf h0 n0 _ T105.heap _
    rw [eq105]
    exact ⟨rfl, N105, rfl⟩
def Q_ens (h0 : Heap) (n0 : Nat) (v : Option Value) (h : Heap) (L : List Loc) : Prop := v = none ∧ Fr n0 L ∧ h = h0
theorem d_rm_ens_0 : decode jdk_68_method_9_code 0 = .ok (.aload_n 0, 1) := by decide +kernel
theorem d_rm_ens_1 : decode jdk_68_method_9_code 1 = .ok (.getfield 15, 3) := by decide +kernel
theorem d_rm_ens_4 : decode jdk_68_method_9_code 4 = .ok (.arraylength, 1) := by decide +kernel
theorem d_rm_ens_5 : decode jdk_68_method_9_code 5 = .ok (.aload_n 0, 1) := by decide +kernel
theorem d_rm_ens_6 : decode jdk_68_method_9_code 6 = .ok (.getfield 22, 3) := by decide +kernel
theorem d_rm_ens_9 : decode jdk_68_method_9_code 9 = .ok (.ishr, 1) := by decide +kernel
theorem d_rm_ens_10 : decode jdk_68_method_9_code 10 = .ok (.istore_n 2, 1) := by decide +kernel
theorem d_rm_ens_11 : decode jdk_68_method_9_code 11 = .ok (.iload_n 1, 1) := by decide +kernel
theorem d_rm_ens_12 : decode jdk_68_method_9_code 12 = .ok (.iload_n 2, 1) := by decide +kernel
theorem d_rm_ens_13 : decode jdk_68_method_9_code 13 = .ok (.isub, 1) := by decide +kernel
theorem d_rm_ens_14 : decode jdk_68_method_9_code 14 = .ok (.ifCond .le 24, 3) := by decide +kernel
theorem d_rm_ens_38 : decode jdk_68_method_9_code 38 = .ok (.return_, 1) := by decide +kernel
theorem ef_rm_ens (m : MethodId) (x0 : Addr) (x1 : Int32) : entryFrame m #[(.ref x0), (.int x1)] 3 = mkF m 0 #[.val (.ref x0), .val (.int x1), .unset] [] := by first | (simp [entryFrame, mkF, argsToLocals, Value.category]; done) | rfl
set_option maxRecDepth 65536 in
set_option maxHeartbeats 3000000 in
theorem rm_ens (l : Launch) (Z : State) (a0 : Array Value) (hw : ∀ d ∈ tables_1, d.before a0 Z = true) (ws : List Jvm.Cond) (sb vb : Addr) (kv : ClassId) (bs : List Int32) (q : Int32) (h0 : Heap) (n0 : Nat) (Z0 : n0 ≤ h0.size) (E_sb : Exa Z h0 sb "java/lang/StringBuilder") (F_sv : Fld Z h0 sb "java/lang/AbstractStringBuilder" "value" "[B" (.ref vb)) (F_sc : Fld Z h0 sb "java/lang/AbstractStringBuilder" "coder" "B" (.int 0)) (F_sn : Fld Z h0 sb "java/lang/AbstractStringBuilder" "count" "I" (.int (Int32.ofNat (bs).length))) (V_sb : Arv Z h0 vb kv .byte 16 (((bs).map (fun c : Int32 => c.toInt8.toInt32)).map Value.int) (.int 0)) (hq : ¬ (0 : Int32) < (q - ((16 : Int32) >>> ((0 : Int32) &&& 31)))) :
    MetFree l (⟨"java/lang/AbstractStringBuilder", "ensureCapacityInternal", "(I)V"⟩ : MethodName) (head1 (Jvm.Cond.code (⟨"java/lang/AbstractStringBuilder", "ensureCapacityInternal", "(I)V"⟩ : MethodName) jdk_68_method_9_code 3 none :: ws) ({ frames := 0, cells := 0, slots := 0, locals := 0 } : Room)) (fun αs U => αs = #[(.ref sb), (.int q)] ∧ Z.Warmed39 U.vm ∧ U.heap = h0) (fun _ _ _ _ _ => True) (fun _ U o U' => ∃ v L, o = .returned v ∧ Q_ens h0 n0 v U'.heap L ∧ FrameEnd U o U' L ({ frames := 0, cells := 0, slots := 0, locals := 0 } : Room).cells ({ frames := 0, cells := 0, slots := 0, locals := 0 } : Room).slots) := by
  refine MetFree.of_bodySF (plainFor_of_name pno_1) hisR ?_
  intro pP e s m args below meth cC s₁ Bd hml0 hP hK
  obtain ⟨rfl, hZ, hh⟩ := hP
  have hx := Bd.exec
  have hby := Bd.bytes
  have hml : cC.maxLocals = 3 := hml0
  have hown : s.vm.findClass "java/lang/AbstractStringBuilder" = some m.cls := findClass_of_methodNamed Bd.named
  have hnm := (name_of_methodNamed Bd.named Bd.method).1
  have X0 : Stand pP l e ({ frames := 0, cells := 0, slots := 0, locals := 0 } : Room) s m #[(.ref sb), (.int q)] below meth cC s₁ [] 0 0 := Stand.of_body Bd
  have e0 : s₁.heap = h0 := by rw [← hh, Bd.state]; rfl
  have N0 := Fr.nil n0
  have KC0 : Keep h0 h0 [] := Keep.refl h0 _
  obtain ⟨A0, hA0⟩ : ∃ z, z = s₁.setTop (entryFrame m #[(.ref sb), (.int q)] 3) := ⟨_, rfl⟩
  have pre0 : ∀ τ, Steps pP.tables e below (s₁.setTop (mkF m 0 #[.val (.ref sb), .val (.int q), .unset] [])) τ → Steps pP.tables e below A0 τ := fun τ κ => by rw [hA0]; exact castTop (ef_rm_ens m sb q) κ
  obtain ⟨T101, X101, e101, st101⟩ := getF X0 hx hZ hown (host := "") (Or.inl (hw _ (List.mem_of_getElem? (i := 67) rfl))) Via.refl e0 F_sv (g := (mkF m 1 #[.val (.ref sb), .val (.int q), .unset] [(.ref sb)])) rfl rfl (hb hby d_rm_ens_1)
  have pq102 : ∀ τ, Steps pP.tables e below (T101.setTop (mkF m 4 #[.val (.ref sb), .val (.int q), .unset] [(.ref vb)])) τ → Steps pP.tables e below A0 τ := by
    intro τ κ
    refine pre0 τ ?_
    refine XS.aloadN X0.here hx rfl (hb hby d_rm_ens_0) rfl rfl ?_
    refine st101 _ ?_
    exact κ
  obtain ⟨cl103, Ar103, q103, S103, M103, Hs103, G103⟩ := id V_sb
  obtain ⟨T104, X104, e104, st104⟩ := getF X101 hx hZ hown (host := "") (Or.inl (hw _ (List.mem_of_getElem? (i := 69) rfl))) Via.refl e101 F_sc (g := (mkF m 6 #[.val (.ref sb), .val (.int q), .unset] [(.ref sb), (.int (16 : Int32))])) rfl rfl (hb hby d_rm_ens_6)
  have pq105 : ∀ τ, Steps pP.tables e below (T104.setTop (mkF m 9 #[.val (.ref sb), .val (.int q), .unset] [(.int (0 : Int32)), (.int (16 : Int32))])) τ → Steps pP.tables e below A0 τ := by
    intro τ κ
    refine pq102 τ ?_
    refine X101.arraylength hx (by rw [e101]; exact Ar103.1) (State.isArrayOf_alike hZ.alike Ar103.2.1) (g := (mkF m 4 #[.val (.ref sb), .val (.int q), .unset] [(.ref vb)])) rfl rfl (hb hby d_rm_ens_4) _ ?_
    rw [len_of S103 M103]
    refine XS.aloadN X101.here hx rfl (hb hby d_rm_ens_5) rfl rfl ?_
    refine st104 _ ?_
    exact κ
  obtain ⟨fs, hrE, hrun, hended, hW, hsame⟩ := X104.leave (v := none) (fun _ => rfl)
  have pqE := pq105
  rw [hA0] at pqE
  refine ⟨_, _, pqE _ ?_, hrun, hended, _, _, rfl, ?_, ⟨_, rfl⟩, hW, hsame.mono (by decide) (by decide)⟩
  · refine XS.ishr X104.here hx rfl (hb hby d_rm_ens_9) rfl ?_
    refine XS.istoreN X104.here hx rfl (hb hby d_rm_ens_10) rfl (l' := #[.val (.ref sb), .val (.int q), .val (.int ((16 : Int32) >>> ((0 : Int32) &&& 31)))]) rfl ?_
    refine XS.iloadN X104.here hx rfl (hb hby d_rm_ens_11) rfl ?_
    refine XS.iloadN X104.here hx rfl (hb hby d_rm_ens_12) rfl ?_
    refine XS.isub X104.here hx rfl (hb hby d_rm_ens_13) rfl ?_
    refine XS.ifYes X104.here hx rfl (pc0 := 14) (pc' := 38) rfl (hb hby d_rm_ens_14) rfl ((if0 _ _).trans (flt hq).2.2.2) (by decide) (by decide) ?_
    show Steps pP.tables e below (T104.setTop (mkF m 38 #[.val (.ref sb), .val (.int q), .val (.int ((16 : Int32) >>> ((0 : Int32) &&& 31)))] [])) _
    exact X104.returnOut hx Bd.returns (hb hby d_rm_ens_38) hrE
  · show Q_ens h0 n0 _ T104.heap _
    rw [e104]
    exact ⟨rfl, N0, rfl⟩
theorem d_rm_put_0 : decode jdk_68_method_73_code 0 = .ok (.aload_n 0, 1) := by decide +kernel
theorem d_rm_put_1 : decode jdk_68_method_73_code 1 = .ok (.aload_n 2, 1) := by decide +kernel
theorem d_rm_put_2 : decode jdk_68_method_73_code 2 = .ok (.invokevirtual 397, 3) := by decide +kernel
theorem d_rm_put_5 : decode jdk_68_method_73_code 5 = .ok (.aload_n 2, 1) := by decide +kernel
theorem d_rm_put_6 : decode jdk_68_method_73_code 6 = .ok (.aload_n 0, 1) := by decide +kernel
theorem d_rm_put_7 : decode jdk_68_method_73_code 7 = .ok (.getfield 15, 3) := by decide +kernel
theorem d_rm_put_10 : decode jdk_68_method_73_code 10 = .ok (.iload_n 1, 1) := by decide +kernel
theorem d_rm_put_11 : decode jdk_68_method_73_code 11 = .ok (.aload_n 0, 1) := by decide +kernel
theorem d_rm_put_12 : decode jdk_68_method_73_code 12 = .ok (.getfield 22, 3) := by decide +kernel
theorem d_rm_put_15 : decode jdk_68_method_73_code 15 = .ok (.invokevirtual 399, 3) := by decide +kernel
theorem d_rm_put_18 : decode jdk_68_method_73_code 18 = .ok (.return_, 1) := by decide +kernel
theorem ef_rm_put (m : MethodId) (x0 : Addr) (x1 : Int32) (x2 : Addr) : entryFrame m #[(.ref x0), (.int x1), (.ref x2)] 3 = mkF m 0 #[.val (.ref x0), .val (.int x1), .val (.ref x2)] [] := by first | (simp [entryFrame, mkF, argsToLocals, Value.category]; done) | rfl
set_option maxRecDepth 65536 in
set_option maxHeartbeats 3000000 in
theorem rm_put (l : Launch) (Z : State) (a0 : Array Value) (hw : ∀ d ∈ tables_1, d.before a0 Z = true) (ws : List Jvm.Cond) (x t : Addr) (kb : ClassId) (cs : List Int32) (sb vb : Addr) (kv : ClassId) (bs : List Int32) (G1 : Int32) (h0 : Heap) (n0 : Nat) (Z0 : n0 ≤ h0.size) (O2 : Sta Z Z.heap "java/lang/String" "COMPACT_STRINGS" "Z" (.int G1)) (P5 : ¬ (G1 = (0 : Int32))) (X00 : Old Z n0 h0) (E_x : Exa Z h0 x "java/lang/String") (F_c : Fld Z h0 x "java/lang/String" "coder" "B" (.int 0)) (F_v : Fld Z h0 x "java/lang/String" "value" "[B" (.ref t)) (V_t : Arv Z h0 t kb .byte (Int32.ofNat (cs).length) (((cs).map (fun c : Int32 => c.toInt8.toInt32)).map Value.int) (.int 0)) (E_sb : Exa Z h0 sb "java/lang/StringBuilder") (F_sv : Fld Z h0 sb "java/lang/AbstractStringBuilder" "value" "[B" (.ref vb)) (F_sc : Fld Z h0 sb "java/lang/AbstractStringBuilder" "coder" "B" (.int 0)) (F_sn : Fld Z h0 sb "java/lang/AbstractStringBuilder" "count" "I" (.int (Int32.ofNat (bs).length))) (V_sb : Arv Z h0 vb kv .byte 16 (((bs).map (fun c : Int32 => c.toInt8.toInt32)).map Value.int) (.int 0)) (gvb : n0 ≤ vb) (hne : t ≠ vb) (hl : (bs).length + (cs).length ≤ 16) :
    MetFree l (⟨"java/lang/AbstractStringBuilder", "putStringAt", "(ILjava/lang/String;)V"⟩ : MethodName) (head1 (Jvm.Cond.code (⟨"java/lang/AbstractStringBuilder", "putStringAt", "(ILjava/lang/String;)V"⟩ : MethodName) jdk_68_method_73_code 3 none :: ws) ({ frames := 2, cells := 0, slots := 0, locals := 33 } : Room)) (fun αs U => αs = #[(.ref sb), (.int (Int32.ofNat (bs).length)), (.ref x)] ∧ Z.Warmed39 U.vm ∧ U.heap = h0) (fun _ _ _ _ _ => True) (fun _ U o U' => ∃ v L, o = .returned v ∧ Q_gb Z vb kv bs cs h0 n0 v U'.heap L ∧ FrameEnd U o U' L ({ frames := 2, cells := 0, slots := 0, locals := 33 } : Room).cells ({ frames := 2, cells := 0, slots := 0, locals := 33 } : Room).slots) := by
  refine MetFree.of_bodySF (plainFor_of_name pno_1) hisR ?_
  intro pP e s m args below meth cC s₁ Bd hml0 hP hK
  obtain ⟨rfl, hZ, hh⟩ := hP
  have hx := Bd.exec
  have hby := Bd.bytes
  have hml : cC.maxLocals = 3 := hml0
  have hown : s.vm.findClass "java/lang/AbstractStringBuilder" = some m.cls := findClass_of_methodNamed Bd.named
  have hnm := (name_of_methodNamed Bd.named Bd.method).1
  have X0 : Stand pP l e ({ frames := 2, cells := 0, slots := 0, locals := 33 } : Room) s m #[(.ref sb), (.int (Int32.ofNat (bs).length)), (.ref x)] below meth cC s₁ [] 0 0 := Stand.of_body Bd
  have e0 : s₁.heap = h0 := by rw [← hh, Bd.state]; rfl
  have N0 := Fr.nil n0
  have KC0 : Keep h0 h0 [vb] := Keep.refl h0 _
  obtain ⟨A0, hA0⟩ : ∃ z, z = s₁.setTop (entryFrame m #[(.ref sb), (.int (Int32.ofNat (bs).length)), (.ref x)] 3) := ⟨_, rfl⟩
  have pre0 : ∀ τ, Steps pP.tables e below (s₁.setTop (mkF m 0 #[.val (.ref sb), .val (.int (Int32.ofNat (bs).length)), .val (.ref x)] [])) τ → Steps pP.tables e below A0 τ := fun τ κ => by rw [hA0]; exact castTop (ef_rm_put m sb (Int32.ofNat (bs).length) x) κ
  obtain ⟨cq102, kq102, q102a, q102b, q102c⟩ := isOf hZ e0 E_sb
  obtain ⟨_, _, ⟨T101, L101, k101, n101⟩, -, X101, ⟨Lc101, hQ101, l101, y101, z101⟩, st101⟩ := X0.virtualBack hx (y := (⟨"java/lang/AbstractStringBuilder", "inflateIfNeededFor", "(Ljava/lang/String;)V"⟩ : MethodName)) (z := (⟨"java/lang/AbstractStringBuilder", "inflateIfNeededFor", "(Ljava/lang/String;)V"⟩ : MethodName)) hown (mvT hZ (hw _ (List.mem_of_getElem? (i := 104) rfl))) (mvT hZ (own_declares (hw _ (List.mem_of_getElem? (i := 105) rfl)) (hw _ (List.mem_of_getElem? (i := 108) rfl)))) (notFace_of_selects (args := #[]) (mvT hZ (hw _ (List.mem_of_getElem? (i := 107) rfl)))) (mvT hZ (hw _ (List.mem_of_getElem? (i := 107) rfl))) (mvT hZ (hw _ (List.mem_of_getElem? (i := 105) rfl))) (by decide) (backOf (W := 0) (rm_inf l Z a0 hw [] sb x G1 h0 n0 Z0 O2 P5 X00 F_sc E_x F_c) hZ (hw _ (List.mem_of_getElem? (i := 108) rfl)) (hw _ (List.mem_of_getElem? (i := 63) rfl)) (by decide) (by decide)) q102a q102c (g := (mkF m 2 #[.val (.ref sb), .val (.int (Int32.ofNat (bs).length)), .val (.ref x)] [(.ref x), (.ref sb)])) rfl (by rw [hml]; rfl) (Steps.refl _) (argsL := [(.ref x)]) (rest := []) (lenOf pdo_2 rfl) rfl (by show 2 * 0 + _ ≤ _; exact Nat.le_of_eq rfl) (hb hby d_rm_put_2) (fun _ _ => ⟨rfl, e0, (by decide : 0 + 0 ≤ _), (by decide : 0 + 0 ≤ _)⟩)
  dsimp only [Pt.U, Pt.locs, Pt.cells, Pt.slots] at X101 l101 y101 z101 st101 hQ101
  subst l101 y101 z101
  obtain ⟨rfl, Nq101, eq101⟩ := hQ101
  have N101 := Fr.app N0 Nq101
  have pq103 : ∀ τ, Steps pP.tables e below (T101.setTop (mkF m 5 #[.val (.ref sb), .val (.int (Int32.ofNat (bs).length)), .val (.ref x)] [])) τ → Steps pP.tables e below A0 τ := by
    intro τ κ
    refine pre0 τ ?_
    refine XS.aloadN X0.here hx rfl (hb hby d_rm_put_0) rfl rfl ?_
    refine XS.aloadN X0.here hx rfl (hb hby d_rm_put_1) rfl rfl ?_
    refine st101.trans ?_
    exact κ
  obtain ⟨T104, X104, e104, st104⟩ := getF X101 hx hZ hown (host := "") (Or.inl (hw _ (List.mem_of_getElem? (i := 67) rfl))) Via.refl eq101 F_sv (g := (mkF m 7 #[.val (.ref sb), .val (.int (Int32.ofNat (bs).length)), .val (.ref x)] [(.ref sb), (.ref x)])) rfl rfl (hb hby d_rm_put_7)
  have pq105 : ∀ τ, Steps pP.tables e below (T104.setTop (mkF m 10 #[.val (.ref sb), .val (.int (Int32.ofNat (bs).length)), .val (.ref x)] [(.ref vb), (.ref x)])) τ → Steps pP.tables e below A0 τ := by
    intro τ κ
    refine pq103 τ ?_
    refine XS.aloadN X101.here hx rfl (hb hby d_rm_put_5) rfl rfl ?_
    refine XS.aloadN X101.here hx rfl (hb hby d_rm_put_6) rfl rfl ?_
    refine st104 _ ?_
    exact κ
  obtain ⟨T106, X106, e106, st106⟩ := getF X104 hx hZ hown (host := "") (Or.inl (hw _ (List.mem_of_getElem? (i := 69) rfl))) Via.refl e104 F_sc (g := (mkF m 12 #[.val (.ref sb), .val (.int (Int32.ofNat (bs).length)), .val (.ref x)] [(.ref sb), (.int (Int32.ofNat (bs).length)), (.ref vb), (.ref x)])) rfl rfl (hb hby d_rm_put_12)
  have pq107 : ∀ τ, Steps pP.tables e below (T106.setTop (mkF m 15 #[.val (.ref sb), .val (.int (Int32.ofNat (bs).length)), .val (.ref x)] [(.int (0 : Int32)), (.int (Int32.ofNat (bs).length)), (.ref vb), (.ref x)])) τ → Steps pP.tables e below A0 τ := by
    intro τ κ
    refine pq105 τ ?_
    refine XS.iloadN X104.here hx rfl (hb hby d_rm_put_10) rfl ?_
    refine XS.aloadN X104.here hx rfl (hb hby d_rm_put_11) rfl rfl ?_
    refine st106 _ ?_
    exact κ
  obtain ⟨cq109, kq109, q109a, q109b, q109c⟩ := isOf hZ e106 E_x
  obtain ⟨_, _, ⟨T108, L108, k108, n108⟩, -, X108, ⟨Lc108, hQ108, l108, y108, z108⟩, st108⟩ := X106.virtualBack hx (y := (⟨"java/lang/String", "getBytes", "([BIB)V"⟩ : MethodName)) (z := (⟨"java/lang/String", "getBytes", "([BIB)V"⟩ : MethodName)) hown (mvT hZ (hw _ (List.mem_of_getElem? (i := 110) rfl))) (mvT hZ (hw _ (List.mem_of_getElem? (i := 111) rfl))) (notFace_of_selects (args := #[]) (mvT hZ (hw _ (List.mem_of_getElem? (i := 113) rfl)))) (mvT hZ (hw _ (List.mem_of_getElem? (i := 113) rfl))) (mvT hZ (hw _ (List.mem_of_getElem? (i := 112) rfl))) (by decide) (backOf (W := 0) (rm_gb l Z a0 hw [] x t kb cs vb kv bs G1 h0 n0 Z0 O2 P5 X00 E_x F_c F_v V_t V_sb gvb hne hl) hZ (hw _ (List.mem_of_getElem? (i := 114) rfl)) (hw _ (List.mem_of_getElem? (i := 7) rfl)) (by decide) (by decide)) q109a q109c (g := (mkF m 15 #[.val (.ref sb), .val (.int (Int32.ofNat (bs).length)), .val (.ref x)] [(.int (0 : Int32)), (.int (Int32.ofNat (bs).length)), (.ref vb), (.ref x)])) rfl (by rw [hml]; rfl) (Steps.refl _) (argsL := [(.ref vb), (.int (Int32.ofNat (bs).length)), (.int (0 : Int32))]) (rest := []) (lenOf pdo_3 rfl) rfl (by show 2 * 0 + _ ≤ _; exact Nat.le_of_eq rfl) (hb hby d_rm_put_15) (fun _ _ => ⟨rfl, e106, (by decide : 0 + 0 ≤ _), (by decide : 0 + 0 ≤ _)⟩)
  dsimp only [Pt.U, Pt.locs, Pt.cells, Pt.slots] at X108 l108 y108 z108 st108 hQ108
  subst l108 y108 z108
  obtain ⟨rfl, Nq108, K108, V108⟩ := hQ108
  have N108 := Fr.app N101 Nq108
  have pq110 : ∀ τ, Steps pP.tables e below (T108.setTop (mkF m 18 #[.val (.ref sb), .val (.int (Int32.ofNat (bs).length)), .val (.ref x)] [])) τ → Steps pP.tables e below A0 τ := by
    intro τ κ
    refine pq107 τ ?_
    refine st108.trans ?_
    exact κ
  have KC108 : Keep h0 T108.heap [vb] := KC0.trans K108 (allS (Or.inl (List.mem_of_getElem? (i := 0) rfl)) all0)
  obtain ⟨fs, hrE, hrun, hended, hW, hsame⟩ := X108.leave (v := none) (fun _ => rfl)
  have pqE := pq110
  rw [hA0] at pqE
  refine ⟨_, _, pqE _ ?_, hrun, hended, _, _, rfl, ?_, ⟨_, rfl⟩, hW, hsame.mono (by decide) (by decide)⟩
  · show Steps pP.tables e below (T108.setTop (mkF m 18 #[.val (.ref sb), .val (.int (Int32.ofNat (bs).length)), .val (.ref x)] [])) _
    exact X108.returnOut hx Bd.returns (hb hby d_rm_put_18) hrE
  · show Q_gb Z vb kv bs cs h0 n0 _ T108.heap _
    exact ⟨rfl, N108, KC108, V108⟩
def Q_app (Z : State) (sb vb : Addr) (kv : ClassId) (bs cs : List Int32) (h0 : Heap) (n0 : Nat) (v : Option Value) (h : Heap) (L : List Loc) : Prop := v = some (.ref sb) ∧ Fr n0 L ∧ Keep h0 h [sb, vb] ∧ Exa Z h sb "java/lang/StringBuilder" ∧ Fld Z h sb "java/lang/AbstractStringBuilder" "value" "[B" (.ref vb) ∧ Fld Z h sb "java/lang/AbstractStringBuilder" "coder" "B" (.int 0) ∧ Fld Z h sb "java/lang/AbstractStringBuilder" "count" "I" (.int (Int32.ofNat (bs ++ cs).length)) ∧ Arv Z h vb kv .byte 16 ((((bs ++ cs)).map (fun c : Int32 => c.toInt8.toInt32)).map Value.int) (.int 0)
theorem d_rm_apa_0 : decode jdk_68_method_22_code 0 = .ok (.aload_n 1, 1) := by decide +kernel
theorem d_rm_apa_1 : decode jdk_68_method_22_code 1 = .ok (.ifnonnull 8, 3) := by decide +kernel
theorem d_rm_apa_9 : decode jdk_68_method_22_code 9 = .ok (.aload_n 1, 1) := by decide +kernel
theorem d_rm_apa_10 : decode jdk_68_method_22_code 10 = .ok (.invokevirtual 32, 3) := by decide +kernel
theorem d_rm_apa_13 : decode jdk_68_method_22_code 13 = .ok (.istore_n 2, 1) := by decide +kernel
theorem d_rm_apa_14 : decode jdk_68_method_22_code 14 = .ok (.aload_n 0, 1) := by decide +kernel
theorem d_rm_apa_15 : decode jdk_68_method_22_code 15 = .ok (.aload_n 0, 1) := by decide +kernel
theorem d_rm_apa_16 : decode jdk_68_method_22_code 16 = .ok (.getfield 79, 3) := by decide +kernel
theorem d_rm_apa_19 : decode jdk_68_method_22_code 19 = .ok (.iload_n 2, 1) := by decide +kernel
theorem d_rm_apa_20 : decode jdk_68_method_22_code 20 = .ok (.iadd, 1) := by decide +kernel
theorem d_rm_apa_21 : decode jdk_68_method_22_code 21 = .ok (.invokevirtual 100, 3) := by decide +kernel
theorem d_rm_apa_24 : decode jdk_68_method_22_code 24 = .ok (.aload_n 0, 1) := by decide +kernel
theorem d_rm_apa_25 : decode jdk_68_method_22_code 25 = .ok (.aload_n 0, 1) := by decide +kernel
theorem d_rm_apa_26 : decode jdk_68_method_22_code 26 = .ok (.getfield 79, 3) := by decide +kernel
theorem d_rm_apa_29 : decode jdk_68_method_22_code 29 = .ok (.aload_n 1, 1) := by decide +kernel
theorem d_rm_apa_30 : decode jdk_68_method_22_code 30 = .ok (.invokevirtual 208, 3) := by decide +kernel
theorem d_rm_apa_33 : decode jdk_68_method_22_code 33 = .ok (.aload_n 0, 1) := by decide +kernel
theorem d_rm_apa_34 : decode jdk_68_method_22_code 34 = .ok (.dup, 1) := by decide +kernel
theorem d_rm_apa_35 : decode jdk_68_method_22_code 35 = .ok (.getfield 79, 3) := by decide +kernel
theorem d_rm_apa_38 : decode jdk_68_method_22_code 38 = .ok (.iload_n 2, 1) := by decide +kernel
theorem d_rm_apa_39 : decode jdk_68_method_22_code 39 = .ok (.iadd, 1) := by decide +kernel
theorem d_rm_apa_40 : decode jdk_68_method_22_code 40 = .ok (.putfield 79, 3) := by decide +kernel
theorem d_rm_apa_43 : decode jdk_68_method_22_code 43 = .ok (.aload_n 0, 1) := by decide +kernel
theorem d_rm_apa_44 : decode jdk_68_method_22_code 44 = .ok (.areturn, 1) := by decide +kernel
theorem ef_rm_apa (m : MethodId) (x0 : Addr) (x1 : Addr) : entryFrame m #[(.ref x0), (.ref x1)] 3 = mkF m 0 #[.val (.ref x0), .val (.ref x1), .unset] [] := by first | (simp [entryFrame, mkF, argsToLocals, Value.category]; done) | rfl
set_option maxRecDepth 65536 in
set_option maxHeartbeats 3000000 in
theorem rm_apa (l : Launch) (Z : State) (a0 : Array Value) (hw : ∀ d ∈ tables_1, d.before a0 Z = true) (ws : List Jvm.Cond) (x t : Addr) (kb : ClassId) (cs : List Int32) (sb vb : Addr) (kv : ClassId) (bs : List Int32) (G1 : Int32) (h0 : Heap) (n0 : Nat) (Z0 : n0 ≤ h0.size) (O2 : Sta Z Z.heap "java/lang/String" "COMPACT_STRINGS" "Z" (.int G1)) (P5 : ¬ (G1 = (0 : Int32))) (X00 : Old Z n0 h0) (E_x : Exa Z h0 x "java/lang/String") (F_c : Fld Z h0 x "java/lang/String" "coder" "B" (.int 0)) (F_v : Fld Z h0 x "java/lang/String" "value" "[B" (.ref t)) (V_t : Arv Z h0 t kb .byte (Int32.ofNat (cs).length) (((cs).map (fun c : Int32 => c.toInt8.toInt32)).map Value.int) (.int 0)) (E_sb : Exa Z h0 sb "java/lang/StringBuilder") (F_sv : Fld Z h0 sb "java/lang/AbstractStringBuilder" "value" "[B" (.ref vb)) (F_sc : Fld Z h0 sb "java/lang/AbstractStringBuilder" "coder" "B" (.int 0)) (F_sn : Fld Z h0 sb "java/lang/AbstractStringBuilder" "count" "I" (.int (Int32.ofNat (bs).length))) (V_sb : Arv Z h0 vb kv .byte 16 (((bs).map (fun c : Int32 => c.toInt8.toInt32)).map Value.int) (.int 0)) (gvb : n0 ≤ vb) (hne : t ≠ vb) (hl : (bs).length + (cs).length ≤ 16) (gsb : n0 ≤ sb) :
    MetFree l (⟨"java/lang/AbstractStringBuilder", "append", "(Ljava/lang/String;)Ljava/lang/AbstractStringBuilder;"⟩ : MethodName) (head1 (Jvm.Cond.code (⟨"java/lang/AbstractStringBuilder", "append", "(Ljava/lang/String;)Ljava/lang/AbstractStringBuilder;"⟩ : MethodName) jdk_68_method_22_code 3 (some (.object "java/lang/AbstractStringBuilder")) :: ws) ({ frames := 3, cells := 0, slots := 0, locals := 47 } : Room)) (fun αs U => αs = #[(.ref sb), (.ref x)] ∧ Z.Warmed39 U.vm ∧ U.heap = h0) (fun _ _ _ _ _ => True) (fun _ U o U' => ∃ v L, o = .returned v ∧ Q_app Z sb vb kv bs cs h0 n0 v U'.heap L ∧ FrameEnd U o U' L ({ frames := 3, cells := 0, slots := 0, locals := 47 } : Room).cells ({ frames := 3, cells := 0, slots := 0, locals := 47 } : Room).slots) := by
  refine MetFree.of_bodySF (plainFor_of_name pno_1) hisR ?_
  intro pP e s m args below meth cC s₁ Bd hml0 hP hK
  obtain ⟨rfl, hZ, hh⟩ := hP
  have hx := Bd.exec
  have hby := Bd.bytes
  have hml : cC.maxLocals = 3 := hml0
  have hown : s.vm.findClass "java/lang/AbstractStringBuilder" = some m.cls := findClass_of_methodNamed Bd.named
  have hnm := (name_of_methodNamed Bd.named Bd.method).1
  have X0 : Stand pP l e ({ frames := 3, cells := 0, slots := 0, locals := 47 } : Room) s m #[(.ref sb), (.ref x)] below meth cC s₁ [] 0 0 := Stand.of_body Bd
  have e0 : s₁.heap = h0 := by rw [← hh, Bd.state]; rfl
  have N0 := Fr.nil n0
  have KC0 : Keep h0 h0 [sb, vb] := Keep.refl h0 _
  obtain ⟨A0, hA0⟩ : ∃ z, z = s₁.setTop (entryFrame m #[(.ref sb), (.ref x)] 3) := ⟨_, rfl⟩
  have pre0 : ∀ τ, Steps pP.tables e below (s₁.setTop (mkF m 0 #[.val (.ref sb), .val (.ref x), .unset] [])) τ → Steps pP.tables e below A0 τ := fun τ κ => by rw [hA0]; exact castTop (ef_rm_apa m sb x) κ
  obtain ⟨cq102, kq102, q102a, q102b, q102c⟩ := isOf hZ e0 E_x
  obtain ⟨_, _, ⟨T101, L101, k101, n101⟩, -, X101, ⟨Lc101, hQ101, l101, y101, z101⟩, st101⟩ := X0.virtualBack hx (y := (⟨"java/lang/String", "length", "()I"⟩ : MethodName)) (z := (⟨"java/lang/String", "length", "()I"⟩ : MethodName)) hown (mvT hZ (hw _ (List.mem_of_getElem? (i := 81) rfl))) (mvT hZ (hw _ (List.mem_of_getElem? (i := 82) rfl))) (notFace_of_selects (args := #[]) (mvT hZ (hw _ (List.mem_of_getElem? (i := 84) rfl)))) (mvT hZ (hw _ (List.mem_of_getElem? (i := 84) rfl))) (mvT hZ (hw _ (List.mem_of_getElem? (i := 83) rfl))) (by decide) (backOf (W := 0) (rm_len l Z a0 hw [] x t kb cs G1 h0 n0 Z0 O2 P5 X00 E_x F_c F_v V_t) hZ (hw _ (List.mem_of_getElem? (i := 85) rfl)) (hw _ (List.mem_of_getElem? (i := 7) rfl)) (by decide) (by decide)) q102a q102c (g := (mkF m 10 #[.val (.ref sb), .val (.ref x), .unset] [(.ref x)])) rfl (by rw [hml]; rfl) (Steps.refl _) (argsL := []) (rest := []) (lenOf pdo_4 rfl) rfl (by show 2 * 0 + _ ≤ _; exact Nat.le_of_eq rfl) (hb hby d_rm_apa_10) (fun _ _ => ⟨rfl, e0, (by decide : 0 + 0 ≤ _), (by decide : 0 + 0 ≤ _)⟩)
  dsimp only [Pt.U, Pt.locs, Pt.cells, Pt.slots] at X101 l101 y101 z101 st101 hQ101
  subst l101 y101 z101
  obtain ⟨rfl, Nq101, eq101⟩ := hQ101
  have N101 := Fr.app N0 Nq101
  have pq103 : ∀ τ, Steps pP.tables e below (T101.setTop (mkF m 13 #[.val (.ref sb), .val (.ref x), .unset] [(.int (Int32.ofNat (cs).length))])) τ → Steps pP.tables e below A0 τ := by
    intro τ κ
    refine pre0 τ ?_
    refine XS.aloadN X0.here hx rfl (hb hby d_rm_apa_0) rfl rfl ?_
    refine XS.ifnonnullYes X0.here hx rfl (pc0 := 1) (pc' := 9) rfl (hb hby d_rm_apa_1) rfl (by decide) (by decide) ?_
    refine XS.aloadN X0.here hx rfl (hb hby d_rm_apa_9) rfl rfl ?_
    refine st101.trans ?_
    exact κ
  obtain ⟨T104, X104, e104, st104⟩ := getF X101 hx hZ hown (host := "") (Or.inl (hw _ (List.mem_of_getElem? (i := 92) rfl))) Via.refl eq101 F_sn (g := (mkF m 16 #[.val (.ref sb), .val (.ref x), .val (.int (Int32.ofNat (cs).length))] [(.ref sb), (.ref sb)])) rfl rfl (hb hby d_rm_apa_16)
  have pq105 : ∀ τ, Steps pP.tables e below (T104.setTop (mkF m 19 #[.val (.ref sb), .val (.ref x), .val (.int (Int32.ofNat (cs).length))] [(.int (Int32.ofNat (bs).length)), (.ref sb)])) τ → Steps pP.tables e below A0 τ := by
    intro τ κ
    refine pq103 τ ?_
    refine XS.istoreN X101.here hx rfl (hb hby d_rm_apa_13) rfl (l' := #[.val (.ref sb), .val (.ref x), .val (.int (Int32.ofNat (cs).length))]) rfl ?_
    refine XS.aloadN X101.here hx rfl (hb hby d_rm_apa_14) rfl rfl ?_
    refine XS.aloadN X101.here hx rfl (hb hby d_rm_apa_15) rfl rfl ?_
    refine st104 _ ?_
    exact κ
  obtain ⟨cq107, kq107, q107a, q107b, q107c⟩ := isOf hZ e104 E_sb
  obtain ⟨_, _, ⟨T106, L106, k106, n106⟩, -, X106, ⟨Lc106, hQ106, l106, y106, z106⟩, st106⟩ := X104.virtualBack hx (y := (⟨"java/lang/AbstractStringBuilder", "ensureCapacityInternal", "(I)V"⟩ : MethodName)) (z := (⟨"java/lang/AbstractStringBuilder", "ensureCapacityInternal", "(I)V"⟩ : MethodName)) hown (mvT hZ (hw _ (List.mem_of_getElem? (i := 94) rfl))) (mvT hZ (own_declares (hw _ (List.mem_of_getElem? (i := 95) rfl)) (hw _ (List.mem_of_getElem? (i := 98) rfl)))) (notFace_of_selects (args := #[]) (mvT hZ (hw _ (List.mem_of_getElem? (i := 97) rfl)))) (mvT hZ (hw _ (List.mem_of_getElem? (i := 97) rfl))) (mvT hZ (hw _ (List.mem_of_getElem? (i := 95) rfl))) (by decide) (backOf (W := 0) (rm_ens l Z a0 hw [] sb vb kv bs ((Int32.ofNat (bs).length) + (Int32.ofNat (cs).length)) h0 n0 Z0 E_sb F_sv F_sc F_sn V_sb (own_cap _ _ hl)) hZ (hw _ (List.mem_of_getElem? (i := 98) rfl)) (hw _ (List.mem_of_getElem? (i := 63) rfl)) (by decide) (by decide)) q107a q107c (g := (mkF m 21 #[.val (.ref sb), .val (.ref x), .val (.int (Int32.ofNat (cs).length))] [(.int ((Int32.ofNat (bs).length) + (Int32.ofNat (cs).length))), (.ref sb)])) rfl (by rw [hml]; rfl) (Steps.refl _) (argsL := [(.int ((Int32.ofNat (bs).length) + (Int32.ofNat (cs).length)))]) (rest := []) (lenOf pdo_5 rfl) rfl (by show 2 * 0 + _ ≤ _; exact Nat.le_of_eq rfl) (hb hby d_rm_apa_21) (fun _ _ => ⟨rfl, e104, (by decide : 0 + 0 ≤ _), (by decide : 0 + 0 ≤ _)⟩)
  dsimp only [Pt.U, Pt.locs, Pt.cells, Pt.slots] at X106 l106 y106 z106 st106 hQ106
  subst l106 y106 z106
  obtain ⟨rfl, Nq106, eq106⟩ := hQ106
  have N106 := Fr.app N101 Nq106
  have pq108 : ∀ τ, Steps pP.tables e below (T106.setTop (mkF m 24 #[.val (.ref sb), .val (.ref x), .val (.int (Int32.ofNat (cs).length))] [])) τ → Steps pP.tables e below A0 τ := by
    intro τ κ
    refine pq105 τ ?_
    refine XS.iloadN X104.here hx rfl (hb hby d_rm_apa_19) rfl ?_
    refine XS.iadd X104.here hx rfl (hb hby d_rm_apa_20) rfl ?_
    refine st106.trans ?_
    exact κ
  obtain ⟨T109, X109, e109, st109⟩ := getF X106 hx hZ hown (host := "") (Or.inl (hw _ (List.mem_of_getElem? (i := 92) rfl))) Via.refl eq106 F_sn (g := (mkF m 26 #[.val (.ref sb), .val (.ref x), .val (.int (Int32.ofNat (cs).length))] [(.ref sb), (.ref sb)])) rfl rfl (hb hby d_rm_apa_26)
  have pq110 : ∀ τ, Steps pP.tables e below (T109.setTop (mkF m 29 #[.val (.ref sb), .val (.ref x), .val (.int (Int32.ofNat (cs).length))] [(.int (Int32.ofNat (bs).length)), (.ref sb)])) τ → Steps pP.tables e below A0 τ := by
    intro τ κ
    refine pq108 τ ?_
    refine XS.aloadN X106.here hx rfl (hb hby d_rm_apa_24) rfl rfl ?_
    refine XS.aloadN X106.here hx rfl (hb hby d_rm_apa_25) rfl rfl ?_
    refine st109 _ ?_
    exact κ
  obtain ⟨cq112, kq112, q112a, q112b, q112c⟩ := isOf hZ e109 E_sb
  obtain ⟨_, _, ⟨T111, L111, k111, n111⟩, -, X111, ⟨Lc111, hQ111, l111, y111, z111⟩, st111⟩ := X109.virtualBack hx (y := (⟨"java/lang/AbstractStringBuilder", "putStringAt", "(ILjava/lang/String;)V"⟩ : MethodName)) (z := (⟨"java/lang/AbstractStringBuilder", "putStringAt", "(ILjava/lang/String;)V"⟩ : MethodName)) hown (mvT hZ (hw _ (List.mem_of_getElem? (i := 99) rfl))) (mvT hZ (own_declares (hw _ (List.mem_of_getElem? (i := 100) rfl)) (hw _ (List.mem_of_getElem? (i := 103) rfl)))) (notFace_of_selects (args := #[]) (mvT hZ (hw _ (List.mem_of_getElem? (i := 102) rfl)))) (mvT hZ (hw _ (List.mem_of_getElem? (i := 102) rfl))) (mvT hZ (hw _ (List.mem_of_getElem? (i := 100) rfl))) (by decide) (backOf (W := 0) (rm_put l Z a0 hw [] x t kb cs sb vb kv bs G1 h0 n0 Z0 O2 P5 X00 E_x F_c F_v V_t E_sb F_sv F_sc F_sn V_sb gvb hne hl) hZ (hw _ (List.mem_of_getElem? (i := 103) rfl)) (hw _ (List.mem_of_getElem? (i := 63) rfl)) (by decide) (by decide)) q112a q112c (g := (mkF m 30 #[.val (.ref sb), .val (.ref x), .val (.int (Int32.ofNat (cs).length))] [(.ref x), (.int (Int32.ofNat (bs).length)), (.ref sb)])) rfl (by rw [hml]; rfl) (Steps.refl _) (argsL := [(.int (Int32.ofNat (bs).length)), (.ref x)]) (rest := []) (lenOf pdo_6 rfl) rfl (by show 2 * 0 + _ ≤ _; exact Nat.le_of_eq rfl) (hb hby d_rm_apa_30) (fun _ _ => ⟨rfl, e109, (by decide : 0 + 0 ≤ _), (by decide : 0 + 0 ≤ _)⟩)
  dsimp only [Pt.U, Pt.locs, Pt.cells, Pt.slots] at X111 l111 y111 z111 st111 hQ111
  subst l111 y111 z111
  obtain ⟨rfl, Nq111, K111, V111⟩ := hQ111
  have N111 := Fr.app N106 Nq111
  have pq113 : ∀ τ, Steps pP.tables e below (T111.setTop (mkF m 33 #[.val (.ref sb), .val (.ref x), .val (.int (Int32.ofNat (cs).length))] [])) τ → Steps pP.tables e below A0 τ := by
    intro τ κ
    refine pq110 τ ?_
    refine XS.aloadN X109.here hx rfl (hb hby d_rm_apa_29) rfl rfl ?_
    refine st111.trans ?_
    exact κ
  have KC111 : Keep h0 T111.heap [sb, vb] := KC0.trans K111 (allS (Or.inl (List.mem_of_getElem? (i := 1) rfl)) all0)
  have f114 := (F_sn.keep K111 (ninS (own_ne_arv E_sb (hw _ (List.mem_of_getElem? (i := 54) rfl)) V_sb) nin0))
  obtain ⟨T115, X115, e115, st115⟩ := getF X111 hx hZ hown (host := "") (Or.inl (hw _ (List.mem_of_getElem? (i := 92) rfl))) Via.refl rfl f114 (g := (mkF m 35 #[.val (.ref sb), .val (.ref x), .val (.int (Int32.ofNat (cs).length))] [(.ref sb), (.ref sb)])) rfl rfl (hb hby d_rm_apa_35)
  have pq116 : ∀ τ, Steps pP.tables e below (T115.setTop (mkF m 38 #[.val (.ref sb), .val (.ref x), .val (.int (Int32.ofNat (cs).length))] [(.int (Int32.ofNat (bs).length)), (.ref sb)])) τ → Steps pP.tables e below A0 τ := by
    intro τ κ
    refine pq113 τ ?_
    refine XS.aloadN X111.here hx rfl (hb hby d_rm_apa_33) rfl rfl ?_
    refine XS.dup X111.here hx rfl (hb hby d_rm_apa_34) rfl rfl ?_
    refine st115 _ ?_
    exact κ
  have f117 := (E_sb.keep K111)
  obtain ⟨T118, h118, X118, e118, W118, st118⟩ := putF X115 hx hZ hown (host := "") (Or.inl (hw _ (List.mem_of_getElem? (i := 92) rfl))) Via.refl e115 f114 f117 (Or.inl (hw _ (List.mem_of_getElem? (i := 93) rfl))) (hw _ (List.mem_of_getElem? (i := 54) rfl)) (ty := .int) (by decide) rfl rfl (g := (mkF m 40 #[.val (.ref sb), .val (.ref x), .val (.int (Int32.ofNat (cs).length))] [(.int ((Int32.ofNat (bs).length) + (Int32.ofNat (cs).length))), (.ref sb)])) rfl rfl (hb hby d_rm_apa_40)
  have pq119 : ∀ τ, Steps pP.tables e below (T118.setTop (mkF m 43 #[.val (.ref sb), .val (.ref x), .val (.int (Int32.ofNat (cs).length))] [])) τ → Steps pP.tables e below A0 τ := by
    intro τ κ
    refine pq116 τ ?_
    refine XS.iloadN X115.here hx rfl (hb hby d_rm_apa_38) rfl ?_
    refine XS.iadd X115.here hx rfl (hb hby d_rm_apa_39) rfl ?_
    refine st118 _ ?_
    exact κ
  have KC118 : Keep h0 h118 [sb, vb] := KC111.wr W118 (Or.inl (List.mem_of_getElem? (i := 0) rfl))
  have Fw118 := f114.same W118
  have N118 := Fr.snoc X118 N111 gsb
  have Fq120 := Fw118
  rw [own_len bs cs] at Fq120
  have f121 := (f117.wr W118)
  have f122 := ((F_sv.keep K111 (ninS (own_ne_arv E_sb (hw _ (List.mem_of_getElem? (i := 54) rfl)) V_sb) nin0)).other W118 (Or.inr (slot_ne (Or.inl (hw _ (List.mem_of_getElem? (i := 68) rfl))) (Or.inl (hw _ (List.mem_of_getElem? (i := 93) rfl))) (by decide) (t := (.array .byte)) (t' := .int) (by decide) (by decide))))
  have f123 := ((F_sc.keep K111 (ninS (own_ne_arv E_sb (hw _ (List.mem_of_getElem? (i := 54) rfl)) V_sb) nin0)).other W118 (Or.inr (slot_ne (Or.inl (hw _ (List.mem_of_getElem? (i := 70) rfl))) (Or.inl (hw _ (List.mem_of_getElem? (i := 93) rfl))) (by decide) (t := .byte) (t' := .int) (by decide) (by decide))))
  have f124 := (V111.other W118 (Ne.symm (own_ne_arv E_sb (hw _ (List.mem_of_getElem? (i := 54) rfl)) V_sb)))
  obtain ⟨fs, hrE, hrun, hended, hW, hsame⟩ := X118.leave (v := some (.ref sb)) (fun h => by rw [Bd.returns] at h; cases h)
  have pqE := pq119
  rw [hA0] at pqE
  refine ⟨_, _, pqE _ ?_, hrun, hended, _, _, rfl, ?_, ⟨_, rfl⟩, hW, hsame.mono (by decide) (by decide)⟩
  · refine XS.aloadN X118.here hx rfl (hb hby d_rm_apa_43) rfl rfl ?_
    show Steps pP.tables e below (T118.setTop (mkF m 44 #[.val (.ref sb), .val (.ref x), .val (.int (Int32.ofNat (cs).length))] [(.ref sb)])) _
    exact retOut X118 hx Bd.returns rfl (Or.inr (Or.inr (Or.inr (Or.inr ⟨rfl, rfl, rfl⟩)))) (hb hby d_rm_apa_44) hrE
  · show Q_app Z sb vb kv bs cs h0 n0 _ T118.heap _
    rw [e118]
    exact ⟨rfl, N118, KC118, f121, f122, f123, Fq120, f124⟩
theorem d_rm_app_0 : decode jdk_67_method_7_code 0 = .ok (.aload_n 0, 1) := by decide +kernel
theorem d_rm_app_1 : decode jdk_67_method_7_code 1 = .ok (.aload_n 1, 1) := by decide +kernel
theorem d_rm_app_2 : decode jdk_67_method_7_code 2 = .ok (.invokespecial 29, 3) := by decide +kernel
theorem d_rm_app_5 : decode jdk_67_method_7_code 5 = .ok (.pop, 1) := by decide +kernel
theorem d_rm_app_6 : decode jdk_67_method_7_code 6 = .ok (.aload_n 0, 1) := by decide +kernel
theorem d_rm_app_7 : decode jdk_67_method_7_code 7 = .ok (.areturn, 1) := by decide +kernel
theorem ef_rm_app (m : MethodId) (x0 : Addr) (x1 : Addr) : entryFrame m #[(.ref x0), (.ref x1)] 2 = mkF m 0 #[.val (.ref x0), .val (.ref x1)] [] := by first | (simp [entryFrame, mkF, argsToLocals, Value.category]; done) | rfl
set_option maxRecDepth 65536 in
set_option maxHeartbeats 3000000 in
theorem rm_app (l : Launch) (Z : State) (a0 : Array Value) (hw : ∀ d ∈ tables_1, d.before a0 Z = true) (ws : List Jvm.Cond) (x t : Addr) (kb : ClassId) (cs : List Int32) (sb vb : Addr) (kv : ClassId) (bs : List Int32) (G1 : Int32) (h0 : Heap) (n0 : Nat) (Z0 : n0 ≤ h0.size) (O2 : Sta Z Z.heap "java/lang/String" "COMPACT_STRINGS" "Z" (.int G1)) (P5 : ¬ (G1 = (0 : Int32))) (X00 : Old Z n0 h0) (E_x : Exa Z h0 x "java/lang/String") (F_c : Fld Z h0 x "java/lang/String" "coder" "B" (.int 0)) (F_v : Fld Z h0 x "java/lang/String" "value" "[B" (.ref t)) (V_t : Arv Z h0 t kb .byte (Int32.ofNat (cs).length) (((cs).map (fun c : Int32 => c.toInt8.toInt32)).map Value.int) (.int 0)) (E_sb : Exa Z h0 sb "java/lang/StringBuilder") (F_sv : Fld Z h0 sb "java/lang/AbstractStringBuilder" "value" "[B" (.ref vb)) (F_sc : Fld Z h0 sb "java/lang/AbstractStringBuilder" "coder" "B" (.int 0)) (F_sn : Fld Z h0 sb "java/lang/AbstractStringBuilder" "count" "I" (.int (Int32.ofNat (bs).length))) (V_sb : Arv Z h0 vb kv .byte 16 (((bs).map (fun c : Int32 => c.toInt8.toInt32)).map Value.int) (.int 0)) (gvb : n0 ≤ vb) (hne : t ≠ vb) (hl : (bs).length + (cs).length ≤ 16) (gsb : n0 ≤ sb) :
    MetFree l (⟨"java/lang/StringBuilder", "append", "(Ljava/lang/String;)Ljava/lang/StringBuilder;"⟩ : MethodName) (head1 (Jvm.Cond.code (⟨"java/lang/StringBuilder", "append", "(Ljava/lang/String;)Ljava/lang/StringBuilder;"⟩ : MethodName) jdk_67_method_7_code 2 (some (.object "java/lang/StringBuilder")) :: ws) ({ frames := 4, cells := 0, slots := 0, locals := 61 } : Room)) (fun αs U => αs = #[(.ref sb), (.ref x)] ∧ Z.Warmed39 U.vm ∧ U.heap = h0) (fun _ _ _ _ _ => True) (fun _ U o U' => ∃ v L, o = .returned v ∧ Q_app Z sb vb kv bs cs h0 n0 v U'.heap L ∧ FrameEnd U o U' L ({ frames := 4, cells := 0, slots := 0, locals := 61 } : Room).cells ({ frames := 4, cells := 0, slots := 0, locals := 61 } : Room).slots) := by
  refine MetFree.of_bodySF (plainFor_of_name pno_2) hisR ?_
  intro pP e s m args below meth cC s₁ Bd hml0 hP hK
  obtain ⟨rfl, hZ, hh⟩ := hP
  have hx := Bd.exec
  have hby := Bd.bytes
  have hml : cC.maxLocals = 2 := hml0
  have hown : s.vm.findClass "java/lang/StringBuilder" = some m.cls := findClass_of_methodNamed Bd.named
  have hnm := (name_of_methodNamed Bd.named Bd.method).1
  have X0 : Stand pP l e ({ frames := 4, cells := 0, slots := 0, locals := 61 } : Room) s m #[(.ref sb), (.ref x)] below meth cC s₁ [] 0 0 := Stand.of_body Bd
  have e0 : s₁.heap = h0 := by rw [← hh, Bd.state]; rfl
  have N0 := Fr.nil n0
  have KC0 : Keep h0 h0 [sb, vb] := Keep.refl h0 _
  obtain ⟨A0, hA0⟩ : ∃ z, z = s₁.setTop (entryFrame m #[(.ref sb), (.ref x)] 2) := ⟨_, rfl⟩
  have pre0 : ∀ τ, Steps pP.tables e below (s₁.setTop (mkF m 0 #[.val (.ref sb), .val (.ref x)] [])) τ → Steps pP.tables e below A0 τ := fun τ κ => by rw [hA0]; exact castTop (ef_rm_app m sb x) κ
  obtain ⟨_, _, ⟨T101, L101, k101, n101⟩, -, X101, ⟨Lc101, hQ101, l101, y101, z101⟩, st101⟩ := superBack X0 hx (y := (⟨"java/lang/AbstractStringBuilder", "append", "(Ljava/lang/String;)Ljava/lang/AbstractStringBuilder;"⟩ : MethodName)) hZ hown (hw _ (List.mem_of_getElem? (i := 76) rfl)) (own_sameM (n := "ensureCapacityInternal") (d := "(I)V") (hw _ (List.mem_of_getElem? (i := 77) rfl)) (by decide) (hw _ (List.mem_of_getElem? (i := 97) rfl))) (hw _ (List.mem_of_getElem? (i := 77) rfl)) (hw _ (List.mem_of_getElem? (i := 78) rfl)) (by decide) (backOf (W := 0) (rm_apa l Z a0 hw [] x t kb cs sb vb kv bs G1 h0 n0 Z0 O2 P5 X00 E_x F_c F_v V_t E_sb F_sv F_sc F_sn V_sb gvb hne hl gsb) hZ (hw _ (List.mem_of_getElem? (i := 80) rfl)) (hw _ (List.mem_of_getElem? (i := 63) rfl)) (by decide) (by decide)) e0 (Ins.self E_sb) (g := (mkF m 2 #[.val (.ref sb), .val (.ref x)] [(.ref x), (.ref sb)])) rfl (by rw [hml]; rfl) (hw _ (List.mem_of_getElem? (i := 80) rfl)) (argsL := [(.ref x)]) (rest := []) (lenOf pdo_7 rfl) rfl (by show 2 * 0 + _ ≤ _; exact Nat.le_of_eq rfl) (hb hby d_rm_app_2) (fun _ _ => ⟨rfl, e0, (by decide : 0 + 0 ≤ _), (by decide : 0 + 0 ≤ _)⟩)
  dsimp only [Pt.U, Pt.locs, Pt.cells, Pt.slots] at X101 l101 y101 z101 st101 hQ101
  subst l101 y101 z101
  obtain ⟨rfl, Nq101, K101, Ex101, Fv101, Fc101, Fn101, V101⟩ := hQ101
  have N101 := Fr.app N0 Nq101
  have pq102 : ∀ τ, Steps pP.tables e below (T101.setTop (mkF m 5 #[.val (.ref sb), .val (.ref x)] [(.ref sb)])) τ → Steps pP.tables e below A0 τ := by
    intro τ κ
    refine pre0 τ ?_
    refine XS.aloadN X0.here hx rfl (hb hby d_rm_app_0) rfl rfl ?_
    refine XS.aloadN X0.here hx rfl (hb hby d_rm_app_1) rfl rfl ?_
    refine st101.trans ?_
    exact κ
  have KC101 : Keep h0 T101.heap [sb, vb] := KC0.trans K101 (allS (Or.inl (List.mem_of_getElem? (i := 0) rfl)) (allS (Or.inl (List.mem_of_getElem? (i := 1) rfl)) all0))
  obtain ⟨fs, hrE, hrun, hended, hW, hsame⟩ := X101.leave (v := some (.ref sb)) (fun h => by rw [Bd.returns] at h; cases h)
  have pqE := pq102
  rw [hA0] at pqE
  refine ⟨_, _, pqE _ ?_, hrun, hended, _, _, rfl, ?_, ⟨_, rfl⟩, hW, hsame.mono (by decide) (by decide)⟩
  · refine XS.pop X101.here hx rfl (hb hby d_rm_app_5) rfl rfl ?_
    refine XS.aloadN X101.here hx rfl (hb hby d_rm_app_6) rfl rfl ?_
    show Steps pP.tables e below (T101.setTop (mkF m 7 #[.val (.ref sb), .val (.ref x)] [(.ref sb)])) _
    exact retOut X101 hx Bd.returns rfl (Or.inr (Or.inr (Or.inr (Or.inr ⟨rfl, rfl, rfl⟩)))) (hb hby d_rm_app_7) hrE
  · show Q_app Z sb vb kv bs cs h0 n0 _ T101.heap _
    exact ⟨rfl, N101, KC101, Ex101, Fv101, Fc101, Fn101, V101⟩
def Q_sbi (Z : State) (a : Addr) (h0 : Heap) (n0 : Nat) (v : Option Value) (h : Heap) (L : List Loc) : Prop := ∃ (vb : Addr) (kv : ClassId), v = none ∧ Fr n0 L ∧ Keep h0 h [a] ∧ h0.size ≤ vb ∧ Exa Z h a "java/lang/StringBuilder" ∧ Fld Z h a "java/lang/AbstractStringBuilder" "value" "[B" (.ref vb) ∧ Fld Z h a "java/lang/AbstractStringBuilder" "coder" "B" (.int 0) ∧ Fld Z h a "java/lang/AbstractStringBuilder" "count" "I" (.int 0) ∧ Arv Z h vb kv .byte 16 [] (.int 0)
theorem d_rm_abi_0 : decode jdk_68_method_2_code 0 = .ok (.aload_n 0, 1) := by decide +kernel
theorem d_rm_abi_1 : decode jdk_68_method_2_code 1 = .ok (.invokespecial 3, 3) := by decide +kernel
theorem d_rm_abi_4 : decode jdk_68_method_2_code 4 = .ok (.getstatic 18, 3) := by decide +kernel
theorem d_rm_abi_7 : decode jdk_68_method_2_code 7 = .ok (.ifCond .eq 18, 3) := by decide +kernel
theorem d_rm_abi_10 : decode jdk_68_method_2_code 10 = .ok (.aload_n 0, 1) := by decide +kernel
theorem d_rm_abi_11 : decode jdk_68_method_2_code 11 = .ok (.iload_n 1, 1) := by decide +kernel
theorem d_rm_abi_12 : decode jdk_68_method_2_code 12 = .ok (.newarray .byte, 2) := by decide +kernel
theorem d_rm_abi_14 : decode jdk_68_method_2_code 14 = .ok (.putfield 15, 3) := by decide +kernel
theorem d_rm_abi_17 : decode jdk_68_method_2_code 17 = .ok (.aload_n 0, 1) := by decide +kernel
theorem d_rm_abi_18 : decode jdk_68_method_2_code 18 = .ok (.iconst 0, 1) := by decide +kernel
theorem d_rm_abi_19 : decode jdk_68_method_2_code 19 = .ok (.putfield 22, 3) := by decide +kernel
theorem d_rm_abi_22 : decode jdk_68_method_2_code 22 = .ok (.goto 16, 3) := by decide +kernel
theorem d_rm_abi_38 : decode jdk_68_method_2_code 38 = .ok (.return_, 1) := by decide +kernel
theorem ef_rm_abi (m : MethodId) (x0 : Addr) (x1 : Int32) : entryFrame m #[(.ref x0), (.int x1)] 2 = mkF m 0 #[.val (.ref x0), .val (.int x1)] [] := by first | (simp [entryFrame, mkF, argsToLocals, Value.category]; done) | rfl
set_option maxRecDepth 65536 in
set_option maxHeartbeats 3000000 in
theorem rm_abi (l : Launch) (Z : State) (a0 : Array Value) (hw : ∀ d ∈ tables_1, d.before a0 Z = true) (ws : List Jvm.Cond) (a : Addr) (G1 : Int32) (h0 : Heap) (n0 : Nat) (Z0 : n0 ≤ h0.size) (O2 : Sta Z Z.heap "java/lang/String" "COMPACT_STRINGS" "Z" (.int G1)) (P5 : ¬ (G1 = (0 : Int32))) (X00 : Old Z n0 h0) (E_a : Exa Z h0 a "java/lang/StringBuilder") (ga : n0 ≤ a) (F_v : Fld Z h0 a "java/lang/AbstractStringBuilder" "value" "[B" .null) (F_c : Fld Z h0 a "java/lang/AbstractStringBuilder" "coder" "B" (.int (0 : Int32))) (F_n : Fld Z h0 a "java/lang/AbstractStringBuilder" "count" "I" (.int (0 : Int32))) :
    MetFree l (⟨"java/lang/AbstractStringBuilder", "<init>", "(I)V"⟩ : MethodName) (head1 (Jvm.Cond.code (⟨"java/lang/AbstractStringBuilder", "<init>", "(I)V"⟩ : MethodName) jdk_68_method_2_code 2 none :: ws) ({ frames := 1, cells := 1, slots := 16, locals := 12 } : Room)) (fun αs U => αs = #[(.ref a), (.int (16 : Int32))] ∧ Z.Warmed39 U.vm ∧ U.heap = h0) (fun _ _ _ _ _ => True) (fun _ U o U' => ∃ v L, o = .returned v ∧ Q_sbi Z a h0 n0 v U'.heap L ∧ FrameEnd U o U' L ({ frames := 1, cells := 1, slots := 16, locals := 12 } : Room).cells ({ frames := 1, cells := 1, slots := 16, locals := 12 } : Room).slots) := by
  refine MetFree.of_bodySF (plainFor_of_name pno_1) hisR ?_
  intro pP e s m args below meth cC s₁ Bd hml0 hP hK
  obtain ⟨rfl, hZ, hh⟩ := hP
  have hx := Bd.exec
  have hby := Bd.bytes
  have hml : cC.maxLocals = 2 := hml0
  have hown : s.vm.findClass "java/lang/AbstractStringBuilder" = some m.cls := findClass_of_methodNamed Bd.named
  have hnm := (name_of_methodNamed Bd.named Bd.method).1
  have X0 : Stand pP l e ({ frames := 1, cells := 1, slots := 16, locals := 12 } : Room) s m #[(.ref a), (.int (16 : Int32))] below meth cC s₁ [] 0 0 := Stand.of_body Bd
  have e0 : s₁.heap = h0 := by rw [← hh, Bd.state]; rfl
  have N0 := Fr.nil n0
  have KC0 : Keep h0 h0 [a] := Keep.refl h0 _
  obtain ⟨A0, hA0⟩ : ∃ z, z = s₁.setTop (entryFrame m #[(.ref a), (.int (16 : Int32))] 2) := ⟨_, rfl⟩
  have pre0 : ∀ τ, Steps pP.tables e below (s₁.setTop (mkF m 0 #[.val (.ref a), .val (.int (16 : Int32))] [])) τ → Steps pP.tables e below A0 τ := fun τ κ => by rw [hA0]; exact castTop (ef_rm_abi m a (16 : Int32)) κ
  obtain ⟨T101, X101, e101, st101⟩ := initO X0 hx hZ hown (hw _ (List.mem_of_getElem? (i := 65) rfl)) (hw _ (List.mem_of_getElem? (i := 17) rfl)) (hw _ (List.mem_of_getElem? (i := 18) rfl)) e0 (g := (mkF m 1 #[.val (.ref a), .val (.int (16 : Int32))] [(.ref a)])) rfl (by rw [hml]; rfl) rfl (hb hby d_rm_abi_1) (by decide) (W := 0) (by show 2 * 0 + _ ≤ _; exact Nat.le_of_eq rfl) (by decide)
  have pq102 : ∀ τ, Steps pP.tables e below (T101.setTop (mkF m 4 #[.val (.ref a), .val (.int (16 : Int32))] [])) τ → Steps pP.tables e below A0 τ := by
    intro τ κ
    refine pre0 τ ?_
    refine XS.aloadN X0.here hx rfl (hb hby d_rm_abi_0) rfl rfl ?_
    refine st101 _ ?_
    exact κ
  obtain ⟨T103, X103, e103, st103⟩ := getS2 X101 hx hZ hown (host := "") (Or.inl (hw _ (List.mem_of_getElem? (i := 66) rfl))) Via.refl e101 (O2.ext X00.2) (g := (mkF m 4 #[.val (.ref a), .val (.int (16 : Int32))] [])) rfl (hb hby d_rm_abi_4)
  have pq104 : ∀ τ, Steps pP.tables e below (T103.setTop (mkF m 7 #[.val (.ref a), .val (.int (16 : Int32))] [(.int G1)])) τ → Steps pP.tables e below A0 τ := by
    intro τ κ
    refine pq102 τ ?_
    refine st103 _ ?_
    exact κ
  obtain ⟨T105, h105, k105, X105, e105, E105, A105, st105⟩ := newP X103 hx hZ (hw _ (List.mem_of_getElem? (i := 20) rfl)) e103 (g := (mkF m 12 #[.val (.ref a), .val (.int (16 : Int32))] [(.int (16 : Int32)), (.ref a)])) rfl (hb hby d_rm_abi_12) rfl (by decide) (cap := 16) (by decide) (by decide) (by decide) (by decide)
  obtain ⟨b105, g105⟩ : ∃ z, z = h0.size := ⟨_, rfl⟩
  rw [← g105] at A105 st105
  have pq106 : ∀ τ, Steps pP.tables e below (T105.setTop (mkF m 14 #[.val (.ref a), .val (.int (16 : Int32))] [(.ref b105), (.ref a)])) τ → Steps pP.tables e below A0 τ := by
    intro τ κ
    refine pq104 τ ?_
    refine XS.ifNo X103.here hx rfl (hb hby d_rm_abi_7) rfl ((if0 _ _).trans (feq P5).1) ?_
    refine XS.aloadN X103.here hx rfl (hb hby d_rm_abi_10) rfl rfl ?_
    refine XS.iloadN X103.here hx rfl (hb hby d_rm_abi_11) rfl ?_
    refine st105 _ ?_
    exact κ
  have KC105 : Keep h0 h105 [a] := KC0.ext E105
  have V105 : Arv Z h105 b105 k105 .byte (16 : Int32) [] (.int (0 : Int32)) := Arv.new A105 (by decide)
  have f107 := (E_a.ext E105)
  have f108 := (F_v.ext E105)
  obtain ⟨T109, h109, X109, e109, W109, st109⟩ := putF X105 hx hZ hown (host := "") (Or.inl (hw _ (List.mem_of_getElem? (i := 67) rfl))) Via.refl e105 f108 f107 (Or.inl (hw _ (List.mem_of_getElem? (i := 68) rfl))) (hw _ (List.mem_of_getElem? (i := 54) rfl)) (ty := (.array .byte)) (by decide) rfl rfl (g := (mkF m 14 #[.val (.ref a), .val (.int (16 : Int32))] [(.ref b105), (.ref a)])) rfl rfl (hb hby d_rm_abi_14)
  have pq110 : ∀ τ, Steps pP.tables e below (T109.setTop (mkF m 17 #[.val (.ref a), .val (.int (16 : Int32))] [])) τ → Steps pP.tables e below A0 τ := by
    intro τ κ
    refine pq106 τ ?_
    refine st109 _ ?_
    exact κ
  have KC109 : Keep h0 h109 [a] := KC105.wr W109 (Or.inl (List.mem_of_getElem? (i := 0) rfl))
  have Fw109 := f108.same W109
  have N109 := Fr.snoc X109 N0 ga
  have f111 := (f107.wr W109)
  have f112 := ((F_c.ext E105).other W109 (Or.inr (slot_ne (Or.inl (hw _ (List.mem_of_getElem? (i := 70) rfl))) (Or.inl (hw _ (List.mem_of_getElem? (i := 68) rfl))) (by decide) (t := .byte) (t' := (.array .byte)) (by decide) (by decide))))
  obtain ⟨T113, h113, X113, e113, W113, st113⟩ := putFN X109 hx hZ hown (hw _ (List.mem_of_getElem? (i := 69) rfl)) Via.refl e109 f112 f111 (Or.inl (hw _ (List.mem_of_getElem? (i := 70) rfl))) (hw _ (List.mem_of_getElem? (i := 54) rfl)) (ty := .byte) (v' := (.int (0 : Int32))) (by decide) rfl (by decide) (g := (mkF m 19 #[.val (.ref a), .val (.int (16 : Int32))] [(.int (0 : Int32)), (.ref a)])) rfl rfl (hb hby d_rm_abi_19)
  have pq114 : ∀ τ, Steps pP.tables e below (T113.setTop (mkF m 22 #[.val (.ref a), .val (.int (16 : Int32))] [])) τ → Steps pP.tables e below A0 τ := by
    intro τ κ
    refine pq110 τ ?_
    refine XS.aloadN X109.here hx rfl (hb hby d_rm_abi_17) rfl rfl ?_
    refine XS.iconst X109.here hx rfl (hb hby d_rm_abi_18) ?_
    refine st113 _ ?_
    exact κ
  have KC113 : Keep h0 h113 [a] := KC109.wr W113 (Or.inl (List.mem_of_getElem? (i := 0) rfl))
  have Fw113 := f112.same W113
  have N113 := Fr.snoc X113 N109 ga
  have f115 := (f111.wr W113)
  have f116 := (Fw109.other W113 (Or.inr (slot_ne (Or.inl (hw _ (List.mem_of_getElem? (i := 68) rfl))) (Or.inl (hw _ (List.mem_of_getElem? (i := 70) rfl))) (by decide) (t := (.array .byte)) (t' := .byte) (by decide) (by decide))))
  have f117 := (((F_n.ext E105).other W109 (Or.inr (slot_ne (Or.inl (hw _ (List.mem_of_getElem? (i := 93) rfl))) (Or.inl (hw _ (List.mem_of_getElem? (i := 68) rfl))) (by decide) (t := .int) (t' := (.array .byte)) (by decide) (by decide)))).other W113 (Or.inr (slot_ne (Or.inl (hw _ (List.mem_of_getElem? (i := 93) rfl))) (Or.inl (hw _ (List.mem_of_getElem? (i := 70) rfl))) (by decide) (t := .int) (t' := .byte) (by decide) (by decide))))
  have f118 := ((V105.other W109 (Ne.symm (Nat.ne_of_lt (Nat.lt_of_lt_of_le E_a.lt (Nat.le_of_eq g105.symm))))).other W113 (Ne.symm (Nat.ne_of_lt (Nat.lt_of_lt_of_le E_a.lt (Nat.le_of_eq g105.symm)))))
  obtain ⟨fs, hrE, hrun, hended, hW, hsame⟩ := X113.leave (v := none) (fun _ => rfl)
  have pqE := pq114
  rw [hA0] at pqE
  refine ⟨_, _, pqE _ ?_, hrun, hended, _, _, rfl, ?_, ⟨_, rfl⟩, hW, hsame.mono (by decide) (by decide)⟩
  · refine XS.goto X113.here hx rfl (pc0 := 22) (pc' := 38) rfl (hb hby d_rm_abi_22) (by decide) (by decide) ?_
    show Steps pP.tables e below (T113.setTop (mkF m 38 #[.val (.ref a), .val (.int (16 : Int32))] [])) _
    exact X113.returnOut hx Bd.returns (hb hby d_rm_abi_38) hrE
  · show Q_sbi Z a h0 n0 _ T113.heap _
    rw [e113]
    exact ⟨b105, _, rfl, N113, KC113, (Nat.le_trans (Nat.le_refl _) (Nat.le_of_eq g105.symm)), f115, f116, Fw113, f117, f118⟩
theorem d_rm_sbi_0 : decode jdk_67_method_1_code 0 = .ok (.aload_n 0, 1) := by decide +kernel
theorem d_rm_sbi_1 : decode jdk_67_method_1_code 1 = .ok (.bipush 16, 2) := by decide +kernel
theorem d_rm_sbi_3 : decode jdk_67_method_1_code 3 = .ok (.invokespecial 1, 3) := by decide +kernel
theorem d_rm_sbi_6 : decode jdk_67_method_1_code 6 = .ok (.return_, 1) := by decide +kernel
theorem ef_rm_sbi (m : MethodId) (x0 : Addr) : entryFrame m #[(.ref x0)] 1 = mkF m 0 #[.val (.ref x0)] [] := by first | (simp [entryFrame, mkF, argsToLocals, Value.category]; done) | rfl
set_option maxRecDepth 65536 in
set_option maxHeartbeats 3000000 in
theorem rm_sbi (l : Launch) (Z : State) (a0 : Array Value) (hw : ∀ d ∈ tables_1, d.before a0 Z = true) (ws : List Jvm.Cond) (a : Addr) (G1 : Int32) (h0 : Heap) (n0 : Nat) (Z0 : n0 ≤ h0.size) (O2 : Sta Z Z.heap "java/lang/String" "COMPACT_STRINGS" "Z" (.int G1)) (P5 : ¬ (G1 = (0 : Int32))) (X00 : Old Z n0 h0) (E_a : Exa Z h0 a "java/lang/StringBuilder") (ga : n0 ≤ a) (F_v : Fld Z h0 a "java/lang/AbstractStringBuilder" "value" "[B" .null) (F_c : Fld Z h0 a "java/lang/AbstractStringBuilder" "coder" "B" (.int (0 : Int32))) (F_n : Fld Z h0 a "java/lang/AbstractStringBuilder" "count" "I" (.int (0 : Int32))) :
    MetFree l (⟨"java/lang/StringBuilder", "<init>", "()V"⟩ : MethodName) (head1 (Jvm.Cond.code (⟨"java/lang/StringBuilder", "<init>", "()V"⟩ : MethodName) jdk_67_method_1_code 1 none :: ws) ({ frames := 2, cells := 1, slots := 16, locals := 25 } : Room)) (fun αs U => αs = #[(.ref a)] ∧ Z.Warmed39 U.vm ∧ U.heap = h0) (fun _ _ _ _ _ => True) (fun _ U o U' => ∃ v L, o = .returned v ∧ Q_sbi Z a h0 n0 v U'.heap L ∧ FrameEnd U o U' L ({ frames := 2, cells := 1, slots := 16, locals := 25 } : Room).cells ({ frames := 2, cells := 1, slots := 16, locals := 25 } : Room).slots) := by
  refine MetFree.of_bodySF (plainFor_of_name pno_2) hisR ?_
  intro pP e s m args below meth cC s₁ Bd hml0 hP hK
  obtain ⟨rfl, hZ, hh⟩ := hP
  have hx := Bd.exec
  have hby := Bd.bytes
  have hml : cC.maxLocals = 1 := hml0
  have hown : s.vm.findClass "java/lang/StringBuilder" = some m.cls := findClass_of_methodNamed Bd.named
  have hnm := (name_of_methodNamed Bd.named Bd.method).1
  have X0 : Stand pP l e ({ frames := 2, cells := 1, slots := 16, locals := 25 } : Room) s m #[(.ref a)] below meth cC s₁ [] 0 0 := Stand.of_body Bd
  have e0 : s₁.heap = h0 := by rw [← hh, Bd.state]; rfl
  have N0 := Fr.nil n0
  have KC0 : Keep h0 h0 [a] := Keep.refl h0 _
  obtain ⟨A0, hA0⟩ : ∃ z, z = s₁.setTop (entryFrame m #[(.ref a)] 1) := ⟨_, rfl⟩
  have pre0 : ∀ τ, Steps pP.tables e below (s₁.setTop (mkF m 0 #[.val (.ref a)] [])) τ → Steps pP.tables e below A0 τ := fun τ κ => by rw [hA0]; exact castTop (ef_rm_sbi m a) κ
  obtain ⟨_, _, ⟨T101, L101, k101, n101⟩, -, X101, ⟨Lc101, hQ101, l101, y101, z101⟩, st101⟩ := X0.specialBack hx (y := (⟨"java/lang/AbstractStringBuilder", "<init>", "(I)V"⟩ : MethodName)) rfl hown (mvT hZ (hw _ (List.mem_of_getElem? (i := 59) rfl))) (mvT hZ (hw _ (List.mem_of_getElem? (i := 60) rfl))) (mvT hZ (hw _ (List.mem_of_getElem? (i := 64) rfl))) (by decide) (backOf (W := 0) (rm_abi l Z a0 hw [] a G1 h0 n0 Z0 O2 P5 X00 E_a ga F_v F_c F_n) hZ (hw _ (List.mem_of_getElem? (i := 64) rfl)) (hw _ (List.mem_of_getElem? (i := 63) rfl)) (by decide) (by decide)) (g := (mkF m 3 #[.val (.ref a)] [(.int (16 : Int32)), (.ref a)])) rfl (by rw [hml]; rfl) (Steps.refl _) (a := a) (argsL := [(.int (16 : Int32))]) (rest := []) (lenOf pdo_5 rfl) rfl (by show 2 * 0 + _ ≤ _; exact Nat.le_of_eq rfl) (hb hby d_rm_sbi_3) (fun _ _ => ⟨rfl, e0, (by decide : 0 + 1 ≤ _), (by decide : 0 + 16 ≤ _)⟩)
  dsimp only [Pt.U, Pt.locs, Pt.cells, Pt.slots] at X101 l101 y101 z101 st101 hQ101
  subst l101 y101 z101
  obtain ⟨vb101, kv101, rfl, Nq101, K101, lb101, Ex101, Fv101, Fc101, Fn101, V101⟩ := hQ101
  have N101 := Fr.app N0 Nq101
  have pq102 : ∀ τ, Steps pP.tables e below (T101.setTop (mkF m 6 #[.val (.ref a)] [])) τ → Steps pP.tables e below A0 τ := by
    intro τ κ
    refine pre0 τ ?_
    refine XS.aloadN X0.here hx rfl (hb hby d_rm_sbi_0) rfl rfl ?_
    refine XS.bipush X0.here hx rfl (hb hby d_rm_sbi_1) ?_
    refine st101.trans ?_
    exact κ
  have KC101 : Keep h0 T101.heap [a] := KC0.trans K101 (allS (Or.inl (List.mem_of_getElem? (i := 0) rfl)) all0)
  obtain ⟨fs, hrE, hrun, hended, hW, hsame⟩ := X101.leave (v := none) (fun _ => rfl)
  have pqE := pq102
  rw [hA0] at pqE
  refine ⟨_, _, pqE _ ?_, hrun, hended, _, _, rfl, ?_, ⟨_, rfl⟩, hW, hsame.mono (by decide) (by decide)⟩
  · show Steps pP.tables e below (T101.setTop (mkF m 6 #[.val (.ref a)] [])) _
    exact X101.returnOut hx Bd.returns (hb hby d_rm_sbi_6) hrE
  · show Q_sbi Z a h0 n0 _ T101.heap _
    exact ⟨vb101, _, rfl, N101, KC101, (Nat.le_trans (Nat.le_refl _) lb101), Ex101, Fv101, Fc101, Fn101, V101⟩
def Q_rm_gv (r : Addr) (h0 : Heap) (n0 : Nat) (v : Option Value) (h : Heap) (L : List Loc) : Prop := v = some (.ref r) ∧ Fr n0 L ∧ h = h0
theorem d_rm_gv_0 : decode jdk_68_method_64_code 0 = .ok (.aload_n 0, 1) := by decide +kernel
theorem d_rm_gv_1 : decode jdk_68_method_64_code 1 = .ok (.getfield 15, 3) := by decide +kernel
theorem d_rm_gv_4 : decode jdk_68_method_64_code 4 = .ok (.areturn, 1) := by decide +kernel
theorem ef_rm_gv (m : MethodId) (x0 : Addr) : entryFrame m #[(.ref x0)] 1 = mkF m 0 #[.val (.ref x0)] [] := by first | (simp [entryFrame, mkF, argsToLocals, Value.category]; done) | rfl
set_option maxRecDepth 65536 in
set_option maxHeartbeats 3000000 in
theorem rm_gv (l : Launch) (Z : State) (a0 : Array Value) (hw : ∀ d ∈ tables_1, d.before a0 Z = true) (ws : List Jvm.Cond) (a : Addr) (r : Addr) (h0 : Heap) (n0 : Nat) (Z0 : n0 ≤ h0.size) (F : Fld Z h0 a "java/lang/AbstractStringBuilder" "value" "[B" (.ref r)) :
    MetFree l (⟨"java/lang/AbstractStringBuilder", "getValue", "()[B"⟩ : MethodName) (head1 (Jvm.Cond.code (⟨"java/lang/AbstractStringBuilder", "getValue", "()[B"⟩ : MethodName) jdk_68_method_64_code 1 (some (.array .byte)) :: ws) ({ frames := 0, cells := 0, slots := 0, locals := 0 } : Room)) (fun αs U => αs = #[(.ref a)] ∧ Z.Warmed39 U.vm ∧ U.heap = h0) (fun _ _ _ _ _ => True) (fun _ U o U' => ∃ v L, o = .returned v ∧ Q_rm_gv r h0 n0 v U'.heap L ∧ FrameEnd U o U' L ({ frames := 0, cells := 0, slots := 0, locals := 0 } : Room).cells ({ frames := 0, cells := 0, slots := 0, locals := 0 } : Room).slots) := by
  refine MetFree.of_bodySF (plainFor_of_name pno_1) hisR ?_
  intro pP e s m args below meth cC s₁ Bd hml0 hP hK
  obtain ⟨rfl, hZ, hh⟩ := hP
  have hx := Bd.exec
  have hby := Bd.bytes
  have hml : cC.maxLocals = 1 := hml0
  have hown : s.vm.findClass "java/lang/AbstractStringBuilder" = some m.cls := findClass_of_methodNamed Bd.named
  have hnm := (name_of_methodNamed Bd.named Bd.method).1
  have X0 : Stand pP l e ({ frames := 0, cells := 0, slots := 0, locals := 0 } : Room) s m #[(.ref a)] below meth cC s₁ [] 0 0 := Stand.of_body Bd
  have e0 : s₁.heap = h0 := by rw [← hh, Bd.state]; rfl
  have N0 := Fr.nil n0
  have KC0 : Keep h0 h0 [] := Keep.refl h0 _
  obtain ⟨A0, hA0⟩ : ∃ z, z = s₁.setTop (entryFrame m #[(.ref a)] 1) := ⟨_, rfl⟩
  have pre0 : ∀ τ, Steps pP.tables e below (s₁.setTop (mkF m 0 #[.val (.ref a)] [])) τ → Steps pP.tables e below A0 τ := fun τ κ => by rw [hA0]; exact castTop (ef_rm_gv m a) κ
  obtain ⟨T101, X101, e101, st101⟩ := getF X0 hx hZ hown (host := "") (Or.inl (hw _ (List.mem_of_getElem? (i := 67) rfl))) Via.refl e0 F (g := (mkF m 1 #[.val (.ref a)] [(.ref a)])) rfl rfl (hb hby d_rm_gv_1)
  have pq102 : ∀ τ, Steps pP.tables e below (T101.setTop (mkF m 4 #[.val (.ref a)] [(.ref r)])) τ → Steps pP.tables e below A0 τ := by
    intro τ κ
    refine pre0 τ ?_
    refine XS.aloadN X0.here hx rfl (hb hby d_rm_gv_0) rfl rfl ?_
    refine st101 _ ?_
    exact κ
  obtain ⟨fs, hrE, hrun, hended, hW, hsame⟩ := X101.leave (v := some (.ref r)) (fun h => by rw [Bd.returns] at h; cases h)
  have pqE := pq102
  rw [hA0] at pqE
  refine ⟨_, _, pqE _ ?_, hrun, hended, _, _, rfl, ?_, ⟨_, rfl⟩, hW, hsame.mono (by decide) (by decide)⟩
  · show Steps pP.tables e below (T101.setTop (mkF m 4 #[.val (.ref a)] [(.ref r)])) _
    exact retOut X101 hx Bd.returns rfl (Or.inr (Or.inr (Or.inr (Or.inr ⟨rfl, rfl, rfl⟩)))) (hb hby d_rm_gv_4) hrE
  · show Q_rm_gv r h0 n0 _ T101.heap _
    rw [e101]
    exact ⟨rfl, N0, rfl⟩
def Q_rm_al (r : Int32) (h0 : Heap) (n0 : Nat) (v : Option Value) (h : Heap) (L : List Loc) : Prop := v = some (.int r) ∧ Fr n0 L ∧ h = h0
theorem d_rm_al_0 : decode jdk_68_method_6_code 0 = .ok (.aload_n 0, 1) := by decide +kernel
theorem d_rm_al_1 : decode jdk_68_method_6_code 1 = .ok (.getfield 79, 3) := by decide +kernel
theorem d_rm_al_4 : decode jdk_68_method_6_code 4 = .ok (.ireturn, 1) := by decide +kernel
theorem ef_rm_al (m : MethodId) (x0 : Addr) : entryFrame m #[(.ref x0)] 1 = mkF m 0 #[.val (.ref x0)] [] := by first | (simp [entryFrame, mkF, argsToLocals, Value.category]; done) | rfl
set_option maxRecDepth 65536 in
set_option maxHeartbeats 3000000 in
theorem rm_al (l : Launch) (Z : State) (a0 : Array Value) (hw : ∀ d ∈ tables_1, d.before a0 Z = true) (ws : List Jvm.Cond) (a : Addr) (r : Int32) (h0 : Heap) (n0 : Nat) (Z0 : n0 ≤ h0.size) (F : Fld Z h0 a "java/lang/AbstractStringBuilder" "count" "I" (.int r)) :
    MetFree l (⟨"java/lang/AbstractStringBuilder", "length", "()I"⟩ : MethodName) (head1 (Jvm.Cond.code (⟨"java/lang/AbstractStringBuilder", "length", "()I"⟩ : MethodName) jdk_68_method_6_code 1 (some .int) :: ws) ({ frames := 0, cells := 0, slots := 0, locals := 0 } : Room)) (fun αs U => αs = #[(.ref a)] ∧ Z.Warmed39 U.vm ∧ U.heap = h0) (fun _ _ _ _ _ => True) (fun _ U o U' => ∃ v L, o = .returned v ∧ Q_rm_al r h0 n0 v U'.heap L ∧ FrameEnd U o U' L ({ frames := 0, cells := 0, slots := 0, locals := 0 } : Room).cells ({ frames := 0, cells := 0, slots := 0, locals := 0 } : Room).slots) := by
  refine MetFree.of_bodySF (plainFor_of_name pno_1) hisR ?_
  intro pP e s m args below meth cC s₁ Bd hml0 hP hK
  obtain ⟨rfl, hZ, hh⟩ := hP
  have hx := Bd.exec
  have hby := Bd.bytes
  have hml : cC.maxLocals = 1 := hml0
  have hown : s.vm.findClass "java/lang/AbstractStringBuilder" = some m.cls := findClass_of_methodNamed Bd.named
  have hnm := (name_of_methodNamed Bd.named Bd.method).1
  have X0 : Stand pP l e ({ frames := 0, cells := 0, slots := 0, locals := 0 } : Room) s m #[(.ref a)] below meth cC s₁ [] 0 0 := Stand.of_body Bd
  have e0 : s₁.heap = h0 := by rw [← hh, Bd.state]; rfl
  have N0 := Fr.nil n0
  have KC0 : Keep h0 h0 [] := Keep.refl h0 _
  obtain ⟨A0, hA0⟩ : ∃ z, z = s₁.setTop (entryFrame m #[(.ref a)] 1) := ⟨_, rfl⟩
  have pre0 : ∀ τ, Steps pP.tables e below (s₁.setTop (mkF m 0 #[.val (.ref a)] [])) τ → Steps pP.tables e below A0 τ := fun τ κ => by rw [hA0]; exact castTop (ef_rm_al m a) κ
  obtain ⟨T101, X101, e101, st101⟩ := getF X0 hx hZ hown (host := "") (Or.inl (hw _ (List.mem_of_getElem? (i := 92) rfl))) Via.refl e0 F (g := (mkF m 1 #[.val (.ref a)] [(.ref a)])) rfl rfl (hb hby d_rm_al_1)
  have pq102 : ∀ τ, Steps pP.tables e below (T101.setTop (mkF m 4 #[.val (.ref a)] [(.int r)])) τ → Steps pP.tables e below A0 τ := by
    intro τ κ
    refine pre0 τ ?_
    refine XS.aloadN X0.here hx rfl (hb hby d_rm_al_0) rfl rfl ?_
    refine st101 _ ?_
    exact κ
  obtain ⟨fs, hrE, hrun, hended, hW, hsame⟩ := X101.leave (v := some (.int r)) (fun h => by rw [Bd.returns] at h; cases h)
  have pqE := pq102
  rw [hA0] at pqE
  refine ⟨_, _, pqE _ ?_, hrun, hended, _, _, rfl, ?_, ⟨_, rfl⟩, hW, hsame.mono (by decide) (by decide)⟩
  · show Steps pP.tables e below (T101.setTop (mkF m 4 #[.val (.ref a)] [(.int r)])) _
    exact retOut X101 hx Bd.returns rfl (Or.inl ⟨rfl, Or.inl rfl, _, rfl⟩) (hb hby d_rm_al_4) hrE
  · show Q_rm_al r h0 n0 _ T101.heap _
    rw [e101]
    exact ⟨rfl, N0, rfl⟩
theorem d_rm_sl_0 : decode jdk_67_method_93_code 0 = .ok (.aload_n 0, 1) := by decide +kernel
theorem d_rm_sl_1 : decode jdk_67_method_93_code 1 = .ok (.invokespecial 343, 3) := by decide +kernel
theorem d_rm_sl_4 : decode jdk_67_method_93_code 4 = .ok (.ireturn, 1) := by decide +kernel
theorem ef_rm_sl (m : MethodId) (x0 : Addr) : entryFrame m #[(.ref x0)] 1 = mkF m 0 #[.val (.ref x0)] [] := by first | (simp [entryFrame, mkF, argsToLocals, Value.category]; done) | rfl
set_option maxRecDepth 65536 in
set_option maxHeartbeats 3000000 in
theorem rm_sl (l : Launch) (Z : State) (a0 : Array Value) (hw : ∀ d ∈ tables_1, d.before a0 Z = true) (ws : List Jvm.Cond) (a : Addr) (r : Int32) (h0 : Heap) (n0 : Nat) (Z0 : n0 ≤ h0.size) (E : Exa Z h0 a "java/lang/StringBuilder") (F : Fld Z h0 a "java/lang/AbstractStringBuilder" "count" "I" (.int r)) :
    MetFree l (⟨"java/lang/StringBuilder", "length", "()I"⟩ : MethodName) (head1 (Jvm.Cond.code (⟨"java/lang/StringBuilder", "length", "()I"⟩ : MethodName) jdk_67_method_93_code 1 (some .int) :: ws) ({ frames := 1, cells := 0, slots := 0, locals := 12 } : Room)) (fun αs U => αs = #[(.ref a)] ∧ Z.Warmed39 U.vm ∧ U.heap = h0) (fun _ _ _ _ _ => True) (fun _ U o U' => ∃ v L, o = .returned v ∧ Q_rm_al r h0 n0 v U'.heap L ∧ FrameEnd U o U' L ({ frames := 1, cells := 0, slots := 0, locals := 12 } : Room).cells ({ frames := 1, cells := 0, slots := 0, locals := 12 } : Room).slots) := by
  refine MetFree.of_bodySF (plainFor_of_name pno_2) hisR ?_
  intro pP e s m args below meth cC s₁ Bd hml0 hP hK
  obtain ⟨rfl, hZ, hh⟩ := hP
  have hx := Bd.exec
  have hby := Bd.bytes
  have hml : cC.maxLocals = 1 := hml0
  have hown : s.vm.findClass "java/lang/StringBuilder" = some m.cls := findClass_of_methodNamed Bd.named
  have hnm := (name_of_methodNamed Bd.named Bd.method).1
  have X0 : Stand pP l e ({ frames := 1, cells := 0, slots := 0, locals := 12 } : Room) s m #[(.ref a)] below meth cC s₁ [] 0 0 := Stand.of_body Bd
  have e0 : s₁.heap = h0 := by rw [← hh, Bd.state]; rfl
  have N0 := Fr.nil n0
  have KC0 : Keep h0 h0 [] := Keep.refl h0 _
  obtain ⟨A0, hA0⟩ : ∃ z, z = s₁.setTop (entryFrame m #[(.ref a)] 1) := ⟨_, rfl⟩
  have pre0 : ∀ τ, Steps pP.tables e below (s₁.setTop (mkF m 0 #[.val (.ref a)] [])) τ → Steps pP.tables e below A0 τ := fun τ κ => by rw [hA0]; exact castTop (ef_rm_sl m a) κ
  obtain ⟨_, _, ⟨T101, L101, k101, n101⟩, -, X101, ⟨Lc101, hQ101, l101, y101, z101⟩, st101⟩ := superBack X0 hx (y := (⟨"java/lang/AbstractStringBuilder", "length", "()I"⟩ : MethodName)) hZ hown (hw _ (List.mem_of_getElem? (i := 143) rfl)) (own_sameM (n := "ensureCapacityInternal") (d := "(I)V") (hw _ (List.mem_of_getElem? (i := 139) rfl)) (by decide) (hw _ (List.mem_of_getElem? (i := 97) rfl))) (hw _ (List.mem_of_getElem? (i := 139) rfl)) (hw _ (List.mem_of_getElem? (i := 78) rfl)) (by decide) (backOf (W := 0) (rm_al l Z a0 hw [] a r h0 n0 Z0 F) hZ (hw _ (List.mem_of_getElem? (i := 144) rfl)) (hw _ (List.mem_of_getElem? (i := 63) rfl)) (by decide) (by decide)) e0 (Ins.self E) (g := (mkF m 1 #[.val (.ref a)] [(.ref a)])) rfl (by rw [hml]; rfl) (hw _ (List.mem_of_getElem? (i := 144) rfl)) (argsL := []) (rest := []) (lenOf pdo_4 rfl) rfl (by show 2 * 0 + _ ≤ _; exact Nat.le_of_eq rfl) (hb hby d_rm_sl_1) (fun _ _ => ⟨rfl, e0, (by decide : 0 + 0 ≤ _), (by decide : 0 + 0 ≤ _)⟩)
  dsimp only [Pt.U, Pt.locs, Pt.cells, Pt.slots] at X101 l101 y101 z101 st101 hQ101
  subst l101 y101 z101
  obtain ⟨rfl, Nq101, eq101⟩ := hQ101
  have N101 := Fr.app N0 Nq101
  have pq102 : ∀ τ, Steps pP.tables e below (T101.setTop (mkF m 4 #[.val (.ref a)] [(.int r)])) τ → Steps pP.tables e below A0 τ := by
    intro τ κ
    refine pre0 τ ?_
    refine XS.aloadN X0.here hx rfl (hb hby d_rm_sl_0) rfl rfl ?_
    refine st101.trans ?_
    exact κ
  obtain ⟨fs, hrE, hrun, hended, hW, hsame⟩ := X101.leave (v := some (.int r)) (fun h => by rw [Bd.returns] at h; cases h)
  have pqE := pq102
  rw [hA0] at pqE
  refine ⟨_, _, pqE _ ?_, hrun, hended, _, _, rfl, ?_, ⟨_, rfl⟩, hW, hsame.mono (by decide) (by decide)⟩
  · show Steps pP.tables e below (T101.setTop (mkF m 4 #[.val (.ref a)] [(.int r)])) _
    exact retOut X101 hx Bd.returns rfl (Or.inl ⟨rfl, Or.inl rfl, _, rfl⟩) (hb hby d_rm_sl_4) hrE
  · show Q_rm_al r h0 n0 _ T101.heap _
    rw [eq101]
    exact ⟨rfl, N101, rfl⟩
def Q_isl (h0 : Heap) (n0 : Nat) (v : Option Value) (h : Heap) (L : List Loc) : Prop := v = some (.int 1) ∧ Fr n0 L ∧ h = h0
theorem d_rm_isl_0 : decode jdk_68_method_68_code 0 = .ok (.getstatic 18, 3) := by decide +kernel
theorem d_rm_isl_3 : decode jdk_68_method_68_code 3 = .ok (.ifCond .eq 14, 3) := by decide +kernel
theorem d_rm_isl_6 : decode jdk_68_method_68_code 6 = .ok (.aload_n 0, 1) := by decide +kernel
theorem d_rm_isl_7 : decode jdk_68_method_68_code 7 = .ok (.getfield 22, 3) := by decide +kernel
theorem d_rm_isl_10 : decode jdk_68_method_68_code 10 = .ok (.ifCond .ne 7, 3) := by decide +kernel
theorem d_rm_isl_13 : decode jdk_68_method_68_code 13 = .ok (.iconst 1, 1) := by decide +kernel
theorem d_rm_isl_14 : decode jdk_68_method_68_code 14 = .ok (.goto 4, 3) := by decide +kernel
theorem d_rm_isl_18 : decode jdk_68_method_68_code 18 = .ok (.ireturn, 1) := by decide +kernel
theorem ef_rm_isl (m : MethodId) (x0 : Addr) : entryFrame m #[(.ref x0)] 1 = mkF m 0 #[.val (.ref x0)] [] := by first | (simp [entryFrame, mkF, argsToLocals, Value.category]; done) | rfl
set_option maxRecDepth 65536 in
set_option maxHeartbeats 3000000 in
theorem rm_isl (l : Launch) (Z : State) (a0 : Array Value) (hw : ∀ d ∈ tables_1, d.before a0 Z = true) (ws : List Jvm.Cond) (a : Addr) (G1 : Int32) (h0 : Heap) (n0 : Nat) (Z0 : n0 ≤ h0.size) (O2 : Sta Z Z.heap "java/lang/String" "COMPACT_STRINGS" "Z" (.int G1)) (P5 : ¬ (G1 = (0 : Int32))) (X00 : Old Z n0 h0) (F : Fld Z h0 a "java/lang/AbstractStringBuilder" "coder" "B" (.int 0)) :
    MetFree l (⟨"java/lang/AbstractStringBuilder", "isLatin1", "()Z"⟩ : MethodName) (head1 (Jvm.Cond.code (⟨"java/lang/AbstractStringBuilder", "isLatin1", "()Z"⟩ : MethodName) jdk_68_method_68_code 1 (some .boolean) :: ws) ({ frames := 0, cells := 0, slots := 0, locals := 0 } : Room)) (fun αs U => αs = #[(.ref a)] ∧ Z.Warmed39 U.vm ∧ U.heap = h0) (fun _ _ _ _ _ => True) (fun _ U o U' => ∃ v L, o = .returned v ∧ Q_isl h0 n0 v U'.heap L ∧ FrameEnd U o U' L ({ frames := 0, cells := 0, slots := 0, locals := 0 } : Room).cells ({ frames := 0, cells := 0, slots := 0, locals := 0 } : Room).slots) := by
  refine MetFree.of_bodySF (plainFor_of_name pno_1) hisR ?_
  intro pP e s m args below meth cC s₁ Bd hml0 hP hK
  obtain ⟨rfl, hZ, hh⟩ := hP
  have hx := Bd.exec
  have hby := Bd.bytes
  have hml : cC.maxLocals = 1 := hml0
  have hown : s.vm.findClass "java/lang/AbstractStringBuilder" = some m.cls := findClass_of_methodNamed Bd.named
  have hnm := (name_of_methodNamed Bd.named Bd.method).1
  have X0 : Stand pP l e ({ frames := 0, cells := 0, slots := 0, locals := 0 } : Room) s m #[(.ref a)] below meth cC s₁ [] 0 0 := Stand.of_body Bd
  have e0 : s₁.heap = h0 := by rw [← hh, Bd.state]; rfl
  have N0 := Fr.nil n0
  have KC0 : Keep h0 h0 [] := Keep.refl h0 _
  obtain ⟨A0, hA0⟩ : ∃ z, z = s₁.setTop (entryFrame m #[(.ref a)] 1) := ⟨_, rfl⟩
  have pre0 : ∀ τ, Steps pP.tables e below (s₁.setTop (mkF m 0 #[.val (.ref a)] [])) τ → Steps pP.tables e below A0 τ := fun τ κ => by rw [hA0]; exact castTop (ef_rm_isl m a) κ
  obtain ⟨T101, X101, e101, st101⟩ := getS2 X0 hx hZ hown (host := "") (Or.inl (hw _ (List.mem_of_getElem? (i := 66) rfl))) Via.refl e0 (O2.ext X00.2) (g := (mkF m 0 #[.val (.ref a)] [])) rfl (hb hby d_rm_isl_0)
  have pq102 : ∀ τ, Steps pP.tables e below (T101.setTop (mkF m 3 #[.val (.ref a)] [(.int G1)])) τ → Steps pP.tables e below A0 τ := by
    intro τ κ
    refine pre0 τ ?_
    refine st101 _ ?_
    exact κ
  obtain ⟨T103, X103, e103, st103⟩ := getF X101 hx hZ hown (host := "") (Or.inl (hw _ (List.mem_of_getElem? (i := 69) rfl))) Via.refl e101 F (g := (mkF m 7 #[.val (.ref a)] [(.ref a)])) rfl rfl (hb hby d_rm_isl_7)
  have pq104 : ∀ τ, Steps pP.tables e below (T103.setTop (mkF m 10 #[.val (.ref a)] [(.int (0 : Int32))])) τ → Steps pP.tables e below A0 τ := by
    intro τ κ
    refine pq102 τ ?_
    refine XS.ifNo X101.here hx rfl (hb hby d_rm_isl_3) rfl ((if0 _ _).trans (feq P5).1) ?_
    refine XS.aloadN X101.here hx rfl (hb hby d_rm_isl_6) rfl rfl ?_
    refine st103 _ ?_
    exact κ
  obtain ⟨fs, hrE, hrun, hended, hW, hsame⟩ := X103.leave (v := some (.int (1 : Int32))) (fun h => by rw [Bd.returns] at h; cases h)
  have pqE := pq104
  rw [hA0] at pqE
  refine ⟨_, _, pqE _ ?_, hrun, hended, _, _, rfl, ?_, ⟨_, rfl⟩, hW, hsame.mono (by decide) (by decide)⟩
  · refine XS.ifNo X103.here hx rfl (hb hby d_rm_isl_10) rfl ((if0 _ _).trans (teq (by decide : ((0 : Int32) = (0 : Int32)))).2) ?_
    refine XS.iconst X103.here hx rfl (hb hby d_rm_isl_13) ?_
    refine XS.goto X103.here hx rfl (pc0 := 14) (pc' := 18) rfl (hb hby d_rm_isl_14) (by decide) (by decide) ?_
    show Steps pP.tables e below (T103.setTop (mkF m 18 #[.val (.ref a)] [(.int (1 : Int32))])) _
    exact retN X103 hx (t := .boolean) Bd.returns (by simp) (hb hby d_rm_isl_18) hrE
  · show Q_isl h0 n0 _ T103.heap _
    rw [e103]
    exact ⟨rfl, N0, rfl⟩
def Q_chl (h0 : Heap) (n0 : Nat) (v : Option Value) (h : Heap) (L : List Loc) : Prop := v = none ∧ Fr n0 L ∧ h = h0
theorem d_rm_chl_0 : decode jdk_65_method_131_code 0 = .ok (.iload_n 1, 1) := by decide +kernel
theorem d_rm_chl_1 : decode jdk_65_method_131_code 1 = .ok (.iload_n 0, 1) := by decide +kernel
theorem d_rm_chl_2 : decode jdk_65_method_131_code 2 = .ok (.if_icmp .ge 35, 3) := by decide +kernel
theorem d_rm_chl_37 : decode jdk_65_method_131_code 37 = .ok (.return_, 1) := by decide +kernel
theorem ef_rm_chl (m : MethodId) (x0 : Int32) (x1 : Int32) : entryFrame m #[(.int x0), (.int x1)] 2 = mkF m 0 #[.val (.int x0), .val (.int x1)] [] := by first | (simp [entryFrame, mkF, argsToLocals, Value.category]; done) | rfl
set_option maxRecDepth 65536 in
set_option maxHeartbeats 3000000 in
theorem rm_chl (l : Launch) (Z : State) (a0 : Array Value) (hw : ∀ d ∈ tables_1, d.before a0 Z = true) (ws : List Jvm.Cond) (q : Int32) (h0 : Heap) (n0 : Nat) (Z0 : n0 ≤ h0.size) (hq : ¬ q < (0 : Int32)) :
    MetFree l (⟨"java/util/Arrays", "checkLength", "(II)V"⟩ : MethodName) (head1 (Jvm.Cond.code (⟨"java/util/Arrays", "checkLength", "(II)V"⟩ : MethodName) jdk_65_method_131_code 2 none :: ws) ({ frames := 0, cells := 0, slots := 0, locals := 0 } : Room)) (fun αs U => αs = #[(.int (0 : Int32)), (.int q)] ∧ Z.Warmed39 U.vm ∧ U.heap = h0) (fun _ _ _ _ _ => True) (fun _ U o U' => ∃ v L, o = .returned v ∧ Q_chl h0 n0 v U'.heap L ∧ FrameEnd U o U' L ({ frames := 0, cells := 0, slots := 0, locals := 0 } : Room).cells ({ frames := 0, cells := 0, slots := 0, locals := 0 } : Room).slots) := by
  refine MetFree.of_bodySF (plainFor_of_name pno_3) hisR ?_
  intro pP e s m args below meth cC s₁ Bd hml0 hP hK
  obtain ⟨rfl, hZ, hh⟩ := hP
  have hx := Bd.exec
  have hby := Bd.bytes
  have hml : cC.maxLocals = 2 := hml0
  have hown : s.vm.findClass "java/util/Arrays" = some m.cls := findClass_of_methodNamed Bd.named
  have hnm := (name_of_methodNamed Bd.named Bd.method).1
  have X0 : Stand pP l e ({ frames := 0, cells := 0, slots := 0, locals := 0 } : Room) s m #[(.int (0 : Int32)), (.int q)] below meth cC s₁ [] 0 0 := Stand.of_body Bd
  have e0 : s₁.heap = h0 := by rw [← hh, Bd.state]; rfl
  have N0 := Fr.nil n0
  have KC0 : Keep h0 h0 [] := Keep.refl h0 _
  obtain ⟨A0, hA0⟩ : ∃ z, z = s₁.setTop (entryFrame m #[(.int (0 : Int32)), (.int q)] 2) := ⟨_, rfl⟩
  have pre0 : ∀ τ, Steps pP.tables e below (s₁.setTop (mkF m 0 #[.val (.int (0 : Int32)), .val (.int q)] [])) τ → Steps pP.tables e below A0 τ := fun τ κ => by rw [hA0]; exact castTop (ef_rm_chl m (0 : Int32) q) κ
  obtain ⟨fs, hrE, hrun, hended, hW, hsame⟩ := X0.leave (v := none) (fun _ => rfl)
  have pqE := pre0
  rw [hA0] at pqE
  refine ⟨_, _, pqE _ ?_, hrun, hended, _, _, rfl, ?_, ⟨_, rfl⟩, hW, hsame.mono (by decide) (by decide)⟩
  · refine XS.iloadN X0.here hx rfl (hb hby d_rm_chl_0) rfl ?_
    refine XS.iloadN X0.here hx rfl (hb hby d_rm_chl_1) rfl ?_
    refine XS.icmpYes X0.here hx rfl (pc0 := 2) (pc' := 37) rfl (hb hby d_rm_chl_2) rfl (flt hq).2.1 (by decide) (by decide) ?_
    show Steps pP.tables e below (s₁.setTop (mkF m 37 #[.val (.int (0 : Int32)), .val (.int q)] [])) _
    exact X0.returnOut hx Bd.returns (hb hby d_rm_chl_37) hrE
  · show Q_chl h0 n0 _ s₁.heap _
    rw [e0]
    exact ⟨rfl, N0, rfl⟩
def Q_min (q : Int32) (h0 : Heap) (n0 : Nat) (v : Option Value) (h : Heap) (L : List Loc) : Prop := v = some (.int q) ∧ Fr n0 L ∧ h = h0
theorem d_rm_min_0 : decode jdk_29_method_69_code 0 = .ok (.iload_n 0, 1) := by decide +kernel
theorem d_rm_min_1 : decode jdk_29_method_69_code 1 = .ok (.iload_n 1, 1) := by decide +kernel
theorem d_rm_min_2 : decode jdk_29_method_69_code 2 = .ok (.if_icmp .gt 7, 3) := by decide +kernel
theorem d_rm_min_9 : decode jdk_29_method_69_code 9 = .ok (.iload_n 1, 1) := by decide +kernel
theorem d_rm_min_10 : decode jdk_29_method_69_code 10 = .ok (.ireturn, 1) := by decide +kernel
theorem ef_rm_min (m : MethodId) (x0 : Int32) (x1 : Int32) : entryFrame m #[(.int x0), (.int x1)] 2 = mkF m 0 #[.val (.int x0), .val (.int x1)] [] := by first | (simp [entryFrame, mkF, argsToLocals, Value.category]; done) | rfl
set_option maxRecDepth 65536 in
set_option maxHeartbeats 3000000 in
theorem rm_min (l : Launch) (Z : State) (a0 : Array Value) (hw : ∀ d ∈ tables_1, d.before a0 Z = true) (ws : List Jvm.Cond) (q : Int32) (h0 : Heap) (n0 : Nat) (Z0 : n0 ≤ h0.size) (hq : q < (16 : Int32)) :
    MetFree l (⟨"java/lang/Math", "min", "(II)I"⟩ : MethodName) (head1 (Jvm.Cond.code (⟨"java/lang/Math", "min", "(II)I"⟩ : MethodName) jdk_29_method_69_code 2 (some .int) :: ws) ({ frames := 0, cells := 0, slots := 0, locals := 0 } : Room)) (fun αs U => αs = #[(.int (16 : Int32)), (.int q)] ∧ Z.Warmed39 U.vm ∧ U.heap = h0) (fun _ _ _ _ _ => True) (fun _ U o U' => ∃ v L, o = .returned v ∧ Q_min q h0 n0 v U'.heap L ∧ FrameEnd U o U' L ({ frames := 0, cells := 0, slots := 0, locals := 0 } : Room).cells ({ frames := 0, cells := 0, slots := 0, locals := 0 } : Room).slots) := by
  refine MetFree.of_bodySF (Jvm.Free.JP.mathPlain rfl (by decide +kernel)) hisR ?_
  intro pP e s m args below meth cC s₁ Bd hml0 hP hK
  obtain ⟨rfl, hZ, hh⟩ := hP
  have hx := Bd.exec
  have hby := Bd.bytes
  have hml : cC.maxLocals = 2 := hml0
  have hown : s.vm.findClass "java/lang/Math" = some m.cls := findClass_of_methodNamed Bd.named
  have hnm := (name_of_methodNamed Bd.named Bd.method).1
  have X0 : Stand pP l e ({ frames := 0, cells := 0, slots := 0, locals := 0 } : Room) s m #[(.int (16 : Int32)), (.int q)] below meth cC s₁ [] 0 0 := Stand.of_body Bd
  have e0 : s₁.heap = h0 := by rw [← hh, Bd.state]; rfl
  have N0 := Fr.nil n0
  have KC0 : Keep h0 h0 [] := Keep.refl h0 _
  obtain ⟨A0, hA0⟩ : ∃ z, z = s₁.setTop (entryFrame m #[(.int (16 : Int32)), (.int q)] 2) := ⟨_, rfl⟩
  have pre0 : ∀ τ, Steps pP.tables e below (s₁.setTop (mkF m 0 #[.val (.int (16 : Int32)), .val (.int q)] [])) τ → Steps pP.tables e below A0 τ := fun τ κ => by rw [hA0]; exact castTop (ef_rm_min m (16 : Int32) q) κ
  obtain ⟨fs, hrE, hrun, hended, hW, hsame⟩ := X0.leave (v := some (.int q)) (fun h => by rw [Bd.returns] at h; cases h)
  have pqE := pre0
  rw [hA0] at pqE
  refine ⟨_, _, pqE _ ?_, hrun, hended, _, _, rfl, ?_, ⟨_, rfl⟩, hW, hsame.mono (by decide) (by decide)⟩
  · refine XS.iloadN X0.here hx rfl (hb hby d_rm_min_0) rfl ?_
    refine XS.iloadN X0.here hx rfl (hb hby d_rm_min_1) rfl ?_
    refine XS.icmpYes X0.here hx rfl (pc0 := 2) (pc' := 9) rfl (hb hby d_rm_min_2) rfl (tlt hq).2.2.1 (by decide) (by decide) ?_
    refine XS.iloadN X0.here hx rfl (hb hby d_rm_min_9) rfl ?_
    show Steps pP.tables e below (s₁.setTop (mkF m 10 #[.val (.int (16 : Int32)), .val (.int q)] [(.int q)])) _
    exact retOut X0 hx Bd.returns rfl (Or.inl ⟨rfl, Or.inl rfl, _, rfl⟩) (hb hby d_rm_min_10) hrE
  · show Q_min q h0 n0 _ s₁.heap _
    rw [e0]
    exact ⟨rfl, N0, rfl⟩
def Q_cor (Z : State) (cs : List Int32) (h0 : Heap) (n0 : Nat) (v : Option Value) (h : Heap) (L : List Loc) : Prop := ∃ (b : Addr) (k : ClassId), v = some (.ref b) ∧ Fr n0 L ∧ Keep h0 h [] ∧ h0.size ≤ b ∧ Arv Z h b k .byte (Int32.ofNat (cs).length) (((cs).map (fun c : Int32 => c.toInt8.toInt32)).map Value.int) (.int 0)
theorem d_rm_crb_0 : decode jdk_65_method_133_code 0 = .ok (.iload_n 1, 1) := by decide +kernel
theorem d_rm_crb_1 : decode jdk_65_method_133_code 1 = .ok (.iload_n 2, 1) := by decide +kernel
theorem d_rm_crb_2 : decode jdk_65_method_133_code 2 = .ok (.invokestatic 343, 3) := by decide +kernel
theorem d_rm_crb_5 : decode jdk_65_method_133_code 5 = .ok (.iload_n 2, 1) := by decide +kernel
theorem d_rm_crb_6 : decode jdk_65_method_133_code 6 = .ok (.iload_n 1, 1) := by decide +kernel
theorem d_rm_crb_7 : decode jdk_65_method_133_code 7 = .ok (.isub, 1) := by decide +kernel
theorem d_rm_crb_8 : decode jdk_65_method_133_code 8 = .ok (.istore_n 3, 1) := by decide +kernel
theorem d_rm_crb_9 : decode jdk_65_method_133_code 9 = .ok (.iload_n 3, 1) := by decide +kernel
theorem d_rm_crb_10 : decode jdk_65_method_133_code 10 = .ok (.newarray .byte, 2) := by decide +kernel
theorem d_rm_crb_12 : decode jdk_65_method_133_code 12 = .ok (.astore 4, 2) := by decide +kernel
theorem d_rm_crb_14 : decode jdk_65_method_133_code 14 = .ok (.aload_n 0, 1) := by decide +kernel
theorem d_rm_crb_15 : decode jdk_65_method_133_code 15 = .ok (.iload_n 1, 1) := by decide +kernel
theorem d_rm_crb_16 : decode jdk_65_method_133_code 16 = .ok (.aload 4, 2) := by decide +kernel
theorem d_rm_crb_18 : decode jdk_65_method_133_code 18 = .ok (.iconst 0, 1) := by decide +kernel
theorem d_rm_crb_19 : decode jdk_65_method_133_code 19 = .ok (.aload_n 0, 1) := by decide +kernel
theorem d_rm_crb_20 : decode jdk_65_method_133_code 20 = .ok (.arraylength, 1) := by decide +kernel
theorem d_rm_crb_21 : decode jdk_65_method_133_code 21 = .ok (.iload_n 1, 1) := by decide +kernel
theorem d_rm_crb_22 : decode jdk_65_method_133_code 22 = .ok (.isub, 1) := by decide +kernel
theorem d_rm_crb_23 : decode jdk_65_method_133_code 23 = .ok (.iload_n 3, 1) := by decide +kernel
theorem d_rm_crb_24 : decode jdk_65_method_133_code 24 = .ok (.invokestatic 304, 3) := by decide +kernel
theorem d_rm_crb_27 : decode jdk_65_method_133_code 27 = .ok (.invokestatic 150, 3) := by decide +kernel
theorem d_rm_crb_30 : decode jdk_65_method_133_code 30 = .ok (.aload 4, 2) := by decide +kernel
theorem d_rm_crb_32 : decode jdk_65_method_133_code 32 = .ok (.areturn, 1) := by decide +kernel
theorem ef_rm_crb (m : MethodId) (x0 : Addr) (x1 : Int32) (x2 : Int32) : entryFrame m #[(.ref x0), (.int x1), (.int x2)] 5 = mkF m 0 #[.val (.ref x0), .val (.int x1), .val (.int x2), .unset, .unset] [] := by first | (simp [entryFrame, mkF, argsToLocals, Value.category]; done) | rfl
set_option maxRecDepth 65536 in
set_option maxHeartbeats 3000000 in
theorem rm_crb (l : Launch) (Z : State) (a0 : Array Value) (hw : ∀ d ∈ tables_1, d.before a0 Z = true) (ws : List Jvm.Cond) (vb : Addr) (kv : ClassId) (cs : List Int32) (h0 : Heap) (n0 : Nat) (Z0 : n0 ≤ h0.size) (V_sb : Arv Z h0 vb kv .byte 16 (((cs).map (fun c : Int32 => c.toInt8.toInt32)).map Value.int) (.int 0)) (hl : (cs).length ≤ 15) :
    MetFree l (⟨"java/util/Arrays", "copyOfRangeByte", "([BII)[B"⟩ : MethodName) (head1 (Jvm.Cond.code (⟨"java/util/Arrays", "copyOfRangeByte", "([BII)[B"⟩ : MethodName) jdk_65_method_133_code 5 (some (.array .byte)) :: ws) ({ frames := 1, cells := 1, slots := 16, locals := 18 } : Room)) (fun αs U => αs = #[(.ref vb), (.int (0 : Int32)), (.int (Int32.ofNat (cs).length))] ∧ Z.Warmed39 U.vm ∧ U.heap = h0) (fun _ _ _ _ _ => True) (fun _ U o U' => ∃ v L, o = .returned v ∧ Q_cor Z cs h0 n0 v U'.heap L ∧ FrameEnd U o U' L ({ frames := 1, cells := 1, slots := 16, locals := 18 } : Room).cells ({ frames := 1, cells := 1, slots := 16, locals := 18 } : Room).slots) := by
  refine MetFree.of_bodySF (plainFor_of_name pno_3) hisR ?_
  intro pP e s m args below meth cC s₁ Bd hml0 hP hK
  obtain ⟨rfl, hZ, hh⟩ := hP
  have hx := Bd.exec
  have hby := Bd.bytes
  have hml : cC.maxLocals = 5 := hml0
  have hown : s.vm.findClass "java/util/Arrays" = some m.cls := findClass_of_methodNamed Bd.named
  have hnm := (name_of_methodNamed Bd.named Bd.method).1
  have X0 : Stand pP l e ({ frames := 1, cells := 1, slots := 16, locals := 18 } : Room) s m #[(.ref vb), (.int (0 : Int32)), (.int (Int32.ofNat (cs).length))] below meth cC s₁ [] 0 0 := Stand.of_body Bd
  have e0 : s₁.heap = h0 := by rw [← hh, Bd.state]; rfl
  have N0 := Fr.nil n0
  have KC0 : Keep h0 h0 [] := Keep.refl h0 _
  obtain ⟨A0, hA0⟩ : ∃ z, z = s₁.setTop (entryFrame m #[(.ref vb), (.int (0 : Int32)), (.int (Int32.ofNat (cs).length))] 5) := ⟨_, rfl⟩
  have pre0 : ∀ τ, Steps pP.tables e below (s₁.setTop (mkF m 0 #[.val (.ref vb), .val (.int (0 : Int32)), .val (.int (Int32.ofNat (cs).length)), .unset, .unset] [])) τ → Steps pP.tables e below A0 τ := fun τ κ => by rw [hA0]; exact castTop (ef_rm_crb m vb (0 : Int32) (Int32.ofNat (cs).length)) κ
  obtain ⟨_, _, ⟨T101, L101, k101, n101⟩, -, X101, ⟨Lc101, hQ101, l101, y101, z101⟩, st101⟩ := Jvm.LawKit.callS X0 hx (y := (⟨"java/util/Arrays", "checkLength", "(II)V"⟩ : MethodName)) hown (mvT hZ (hw _ (List.mem_of_getElem? (i := 157) rfl))) (mvT hZ (hw _ (List.mem_of_getElem? (i := 158) rfl))) (mvT hZ (hw _ (List.mem_of_getElem? (i := 152) rfl))) (mvT hZ (hw _ (List.mem_of_getElem? (i := 159) rfl))) (by decide) (backOf (W := 0) (rm_chl l Z a0 hw [] (Int32.ofNat (cs).length) h0 n0 Z0 (own_nn (by omega : (cs).length < 2 ^ 31))) hZ (hw _ (List.mem_of_getElem? (i := 159) rfl)) (hw _ (List.mem_of_getElem? (i := 152) rfl)) (by decide) (by decide)) (g := (mkF m 2 #[.val (.ref vb), .val (.int (0 : Int32)), .val (.int (Int32.ofNat (cs).length)), .unset, .unset] [(.int (Int32.ofNat (cs).length)), (.int (0 : Int32))])) rfl (by rw [hml]; rfl) (argsL := [(.int (0 : Int32)), (.int (Int32.ofNat (cs).length))]) (rest := []) (lenOf pdo_8 rfl) rfl (by show 2 * 0 + _ ≤ _; exact Nat.le_of_eq rfl) (hb hby d_rm_crb_2) (fun _ _ => ⟨rfl, e0, (by decide : 0 + 0 ≤ _), (by decide : 0 + 0 ≤ _)⟩)
  dsimp only [Pt.U, Pt.locs, Pt.cells, Pt.slots] at X101 l101 y101 z101 st101 hQ101
  subst l101 y101 z101
  obtain ⟨rfl, Nq101, eq101⟩ := hQ101
  have N101 := Fr.app N0 Nq101
  have pq102 : ∀ τ, Steps pP.tables e below (T101.setTop (mkF m 5 #[.val (.ref vb), .val (.int (0 : Int32)), .val (.int (Int32.ofNat (cs).length)), .unset, .unset] [])) τ → Steps pP.tables e below A0 τ := by
    intro τ κ
    refine pre0 τ ?_
    refine XS.iloadN X0.here hx rfl (hb hby d_rm_crb_0) rfl ?_
    refine XS.iloadN X0.here hx rfl (hb hby d_rm_crb_1) rfl ?_
    refine st101 _ ?_
    exact κ
  have pq103 : ∀ τ, Steps pP.tables e below (T101.setTop (mkF m 8 #[.val (.ref vb), .val (.int (0 : Int32)), .val (.int (Int32.ofNat (cs).length)), .unset, .unset] [(.int ((Int32.ofNat (cs).length) - (0 : Int32)))])) τ → Steps pP.tables e below A0 τ := by
    intro τ κ
    refine pq102 τ ?_
    refine XS.iloadN X101.here hx rfl (hb hby d_rm_crb_5) rfl ?_
    refine XS.iloadN X101.here hx rfl (hb hby d_rm_crb_6) rfl ?_
    refine XS.isub X101.here hx rfl (hb hby d_rm_crb_7) rfl ?_
    exact κ
  have pq104 : ∀ τ, Steps pP.tables e below (T101.setTop (mkF m 8 #[.val (.ref vb), .val (.int (0 : Int32)), .val (.int (Int32.ofNat (cs).length)), .unset, .unset] [(.int (Int32.ofNat (cs).length))])) τ → Steps pP.tables e below A0 τ := by intro τ κ; refine pq103 τ ?_; rw [show ((Int32.ofNat (cs).length) - (0 : Int32)) = (Int32.ofNat (cs).length) from own_sub0 _]; exact κ
  obtain ⟨T105, h105, k105, X105, e105, E105, A105, st105⟩ := newP X101 hx hZ (hw _ (List.mem_of_getElem? (i := 20) rfl)) eq101 (g := (mkF m 10 #[.val (.ref vb), .val (.int (0 : Int32)), .val (.int (Int32.ofNat (cs).length)), .val (.int (Int32.ofNat (cs).length)), .unset] [(.int (Int32.ofNat (cs).length))])) rfl (hb hby d_rm_crb_10) rfl (own_nn (by omega : (cs).length < 2 ^ 31)) (cap := 16) (by rw [own_ofn (by omega : (cs).length < 2 ^ 31)]; omega) (by decide) (by decide) (by decide)
  obtain ⟨b105, g105⟩ : ∃ z, z = h0.size := ⟨_, rfl⟩
  rw [← g105] at A105 st105
  have pq106 : ∀ τ, Steps pP.tables e below (T105.setTop (mkF m 12 #[.val (.ref vb), .val (.int (0 : Int32)), .val (.int (Int32.ofNat (cs).length)), .val (.int (Int32.ofNat (cs).length)), .unset] [(.ref b105)])) τ → Steps pP.tables e below A0 τ := by
    intro τ κ
    refine pq104 τ ?_
    refine XS.istoreN X101.here hx rfl (hb hby d_rm_crb_8) rfl (l' := #[.val (.ref vb), .val (.int (0 : Int32)), .val (.int (Int32.ofNat (cs).length)), .val (.int (Int32.ofNat (cs).length)), .unset]) rfl ?_
    refine XS.iloadN X101.here hx rfl (hb hby d_rm_crb_9) rfl ?_
    refine st105 _ ?_
    exact κ
  have KC105 : Keep h0 h105 [] := KC0.ext E105
  have V105 : Arv Z h105 b105 k105 .byte (Int32.ofNat (cs).length) [] (.int (0 : Int32)) := Arv.new A105 (own_nn (by omega : (cs).length < 2 ^ 31))
  have f107 := (V_sb.ext E105)
  obtain ⟨cl108, Ar108, q108, S108, M108, Hs108, G108⟩ := id f107
  have f109 := (Nat.le_trans Z0 E105.1)
  obtain ⟨_, _, ⟨T110, L110, k110, n110⟩, -, X110, ⟨Lc110, hQ110, l110, y110, z110⟩, st110⟩ := Jvm.LawKit.callS X105 hx (y := (⟨"java/lang/Math", "min", "(II)I"⟩ : MethodName)) hown (mvT hZ (hw _ (List.mem_of_getElem? (i := 160) rfl))) (mvT hZ (hw _ (List.mem_of_getElem? (i := 161) rfl))) (mvT hZ (hw _ (List.mem_of_getElem? (i := 162) rfl))) (mvT hZ (hw _ (List.mem_of_getElem? (i := 163) rfl))) (by decide) (backOf (W := 4) (rm_min l Z a0 hw [] (Int32.ofNat (cs).length) h105 n0 f109 (own_lt16 hl)) hZ (hw _ (List.mem_of_getElem? (i := 163) rfl)) (hw _ (List.mem_of_getElem? (i := 162) rfl)) (by decide) (by decide)) (g := (mkF m 24 #[.val (.ref vb), .val (.int (0 : Int32)), .val (.int (Int32.ofNat (cs).length)), .val (.int (Int32.ofNat (cs).length)), .val (.ref b105)] [(.int (Int32.ofNat (cs).length)), (.int (16 : Int32)), (.int (0 : Int32)), (.ref b105), (.int (0 : Int32)), (.ref vb)])) rfl (by rw [hml]; rfl) (argsL := [(.int (16 : Int32)), (.int (Int32.ofNat (cs).length))]) (rest := [(.int (0 : Int32)), (.ref b105), (.int (0 : Int32)), (.ref vb)]) (lenOf pdo_9 rfl) rfl (by show 2 * 0 + _ ≤ _; exact Nat.le_of_eq rfl) (hb hby d_rm_crb_24) (fun _ _ => ⟨rfl, e105, (by decide : 1 + 0 ≤ _), (by decide : 16 + 0 ≤ _)⟩)
  dsimp only [Pt.U, Pt.locs, Pt.cells, Pt.slots] at X110 l110 y110 z110 st110 hQ110
  subst l110 y110 z110
  obtain ⟨rfl, Nq110, eq110⟩ := hQ110
  have N110 := Fr.app N101 Nq110
  have pq111 : ∀ τ, Steps pP.tables e below (T110.setTop (mkF m 27 #[.val (.ref vb), .val (.int (0 : Int32)), .val (.int (Int32.ofNat (cs).length)), .val (.int (Int32.ofNat (cs).length)), .val (.ref b105)] [(.int (Int32.ofNat (cs).length)), (.int (0 : Int32)), (.ref b105), (.int (0 : Int32)), (.ref vb)])) τ → Steps pP.tables e below A0 τ := by
    intro τ κ
    refine pq106 τ ?_
    refine XS.astore X105.here hx rfl (hb hby d_rm_crb_12) rfl rfl (l' := #[.val (.ref vb), .val (.int (0 : Int32)), .val (.int (Int32.ofNat (cs).length)), .val (.int (Int32.ofNat (cs).length)), .val (.ref b105)]) rfl ?_
    refine XS.aloadN X105.here hx rfl (hb hby d_rm_crb_14) rfl rfl ?_
    refine XS.iloadN X105.here hx rfl (hb hby d_rm_crb_15) rfl ?_
    refine XS.aload X105.here hx rfl (hb hby d_rm_crb_16) rfl rfl ?_
    refine XS.iconst X105.here hx rfl (hb hby d_rm_crb_18) ?_
    refine XS.aloadN X105.here hx rfl (hb hby d_rm_crb_19) rfl rfl ?_
    refine X105.arraylength hx (by rw [e105]; exact Ar108.1) (State.isArrayOf_alike hZ.alike Ar108.2.1) (g := (mkF m 20 #[.val (.ref vb), .val (.int (0 : Int32)), .val (.int (Int32.ofNat (cs).length)), .val (.int (Int32.ofNat (cs).length)), .val (.ref b105)] [(.ref vb), (.int (0 : Int32)), (.ref b105), (.int (0 : Int32)), (.ref vb)])) rfl rfl (hb hby d_rm_crb_20) _ ?_
    rw [len_of S108 M108]
    refine XS.iloadN X105.here hx rfl (hb hby d_rm_crb_21) rfl ?_
    refine XS.isub X105.here hx rfl (hb hby d_rm_crb_22) rfl ?_
    refine XS.iloadN X105.here hx rfl (hb hby d_rm_crb_23) rfl ?_
    refine st110 _ ?_
    exact κ
  obtain ⟨T112, h112, L112, X112, e112, N112, K112, V112a, st112⟩ := cpA X110 hx hZ hown (hw _ (List.mem_of_getElem? (i := 164) rfl)) (hw _ (List.mem_of_getElem? (i := 118) rfl)) (hw _ (List.mem_of_getElem? (i := 116) rfl)) (hw _ (List.mem_of_getElem? (i := 117) rfl)) eq110 f107 (V105.pad (pad_rep ((([]).map (fun c : Int32 => c.toInt8.toInt32)).map Value.int) (.int 0) 16)) (Or.inl ⟨rfl, rfl⟩) (by decide) (own_nn (by decide)) (own_nn (by omega : (cs).length < 2 ^ 31)) (by rw [own_ofn (by omega : (cs).length < 2 ^ 31)]; show 0 + _ ≤ 16; omega) (by show 0 + _ ≤ _; omega) rfl (by rw [own_ofn (by omega : (cs).length < 2 ^ 31)]; show 0 + _ ≤ 16; omega) N110 (Nat.le_trans Z0 (Nat.le_of_eq g105.symm)) (g := (mkF m 27 #[.val (.ref vb), .val (.int (0 : Int32)), .val (.int (Int32.ofNat (cs).length)), .val (.int (Int32.ofNat (cs).length)), .val (.ref b105)] [(.int (Int32.ofNat (cs).length)), (.int (0 : Int32)), (.ref b105), (.int (0 : Int32)), (.ref vb)])) rfl (by rw [hml]; rfl) rfl (hb hby d_rm_crb_27) (by decide) (W := 0) (by show 2 * 0 + _ ≤ _; exact Nat.le_of_eq rfl) (by decide)
  have pq113 : ∀ τ, Steps pP.tables e below (T112.setTop (mkF m 30 #[.val (.ref vb), .val (.int (0 : Int32)), .val (.int (Int32.ofNat (cs).length)), .val (.int (Int32.ofNat (cs).length)), .val (.ref b105)] [])) τ → Steps pP.tables e below A0 τ := by
    intro τ κ
    refine pq111 τ ?_
    refine st112 _ ?_
    exact κ
  have KC112 : Keep h0 h112 [] := KC105.trans K112 (allS (Or.inr (Nat.le_trans (Nat.le_refl _) (Nat.le_of_eq g105.symm))) all0)
  have V112 : Arv Z h112 b105 k105 .byte (Int32.ofNat (cs).length) (((([] ++ cs)).map (fun c : Int32 => c.toInt8.toInt32)).map Value.int) (.int 0) := own_cpres (bs := []) (cs := cs) (by decide) (by omega : (cs).length < 2 ^ 31) V112a
  obtain ⟨fs, hrE, hrun, hended, hW, hsame⟩ := X112.leave (v := some (.ref b105)) (fun h => by rw [Bd.returns] at h; cases h)
  have pqE := pq113
  rw [hA0] at pqE
  refine ⟨_, _, pqE _ ?_, hrun, hended, _, _, rfl, ?_, ⟨_, rfl⟩, hW, hsame.mono (by decide) (by decide)⟩
  · refine XS.aload X112.here hx rfl (hb hby d_rm_crb_30) rfl rfl ?_
    show Steps pP.tables e below (T112.setTop (mkF m 32 #[.val (.ref vb), .val (.int (0 : Int32)), .val (.int (Int32.ofNat (cs).length)), .val (.int (Int32.ofNat (cs).length)), .val (.ref b105)] [(.ref b105)])) _
    exact retOut X112 hx Bd.returns rfl (Or.inr (Or.inr (Or.inr (Or.inr ⟨rfl, rfl, rfl⟩)))) (hb hby d_rm_crb_32) hrE
  · show Q_cor Z cs h0 n0 _ T112.heap _
    rw [e112]
    exact ⟨b105, _, rfl, N112, KC112, (Nat.le_trans (Nat.le_refl _) (Nat.le_of_eq g105.symm)), V112⟩
theorem d_rm_cor_0 : decode jdk_65_method_132_code 0 = .ok (.iload_n 1, 1) := by decide +kernel
theorem d_rm_cor_1 : decode jdk_65_method_132_code 1 = .ok (.ifCond .ne 9, 3) := by decide +kernel
theorem d_rm_cor_4 : decode jdk_65_method_132_code 4 = .ok (.iload_n 2, 1) := by decide +kernel
theorem d_rm_cor_5 : decode jdk_65_method_132_code 5 = .ok (.aload_n 0, 1) := by decide +kernel
theorem d_rm_cor_6 : decode jdk_65_method_132_code 6 = .ok (.arraylength, 1) := by decide +kernel
theorem d_rm_cor_7 : decode jdk_65_method_132_code 7 = .ok (.if_icmp .eq 10, 3) := by decide +kernel
theorem d_rm_cor_10 : decode jdk_65_method_132_code 10 = .ok (.aload_n 0, 1) := by decide +kernel
theorem d_rm_cor_11 : decode jdk_65_method_132_code 11 = .ok (.iload_n 1, 1) := by decide +kernel
theorem d_rm_cor_12 : decode jdk_65_method_132_code 12 = .ok (.iload_n 2, 1) := by decide +kernel
theorem d_rm_cor_13 : decode jdk_65_method_132_code 13 = .ok (.invokestatic 339, 3) := by decide +kernel
theorem d_rm_cor_16 : decode jdk_65_method_132_code 16 = .ok (.areturn, 1) := by decide +kernel
theorem ef_rm_cor (m : MethodId) (x0 : Addr) (x1 : Int32) (x2 : Int32) : entryFrame m #[(.ref x0), (.int x1), (.int x2)] 3 = mkF m 0 #[.val (.ref x0), .val (.int x1), .val (.int x2)] [] := by first | (simp [entryFrame, mkF, argsToLocals, Value.category]; done) | rfl
set_option maxRecDepth 65536 in
set_option maxHeartbeats 3000000 in
theorem rm_cor (l : Launch) (Z : State) (a0 : Array Value) (hw : ∀ d ∈ tables_1, d.before a0 Z = true) (ws : List Jvm.Cond) (vb : Addr) (kv : ClassId) (cs : List Int32) (h0 : Heap) (n0 : Nat) (Z0 : n0 ≤ h0.size) (V_sb : Arv Z h0 vb kv .byte 16 (((cs).map (fun c : Int32 => c.toInt8.toInt32)).map Value.int) (.int 0)) (hl : (cs).length ≤ 15) :
    MetFree l (⟨"java/util/Arrays", "copyOfRange", "([BII)[B"⟩ : MethodName) (head1 (Jvm.Cond.code (⟨"java/util/Arrays", "copyOfRange", "([BII)[B"⟩ : MethodName) jdk_65_method_132_code 3 (some (.array .byte)) :: ws) ({ frames := 2, cells := 1, slots := 16, locals := 34 } : Room)) (fun αs U => αs = #[(.ref vb), (.int (0 : Int32)), (.int (Int32.ofNat (cs).length))] ∧ Z.Warmed39 U.vm ∧ U.heap = h0) (fun _ _ _ _ _ => True) (fun _ U o U' => ∃ v L, o = .returned v ∧ Q_cor Z cs h0 n0 v U'.heap L ∧ FrameEnd U o U' L ({ frames := 2, cells := 1, slots := 16, locals := 34 } : Room).cells ({ frames := 2, cells := 1, slots := 16, locals := 34 } : Room).slots) := by
  refine MetFree.of_bodySF (plainFor_of_name pno_3) hisR ?_
  intro pP e s m args below meth cC s₁ Bd hml0 hP hK
  obtain ⟨rfl, hZ, hh⟩ := hP
  have hx := Bd.exec
  have hby := Bd.bytes
  have hml : cC.maxLocals = 3 := hml0
  have hown : s.vm.findClass "java/util/Arrays" = some m.cls := findClass_of_methodNamed Bd.named
  have hnm := (name_of_methodNamed Bd.named Bd.method).1
  have X0 : Stand pP l e ({ frames := 2, cells := 1, slots := 16, locals := 34 } : Room) s m #[(.ref vb), (.int (0 : Int32)), (.int (Int32.ofNat (cs).length))] below meth cC s₁ [] 0 0 := Stand.of_body Bd
  have e0 : s₁.heap = h0 := by rw [← hh, Bd.state]; rfl
  have N0 := Fr.nil n0
  have KC0 : Keep h0 h0 [] := Keep.refl h0 _
  obtain ⟨A0, hA0⟩ : ∃ z, z = s₁.setTop (entryFrame m #[(.ref vb), (.int (0 : Int32)), (.int (Int32.ofNat (cs).length))] 3) := ⟨_, rfl⟩
  have pre0 : ∀ τ, Steps pP.tables e below (s₁.setTop (mkF m 0 #[.val (.ref vb), .val (.int (0 : Int32)), .val (.int (Int32.ofNat (cs).length))] [])) τ → Steps pP.tables e below A0 τ := fun τ κ => by rw [hA0]; exact castTop (ef_rm_cor m vb (0 : Int32) (Int32.ofNat (cs).length)) κ
  obtain ⟨cl101, Ar101, q101, S101, M101, Hs101, G101⟩ := id V_sb
  obtain ⟨_, _, ⟨T102, L102, k102, n102⟩, -, X102, ⟨Lc102, hQ102, l102, y102, z102⟩, st102⟩ := Jvm.LawKit.callS X0 hx (y := (⟨"java/util/Arrays", "copyOfRangeByte", "([BII)[B"⟩ : MethodName)) hown (mvT hZ (hw _ (List.mem_of_getElem? (i := 154) rfl))) (mvT hZ (hw _ (List.mem_of_getElem? (i := 155) rfl))) (mvT hZ (hw _ (List.mem_of_getElem? (i := 152) rfl))) (mvT hZ (hw _ (List.mem_of_getElem? (i := 156) rfl))) (by decide) (backOf (W := 0) (rm_crb l Z a0 hw [] vb kv cs h0 n0 Z0 V_sb hl) hZ (hw _ (List.mem_of_getElem? (i := 156) rfl)) (hw _ (List.mem_of_getElem? (i := 152) rfl)) (by decide) (by decide)) (g := (mkF m 13 #[.val (.ref vb), .val (.int (0 : Int32)), .val (.int (Int32.ofNat (cs).length))] [(.int (Int32.ofNat (cs).length)), (.int (0 : Int32)), (.ref vb)])) rfl (by rw [hml]; rfl) (argsL := [(.ref vb), (.int (0 : Int32)), (.int (Int32.ofNat (cs).length))]) (rest := []) (lenOf pdo_10 rfl) rfl (by show 2 * 0 + _ ≤ _; exact Nat.le_of_eq rfl) (hb hby d_rm_cor_13) (fun _ _ => ⟨rfl, e0, (by decide : 0 + 1 ≤ _), (by decide : 0 + 16 ≤ _)⟩)
  dsimp only [Pt.U, Pt.locs, Pt.cells, Pt.slots] at X102 l102 y102 z102 st102 hQ102
  subst l102 y102 z102
  obtain ⟨b102, kb102, rfl, Nq102, K102, lb102, V102⟩ := hQ102
  have N102 := Fr.app N0 Nq102
  have pq103 : ∀ τ, Steps pP.tables e below (T102.setTop (mkF m 16 #[.val (.ref vb), .val (.int (0 : Int32)), .val (.int (Int32.ofNat (cs).length))] [(.ref b102)])) τ → Steps pP.tables e below A0 τ := by
    intro τ κ
    refine pre0 τ ?_
    refine XS.iloadN X0.here hx rfl (hb hby d_rm_cor_0) rfl ?_
    refine XS.ifNo X0.here hx rfl (hb hby d_rm_cor_1) rfl ((if0 _ _).trans (teq (by decide : ((0 : Int32) = (0 : Int32)))).2) ?_
    refine XS.iloadN X0.here hx rfl (hb hby d_rm_cor_4) rfl ?_
    refine XS.aloadN X0.here hx rfl (hb hby d_rm_cor_5) rfl rfl ?_
    refine X0.arraylength hx (by rw [e0]; exact Ar101.1) (State.isArrayOf_alike hZ.alike Ar101.2.1) (g := (mkF m 6 #[.val (.ref vb), .val (.int (0 : Int32)), .val (.int (Int32.ofNat (cs).length))] [(.ref vb), (.int (Int32.ofNat (cs).length))])) rfl rfl (hb hby d_rm_cor_6) _ ?_
    rw [len_of S101 M101]
    refine XS.icmpNo X0.here hx rfl (hb hby d_rm_cor_7) rfl (feq (own_not16 hl)).1 ?_
    refine XS.aloadN X0.here hx rfl (hb hby d_rm_cor_10) rfl rfl ?_
    refine XS.iloadN X0.here hx rfl (hb hby d_rm_cor_11) rfl ?_
    refine XS.iloadN X0.here hx rfl (hb hby d_rm_cor_12) rfl ?_
    refine st102 _ ?_
    exact κ
  have KC102 : Keep h0 T102.heap [] := KC0.trans K102 all0
  obtain ⟨fs, hrE, hrun, hended, hW, hsame⟩ := X102.leave (v := some (.ref b102)) (fun h => by rw [Bd.returns] at h; cases h)
  have pqE := pq103
  rw [hA0] at pqE
  refine ⟨_, _, pqE _ ?_, hrun, hended, _, _, rfl, ?_, ⟨_, rfl⟩, hW, hsame.mono (by decide) (by decide)⟩
  · show Steps pP.tables e below (T102.setTop (mkF m 16 #[.val (.ref vb), .val (.int (0 : Int32)), .val (.int (Int32.ofNat (cs).length))] [(.ref b102)])) _
    exact retOut X102 hx Bd.returns rfl (Or.inr (Or.inr (Or.inr (Or.inr ⟨rfl, rfl, rfl⟩)))) (hb hby d_rm_cor_16) hrE
  · show Q_cor Z cs h0 n0 _ T102.heap _
    exact ⟨b102, _, rfl, N102, KC102, (Nat.le_trans (Nat.le_refl _) lb102), V102⟩
def Q_sfb (Z : State) (a : Addr) (cs : List Int32) (h0 : Heap) (n0 : Nat) (v : Option Value) (h : Heap) (L : List Loc) : Prop := ∃ (t : Addr) (kb : ClassId), v = none ∧ Fr n0 L ∧ Keep h0 h [a] ∧ h0.size ≤ t ∧ Exa Z h a "java/lang/String" ∧ Fld Z h a "java/lang/String" "coder" "B" (.int 0) ∧ Fld Z h a "java/lang/String" "value" "[B" (.ref t) ∧ Arv Z h t kb .byte (Int32.ofNat (cs).length) (((cs).map (fun c : Int32 => c.toInt8.toInt32)).map Value.int) (.int 0)
theorem d_rm_sfa_0 : decode jdk_42_method_150_code 0 = .ok (.aload_n 0, 1) := by decide +kernel
theorem d_rm_sfa_1 : decode jdk_42_method_150_code 1 = .ok (.invokespecial 1, 3) := by decide +kernel
theorem d_rm_sfa_4 : decode jdk_42_method_150_code 4 = .ok (.aload_n 1, 1) := by decide +kernel
theorem d_rm_sfa_5 : decode jdk_42_method_150_code 5 = .ok (.invokevirtual 552, 3) := by decide +kernel
theorem d_rm_sfa_8 : decode jdk_42_method_150_code 8 = .ok (.astore_n 3, 1) := by decide +kernel
theorem d_rm_sfa_9 : decode jdk_42_method_150_code 9 = .ok (.aload_n 1, 1) := by decide +kernel
theorem d_rm_sfa_10 : decode jdk_42_method_150_code 10 = .ok (.invokevirtual 549, 3) := by decide +kernel
theorem d_rm_sfa_13 : decode jdk_42_method_150_code 13 = .ok (.istore 4, 2) := by decide +kernel
theorem d_rm_sfa_15 : decode jdk_42_method_150_code 15 = .ok (.aload_n 1, 1) := by decide +kernel
theorem d_rm_sfa_16 : decode jdk_42_method_150_code 16 = .ok (.invokevirtual 1047, 3) := by decide +kernel
theorem d_rm_sfa_19 : decode jdk_42_method_150_code 19 = .ok (.ifCond .eq 22, 3) := by decide +kernel
theorem d_rm_sfa_22 : decode jdk_42_method_150_code 22 = .ok (.aload_n 0, 1) := by decide +kernel
theorem d_rm_sfa_23 : decode jdk_42_method_150_code 23 = .ok (.iconst 0, 1) := by decide +kernel
theorem d_rm_sfa_24 : decode jdk_42_method_150_code 24 = .ok (.putfield 15, 3) := by decide +kernel
theorem d_rm_sfa_27 : decode jdk_42_method_150_code 27 = .ok (.aload_n 0, 1) := by decide +kernel
theorem d_rm_sfa_28 : decode jdk_42_method_150_code 28 = .ok (.aload_n 3, 1) := by decide +kernel
theorem d_rm_sfa_29 : decode jdk_42_method_150_code 29 = .ok (.iconst 0, 1) := by decide +kernel
theorem d_rm_sfa_30 : decode jdk_42_method_150_code 30 = .ok (.iload 4, 2) := by decide +kernel
theorem d_rm_sfa_32 : decode jdk_42_method_150_code 32 = .ok (.invokestatic 54, 3) := by decide +kernel
theorem d_rm_sfa_35 : decode jdk_42_method_150_code 35 = .ok (.putfield 9, 3) := by decide +kernel
theorem d_rm_sfa_38 : decode jdk_42_method_150_code 38 = .ok (.goto 59, 3) := by decide +kernel
theorem d_rm_sfa_97 : decode jdk_42_method_150_code 97 = .ok (.return_, 1) := by decide +kernel
theorem ef_rm_sfa (m : MethodId) (x0 : Addr) (x1 : Addr) : entryFrame m #[(.ref x0), (.ref x1), .null] 5 = mkF m 0 #[.val (.ref x0), .val (.ref x1), .val .null, .unset, .unset] [] := by first | (simp [entryFrame, mkF, argsToLocals, Value.category]; done) | rfl
set_option maxRecDepth 65536 in
set_option maxHeartbeats 3000000 in
theorem rm_sfa (l : Launch) (Z : State) (a0 : Array Value) (hw : ∀ d ∈ tables_1, d.before a0 Z = true) (ws : List Jvm.Cond) (a : Addr) (sb vb : Addr) (kv : ClassId) (cs : List Int32) (G1 : Int32) (h0 : Heap) (n0 : Nat) (Z0 : n0 ≤ h0.size) (O2 : Sta Z Z.heap "java/lang/String" "COMPACT_STRINGS" "Z" (.int G1)) (P5 : ¬ (G1 = (0 : Int32))) (X00 : Old Z n0 h0) (E_a : Exa Z h0 a "java/lang/String") (ga : n0 ≤ a) (F_v : Fld Z h0 a "java/lang/String" "value" "[B" .null) (F_c : Fld Z h0 a "java/lang/String" "coder" "B" (.int (0 : Int32))) (E_sb : Exa Z h0 sb "java/lang/StringBuilder") (F_sv : Fld Z h0 sb "java/lang/AbstractStringBuilder" "value" "[B" (.ref vb)) (F_sc : Fld Z h0 sb "java/lang/AbstractStringBuilder" "coder" "B" (.int 0)) (F_sn : Fld Z h0 sb "java/lang/AbstractStringBuilder" "count" "I" (.int (Int32.ofNat (cs).length))) (V_sb : Arv Z h0 vb kv .byte 16 (((cs).map (fun c : Int32 => c.toInt8.toInt32)).map Value.int) (.int 0)) (hl : (cs).length ≤ 15) :
    MetFree l (⟨"java/lang/String", "<init>", "(Ljava/lang/AbstractStringBuilder;Ljava/lang/Void;)V"⟩ : MethodName) (head1 (Jvm.Cond.code (⟨"java/lang/String", "<init>", "(Ljava/lang/AbstractStringBuilder;Ljava/lang/Void;)V"⟩ : MethodName) jdk_42_method_150_code 5 none :: ws) ({ frames := 3, cells := 1, slots := 16, locals := 49 } : Room)) (fun αs U => αs = #[(.ref a), (.ref sb), .null] ∧ Z.Warmed39 U.vm ∧ U.heap = h0) (fun _ _ _ _ _ => True) (fun _ U o U' => ∃ v L, o = .returned v ∧ Q_sfb Z a cs h0 n0 v U'.heap L ∧ FrameEnd U o U' L ({ frames := 3, cells := 1, slots := 16, locals := 49 } : Room).cells ({ frames := 3, cells := 1, slots := 16, locals := 49 } : Room).slots) := by
  refine MetFree.of_bodySF (plainFor_of_name pno_0) hisR ?_
  intro pP e s m args below meth cC s₁ Bd hml0 hP hK
  obtain ⟨rfl, hZ, hh⟩ := hP
  have hx := Bd.exec
  have hby := Bd.bytes
  have hml : cC.maxLocals = 5 := hml0
  have hown : s.vm.findClass "java/lang/String" = some m.cls := findClass_of_methodNamed Bd.named
  have hnm := (name_of_methodNamed Bd.named Bd.method).1
  have X0 : Stand pP l e ({ frames := 3, cells := 1, slots := 16, locals := 49 } : Room) s m #[(.ref a), (.ref sb), .null] below meth cC s₁ [] 0 0 := Stand.of_body Bd
  have e0 : s₁.heap = h0 := by rw [← hh, Bd.state]; rfl
  have N0 := Fr.nil n0
  have KC0 : Keep h0 h0 [a] := Keep.refl h0 _
  obtain ⟨A0, hA0⟩ : ∃ z, z = s₁.setTop (entryFrame m #[(.ref a), (.ref sb), .null] 5) := ⟨_, rfl⟩
  have pre0 : ∀ τ, Steps pP.tables e below (s₁.setTop (mkF m 0 #[.val (.ref a), .val (.ref sb), .val .null, .unset, .unset] [])) τ → Steps pP.tables e below A0 τ := fun τ κ => by rw [hA0]; exact castTop (ef_rm_sfa m a sb) κ
  obtain ⟨T101, X101, e101, st101⟩ := initO X0 hx hZ hown (hw _ (List.mem_of_getElem? (i := 16) rfl)) (hw _ (List.mem_of_getElem? (i := 17) rfl)) (hw _ (List.mem_of_getElem? (i := 18) rfl)) e0 (g := (mkF m 1 #[.val (.ref a), .val (.ref sb), .val .null, .unset, .unset] [(.ref a)])) rfl (by rw [hml]; rfl) rfl (hb hby d_rm_sfa_1) (by decide) (W := 0) (by show 2 * 0 + _ ≤ _; exact Nat.le_of_eq rfl) (by decide)
  have pq102 : ∀ τ, Steps pP.tables e below (T101.setTop (mkF m 4 #[.val (.ref a), .val (.ref sb), .val .null, .unset, .unset] [])) τ → Steps pP.tables e below A0 τ := by
    intro τ κ
    refine pre0 τ ?_
    refine XS.aloadN X0.here hx rfl (hb hby d_rm_sfa_0) rfl rfl ?_
    refine st101 _ ?_
    exact κ
  obtain ⟨cq104, kq104, q104a, q104b, q104c⟩ := isOf hZ e101 E_sb
  obtain ⟨_, _, ⟨T103, L103, k103, n103⟩, -, X103, ⟨Lc103, hQ103, l103, y103, z103⟩, st103⟩ := X101.virtualBack hx (y := (⟨"java/lang/AbstractStringBuilder", "getValue", "()[B"⟩ : MethodName)) (z := (⟨"java/lang/AbstractStringBuilder", "getValue", "()[B"⟩ : MethodName)) hown (mvT hZ (hw _ (List.mem_of_getElem? (i := 132) rfl))) (mvT hZ (hw _ (List.mem_of_getElem? (i := 133) rfl))) (notFace_of_selects (args := #[]) (mvT hZ (hw _ (List.mem_of_getElem? (i := 135) rfl)))) (mvT hZ (hw _ (List.mem_of_getElem? (i := 135) rfl))) (mvT hZ (hw _ (List.mem_of_getElem? (i := 134) rfl))) (by decide) (backOf (W := 0) (rm_gv l Z a0 hw [] sb vb h0 n0 Z0 F_sv) hZ (hw _ (List.mem_of_getElem? (i := 136) rfl)) (hw _ (List.mem_of_getElem? (i := 63) rfl)) (by decide) (by decide)) q104a q104c (g := (mkF m 5 #[.val (.ref a), .val (.ref sb), .val .null, .unset, .unset] [(.ref sb)])) rfl (by rw [hml]; rfl) (Steps.refl _) (argsL := []) (rest := []) (lenOf pdo_11 rfl) rfl (by show 2 * 0 + _ ≤ _; exact Nat.le_of_eq rfl) (hb hby d_rm_sfa_5) (fun _ _ => ⟨rfl, e101, (by decide : 0 + 0 ≤ _), (by decide : 0 + 0 ≤ _)⟩)
  dsimp only [Pt.U, Pt.locs, Pt.cells, Pt.slots] at X103 l103 y103 z103 st103 hQ103
  subst l103 y103 z103
  obtain ⟨rfl, Nq103, eq103⟩ := hQ103
  have N103 := Fr.app N0 Nq103
  have pq105 : ∀ τ, Steps pP.tables e below (T103.setTop (mkF m 8 #[.val (.ref a), .val (.ref sb), .val .null, .unset, .unset] [(.ref vb)])) τ → Steps pP.tables e below A0 τ := by
    intro τ κ
    refine pq102 τ ?_
    refine XS.aloadN X101.here hx rfl (hb hby d_rm_sfa_4) rfl rfl ?_
    refine st103.trans ?_
    exact κ
  obtain ⟨cq107, kq107, q107a, q107b, q107c⟩ := isOf hZ eq103 E_sb
  obtain ⟨_, _, ⟨T106, L106, k106, n106⟩, -, X106, ⟨Lc106, hQ106, l106, y106, z106⟩, st106⟩ := X103.virtualBack hx (y := (⟨"java/lang/AbstractStringBuilder", "length", "()I"⟩ : MethodName)) (z := (⟨"java/lang/StringBuilder", "length", "()I"⟩ : MethodName)) hown (mvT hZ (hw _ (List.mem_of_getElem? (i := 137) rfl))) (mvT hZ (hw _ (List.mem_of_getElem? (i := 138) rfl))) (own_notFace (args := #[]) (z := (⟨"java/lang/AbstractStringBuilder", "ensureCapacityInternal", "(I)V"⟩ : MethodName)) (mvT hZ (hw _ (List.mem_of_getElem? (i := 97) rfl))) rfl) (mvT hZ (hw _ (List.mem_of_getElem? (i := 140) rfl))) (mvT hZ (hw _ (List.mem_of_getElem? (i := 141) rfl))) (by decide) (backOf (W := 0) (rm_sl l Z a0 hw [] sb (Int32.ofNat (cs).length) h0 n0 Z0 E_sb F_sn) hZ (hw _ (List.mem_of_getElem? (i := 142) rfl)) (hw _ (List.mem_of_getElem? (i := 55) rfl)) (by decide) (by decide)) q107a q107c (g := (mkF m 10 #[.val (.ref a), .val (.ref sb), .val .null, .val (.ref vb), .unset] [(.ref sb)])) rfl (by rw [hml]; rfl) (Steps.refl _) (argsL := []) (rest := []) (lenOf pdo_4 rfl) rfl (by show 2 * 0 + _ ≤ _; exact Nat.le_of_eq rfl) (hb hby d_rm_sfa_10) (fun _ _ => ⟨rfl, eq103, (by decide : 0 + 0 ≤ _), (by decide : 0 + 0 ≤ _)⟩)
  dsimp only [Pt.U, Pt.locs, Pt.cells, Pt.slots] at X106 l106 y106 z106 st106 hQ106
  subst l106 y106 z106
  obtain ⟨rfl, Nq106, eq106⟩ := hQ106
  have N106 := Fr.app N103 Nq106
  have pq108 : ∀ τ, Steps pP.tables e below (T106.setTop (mkF m 13 #[.val (.ref a), .val (.ref sb), .val .null, .val (.ref vb), .unset] [(.int (Int32.ofNat (cs).length))])) τ → Steps pP.tables e below A0 τ := by
    intro τ κ
    refine pq105 τ ?_
    refine XS.astoreN X103.here hx rfl (hb hby d_rm_sfa_8) rfl rfl (l' := #[.val (.ref a), .val (.ref sb), .val .null, .val (.ref vb), .unset]) rfl ?_
    refine XS.aloadN X103.here hx rfl (hb hby d_rm_sfa_9) rfl rfl ?_
    refine st106.trans ?_
    exact κ
  obtain ⟨cq110, kq110, q110a, q110b, q110c⟩ := isOf hZ eq106 E_sb
  obtain ⟨_, _, ⟨T109, L109, k109, n109⟩, -, X109, ⟨Lc109, hQ109, l109, y109, z109⟩, st109⟩ := X106.virtualBack hx (y := (⟨"java/lang/AbstractStringBuilder", "isLatin1", "()Z"⟩ : MethodName)) (z := (⟨"java/lang/AbstractStringBuilder", "isLatin1", "()Z"⟩ : MethodName)) hown (mvT hZ (hw _ (List.mem_of_getElem? (i := 145) rfl))) (mvT hZ (hw _ (List.mem_of_getElem? (i := 146) rfl))) (notFace_of_selects (args := #[]) (mvT hZ (hw _ (List.mem_of_getElem? (i := 148) rfl)))) (mvT hZ (hw _ (List.mem_of_getElem? (i := 148) rfl))) (mvT hZ (hw _ (List.mem_of_getElem? (i := 147) rfl))) (by decide) (backOf (W := 0) (rm_isl l Z a0 hw [] sb G1 h0 n0 Z0 O2 P5 X00 F_sc) hZ (hw _ (List.mem_of_getElem? (i := 149) rfl)) (hw _ (List.mem_of_getElem? (i := 63) rfl)) (by decide) (by decide)) q110a q110c (g := (mkF m 16 #[.val (.ref a), .val (.ref sb), .val .null, .val (.ref vb), .val (.int (Int32.ofNat (cs).length))] [(.ref sb)])) rfl (by rw [hml]; rfl) (Steps.refl _) (argsL := []) (rest := []) (lenOf pdo_12 rfl) rfl (by show 2 * 0 + _ ≤ _; exact Nat.le_of_eq rfl) (hb hby d_rm_sfa_16) (fun _ _ => ⟨rfl, eq106, (by decide : 0 + 0 ≤ _), (by decide : 0 + 0 ≤ _)⟩)
  dsimp only [Pt.U, Pt.locs, Pt.cells, Pt.slots] at X109 l109 y109 z109 st109 hQ109
  subst l109 y109 z109
  obtain ⟨rfl, Nq109, eq109⟩ := hQ109
  have N109 := Fr.app N106 Nq109
  have pq111 : ∀ τ, Steps pP.tables e below (T109.setTop (mkF m 19 #[.val (.ref a), .val (.ref sb), .val .null, .val (.ref vb), .val (.int (Int32.ofNat (cs).length))] [(.int (1 : Int32))])) τ → Steps pP.tables e below A0 τ := by
    intro τ κ
    refine pq108 τ ?_
    refine XS.istore X106.here hx rfl (hb hby d_rm_sfa_13) rfl (l' := #[.val (.ref a), .val (.ref sb), .val .null, .val (.ref vb), .val (.int (Int32.ofNat (cs).length))]) rfl ?_
    refine XS.aloadN X106.here hx rfl (hb hby d_rm_sfa_15) rfl rfl ?_
    refine st109.trans ?_
    exact κ
  obtain ⟨T112, h112, X112, e112, W112, st112⟩ := putFN X109 hx hZ hown (hw _ (List.mem_of_getElem? (i := 26) rfl)) Via.refl eq109 F_c E_a (Or.inr ⟨(hw _ (List.mem_of_getElem? (i := 22) rfl)), rfl, hnm⟩) (hw _ (List.mem_of_getElem? (i := 6) rfl)) (ty := .byte) (v' := (.int (0 : Int32))) (by decide) rfl (by decide) (g := (mkF m 24 #[.val (.ref a), .val (.ref sb), .val .null, .val (.ref vb), .val (.int (Int32.ofNat (cs).length))] [(.int (0 : Int32)), (.ref a)])) rfl rfl (hb hby d_rm_sfa_24)
  have pq113 : ∀ τ, Steps pP.tables e below (T112.setTop (mkF m 27 #[.val (.ref a), .val (.ref sb), .val .null, .val (.ref vb), .val (.int (Int32.ofNat (cs).length))] [])) τ → Steps pP.tables e below A0 τ := by
    intro τ κ
    refine pq111 τ ?_
    refine XS.ifNo X109.here hx rfl (hb hby d_rm_sfa_19) rfl ((if0 _ _).trans (feq (by decide : ¬ ((1 : Int32) = (0 : Int32)))).1) ?_
    refine XS.aloadN X109.here hx rfl (hb hby d_rm_sfa_22) rfl rfl ?_
    refine XS.iconst X109.here hx rfl (hb hby d_rm_sfa_23) ?_
    refine st112 _ ?_
    exact κ
  have KC112 : Keep h0 h112 [a] := KC0.wr W112 (Or.inl (List.mem_of_getElem? (i := 0) rfl))
  have Fw112 := F_c.same W112
  have N112 := Fr.snoc X112 N109 ga
  have f114 := (V_sb.other W112 (Ne.symm (own_ne_arv E_a (hw _ (List.mem_of_getElem? (i := 6) rfl)) V_sb)))
  have f115 := (Nat.le_trans Z0 (Keep.of_wr W112).1)
  obtain ⟨_, _, ⟨T116, L116, k116, n116⟩, -, X116, ⟨Lc116, hQ116, l116, y116, z116⟩, st116⟩ := Jvm.LawKit.callS X112 hx (y := (⟨"java/util/Arrays", "copyOfRange", "([BII)[B"⟩ : MethodName)) hown (mvT hZ (hw _ (List.mem_of_getElem? (i := 150) rfl))) (mvT hZ (hw _ (List.mem_of_getElem? (i := 151) rfl))) (mvT hZ (hw _ (List.mem_of_getElem? (i := 152) rfl))) (mvT hZ (hw _ (List.mem_of_getElem? (i := 153) rfl))) (by decide) (backOf (W := 1) (rm_cor l Z a0 hw [] vb kv cs h112 n0 f115 f114 hl) hZ (hw _ (List.mem_of_getElem? (i := 153) rfl)) (hw _ (List.mem_of_getElem? (i := 152) rfl)) (by decide) (by decide)) (g := (mkF m 32 #[.val (.ref a), .val (.ref sb), .val .null, .val (.ref vb), .val (.int (Int32.ofNat (cs).length))] [(.int (Int32.ofNat (cs).length)), (.int (0 : Int32)), (.ref vb), (.ref a)])) rfl (by rw [hml]; rfl) (argsL := [(.ref vb), (.int (0 : Int32)), (.int (Int32.ofNat (cs).length))]) (rest := [(.ref a)]) (lenOf pdo_10 rfl) rfl (by show 2 * 0 + _ ≤ _; exact Nat.le_of_eq rfl) (hb hby d_rm_sfa_32) (fun _ _ => ⟨rfl, e112, (by decide : 0 + 1 ≤ _), (by decide : 0 + 16 ≤ _)⟩)
  dsimp only [Pt.U, Pt.locs, Pt.cells, Pt.slots] at X116 l116 y116 z116 st116 hQ116
  subst l116 y116 z116
  obtain ⟨b116, kb116, rfl, Nq116, K116, lb116, V116⟩ := hQ116
  have N116 := Fr.app N112 Nq116
  have pq117 : ∀ τ, Steps pP.tables e below (T116.setTop (mkF m 35 #[.val (.ref a), .val (.ref sb), .val .null, .val (.ref vb), .val (.int (Int32.ofNat (cs).length))] [(.ref b116), (.ref a)])) τ → Steps pP.tables e below A0 τ := by
    intro τ κ
    refine pq113 τ ?_
    refine XS.aloadN X112.here hx rfl (hb hby d_rm_sfa_27) rfl rfl ?_
    refine XS.aloadN X112.here hx rfl (hb hby d_rm_sfa_28) rfl rfl ?_
    refine XS.iconst X112.here hx rfl (hb hby d_rm_sfa_29) ?_
    refine XS.iload X112.here hx rfl (hb hby d_rm_sfa_30) rfl ?_
    refine st116 _ ?_
    exact κ
  have KC116 : Keep h0 T116.heap [a] := KC112.trans K116 all0
  have f118 := ((E_a.wr W112).keep K116)
  have f119 := ((F_v.other W112 (Or.inr (slot_ne (Or.inr (hw _ (List.mem_of_getElem? (i := 21) rfl))) (Or.inr (hw _ (List.mem_of_getElem? (i := 22) rfl))) (by decide) (t := (.array .byte)) (t' := .byte) (by decide) (by decide)))).keep K116 nin0)
  obtain ⟨T120, h120, X120, e120, W120, st120⟩ := putF X116 hx hZ hown (host := "") (Or.inl (hw _ (List.mem_of_getElem? (i := 25) rfl))) Via.refl rfl f119 f118 (Or.inr ⟨(hw _ (List.mem_of_getElem? (i := 21) rfl)), rfl, hnm⟩) (hw _ (List.mem_of_getElem? (i := 6) rfl)) (ty := (.array .byte)) (by decide) rfl rfl (g := (mkF m 35 #[.val (.ref a), .val (.ref sb), .val .null, .val (.ref vb), .val (.int (Int32.ofNat (cs).length))] [(.ref b116), (.ref a)])) rfl rfl (hb hby d_rm_sfa_35)
  have pq121 : ∀ τ, Steps pP.tables e below (T120.setTop (mkF m 38 #[.val (.ref a), .val (.ref sb), .val .null, .val (.ref vb), .val (.int (Int32.ofNat (cs).length))] [])) τ → Steps pP.tables e below A0 τ := by
    intro τ κ
    refine pq117 τ ?_
    refine st120 _ ?_
    exact κ
  have KC120 : Keep h0 h120 [a] := KC116.wr W120 (Or.inl (List.mem_of_getElem? (i := 0) rfl))
  have Fw120 := f119.same W120
  have N120 := Fr.snoc X120 N116 ga
  have f122 := (f118.wr W120)
  have f123 := ((Fw112.keep K116 nin0).other W120 (Or.inr (slot_ne (Or.inr (hw _ (List.mem_of_getElem? (i := 22) rfl))) (Or.inr (hw _ (List.mem_of_getElem? (i := 21) rfl))) (by decide) (t := .byte) (t' := (.array .byte)) (by decide) (by decide))))
  have f124 := (V116.other W120 (Ne.symm (Nat.ne_of_lt (Nat.lt_of_lt_of_le (E_a.wr W112).lt lb116))))
  obtain ⟨fs, hrE, hrun, hended, hW, hsame⟩ := X120.leave (v := none) (fun _ => rfl)
  have pqE := pq121
  rw [hA0] at pqE
  refine ⟨_, _, pqE _ ?_, hrun, hended, _, _, rfl, ?_, ⟨_, rfl⟩, hW, hsame.mono (by decide) (by decide)⟩
  · refine XS.goto X120.here hx rfl (pc0 := 38) (pc' := 97) rfl (hb hby d_rm_sfa_38) (by decide) (by decide) ?_
    show Steps pP.tables e below (T120.setTop (mkF m 97 #[.val (.ref a), .val (.ref sb), .val .null, .val (.ref vb), .val (.int (Int32.ofNat (cs).length))] [])) _
    exact X120.returnOut hx Bd.returns (hb hby d_rm_sfa_97) hrE
  · show Q_sfb Z a cs h0 n0 _ T120.heap _
    rw [e120]
    exact ⟨b116, _, rfl, N120, KC120, (Nat.le_trans (Nat.le_trans (Nat.le_refl _) (Keep.of_wr W112).1) lb116), f122, f123, Fw120, f124⟩
theorem d_rm_sfb_0 : decode jdk_42_method_53_code 0 = .ok (.aload_n 0, 1) := by decide +kernel
theorem d_rm_sfb_1 : decode jdk_42_method_53_code 1 = .ok (.aload_n 1, 1) := by decide +kernel
theorem d_rm_sfb_2 : decode jdk_42_method_53_code 2 = .ok (.aconst_null, 1) := by decide +kernel
theorem d_rm_sfb_3 : decode jdk_42_method_53_code 3 = .ok (.invokespecial 489, 3) := by decide +kernel
theorem d_rm_sfb_6 : decode jdk_42_method_53_code 6 = .ok (.return_, 1) := by decide +kernel
theorem ef_rm_sfb (m : MethodId) (x0 : Addr) (x1 : Addr) : entryFrame m #[(.ref x0), (.ref x1)] 2 = mkF m 0 #[.val (.ref x0), .val (.ref x1)] [] := by first | (simp [entryFrame, mkF, argsToLocals, Value.category]; done) | rfl
set_option maxRecDepth 65536 in
set_option maxHeartbeats 3000000 in
theorem rm_sfb (l : Launch) (Z : State) (a0 : Array Value) (hw : ∀ d ∈ tables_1, d.before a0 Z = true) (ws : List Jvm.Cond) (a : Addr) (sb vb : Addr) (kv : ClassId) (cs : List Int32) (G1 : Int32) (h0 : Heap) (n0 : Nat) (Z0 : n0 ≤ h0.size) (O2 : Sta Z Z.heap "java/lang/String" "COMPACT_STRINGS" "Z" (.int G1)) (P5 : ¬ (G1 = (0 : Int32))) (X00 : Old Z n0 h0) (E_a : Exa Z h0 a "java/lang/String") (ga : n0 ≤ a) (F_v : Fld Z h0 a "java/lang/String" "value" "[B" .null) (F_c : Fld Z h0 a "java/lang/String" "coder" "B" (.int (0 : Int32))) (E_sb : Exa Z h0 sb "java/lang/StringBuilder") (F_sv : Fld Z h0 sb "java/lang/AbstractStringBuilder" "value" "[B" (.ref vb)) (F_sc : Fld Z h0 sb "java/lang/AbstractStringBuilder" "coder" "B" (.int 0)) (F_sn : Fld Z h0 sb "java/lang/AbstractStringBuilder" "count" "I" (.int (Int32.ofNat (cs).length))) (V_sb : Arv Z h0 vb kv .byte 16 (((cs).map (fun c : Int32 => c.toInt8.toInt32)).map Value.int) (.int 0)) (hl : (cs).length ≤ 15) :
    MetFree l (⟨"java/lang/String", "<init>", "(Ljava/lang/StringBuilder;)V"⟩ : MethodName) (head1 (Jvm.Cond.code (⟨"java/lang/String", "<init>", "(Ljava/lang/StringBuilder;)V"⟩ : MethodName) jdk_42_method_53_code 2 none :: ws) ({ frames := 4, cells := 1, slots := 16, locals := 65 } : Room)) (fun αs U => αs = #[(.ref a), (.ref sb)] ∧ Z.Warmed39 U.vm ∧ U.heap = h0) (fun _ _ _ _ _ => True) (fun _ U o U' => ∃ v L, o = .returned v ∧ Q_sfb Z a cs h0 n0 v U'.heap L ∧ FrameEnd U o U' L ({ frames := 4, cells := 1, slots := 16, locals := 65 } : Room).cells ({ frames := 4, cells := 1, slots := 16, locals := 65 } : Room).slots) := by
  refine MetFree.of_bodySF (plainFor_of_name pno_0) hisR ?_
  intro pP e s m args below meth cC s₁ Bd hml0 hP hK
  obtain ⟨rfl, hZ, hh⟩ := hP
  have hx := Bd.exec
  have hby := Bd.bytes
  have hml : cC.maxLocals = 2 := hml0
  have hown : s.vm.findClass "java/lang/String" = some m.cls := findClass_of_methodNamed Bd.named
  have hnm := (name_of_methodNamed Bd.named Bd.method).1
  have X0 : Stand pP l e ({ frames := 4, cells := 1, slots := 16, locals := 65 } : Room) s m #[(.ref a), (.ref sb)] below meth cC s₁ [] 0 0 := Stand.of_body Bd
  have e0 : s₁.heap = h0 := by rw [← hh, Bd.state]; rfl
  have N0 := Fr.nil n0
  have KC0 : Keep h0 h0 [a] := Keep.refl h0 _
  obtain ⟨A0, hA0⟩ : ∃ z, z = s₁.setTop (entryFrame m #[(.ref a), (.ref sb)] 2) := ⟨_, rfl⟩
  have pre0 : ∀ τ, Steps pP.tables e below (s₁.setTop (mkF m 0 #[.val (.ref a), .val (.ref sb)] [])) τ → Steps pP.tables e below A0 τ := fun τ κ => by rw [hA0]; exact castTop (ef_rm_sfb m a sb) κ
  obtain ⟨_, _, ⟨T101, L101, k101, n101⟩, -, X101, ⟨Lc101, hQ101, l101, y101, z101⟩, st101⟩ := X0.specialBack hx (y := (⟨"java/lang/String", "<init>", "(Ljava/lang/AbstractStringBuilder;Ljava/lang/Void;)V"⟩ : MethodName)) rfl hown (mvT hZ (hw _ (List.mem_of_getElem? (i := 129) rfl))) (mvT hZ (hw _ (List.mem_of_getElem? (i := 130) rfl))) (mvT hZ (hw _ (List.mem_of_getElem? (i := 131) rfl))) (by decide) (backOf (W := 0) (rm_sfa l Z a0 hw [] a sb vb kv cs G1 h0 n0 Z0 O2 P5 X00 E_a ga F_v F_c E_sb F_sv F_sc F_sn V_sb hl) hZ (hw _ (List.mem_of_getElem? (i := 131) rfl)) (hw _ (List.mem_of_getElem? (i := 7) rfl)) (by decide) (by decide)) (g := (mkF m 3 #[.val (.ref a), .val (.ref sb)] [.null, (.ref sb), (.ref a)])) rfl (by rw [hml]; rfl) (Steps.refl _) (a := a) (argsL := [(.ref sb), .null]) (rest := []) (lenOf pdo_13 rfl) rfl (by show 2 * 0 + _ ≤ _; exact Nat.le_of_eq rfl) (hb hby d_rm_sfb_3) (fun _ _ => ⟨rfl, e0, (by decide : 0 + 1 ≤ _), (by decide : 0 + 16 ≤ _)⟩)
  dsimp only [Pt.U, Pt.locs, Pt.cells, Pt.slots] at X101 l101 y101 z101 st101 hQ101
  subst l101 y101 z101
  obtain ⟨t101, kb101, rfl, Nq101, K101, lb101, Ex101, Fc101, Fv101, Vt101⟩ := hQ101
  have N101 := Fr.app N0 Nq101
  have pq102 : ∀ τ, Steps pP.tables e below (T101.setTop (mkF m 6 #[.val (.ref a), .val (.ref sb)] [])) τ → Steps pP.tables e below A0 τ := by
    intro τ κ
    refine pre0 τ ?_
    refine XS.aloadN X0.here hx rfl (hb hby d_rm_sfb_0) rfl rfl ?_
    refine XS.aloadN X0.here hx rfl (hb hby d_rm_sfb_1) rfl rfl ?_
    refine XS.aconstNull X0.here hx rfl (hb hby d_rm_sfb_2) ?_
    refine st101.trans ?_
    exact κ
  have KC101 : Keep h0 T101.heap [a] := KC0.trans K101 (allS (Or.inl (List.mem_of_getElem? (i := 0) rfl)) all0)
  obtain ⟨fs, hrE, hrun, hended, hW, hsame⟩ := X101.leave (v := none) (fun _ => rfl)
  have pqE := pq102
  rw [hA0] at pqE
  refine ⟨_, _, pqE _ ?_, hrun, hended, _, _, rfl, ?_, ⟨_, rfl⟩, hW, hsame.mono (by decide) (by decide)⟩
  · show Steps pP.tables e below (T101.setTop (mkF m 6 #[.val (.ref a), .val (.ref sb)] [])) _
    exact X101.returnOut hx Bd.returns (hb hby d_rm_sfb_6) hrE
  · show Q_sfb Z a cs h0 n0 _ T101.heap _
    exact ⟨t101, _, rfl, N101, KC101, (Nat.le_trans (Nat.le_refl _) lb101), Ex101, Fc101, Fv101, Vt101⟩
def Q_tos (Z : State) (cs : List Int32) (h0 : Heap) (n0 : Nat) (v : Option Value) (h : Heap) (L : List Loc) : Prop := ∃ (a t : Addr) (kb : ClassId), v = some (.ref a) ∧ Fr n0 L ∧ Keep h0 h [] ∧ h0.size ≤ a ∧ h0.size ≤ t ∧ Exa Z h a "java/lang/String" ∧ Fld Z h a "java/lang/String" "coder" "B" (.int 0) ∧ Fld Z h a "java/lang/String" "value" "[B" (.ref t) ∧ Arv Z h t kb .byte (Int32.ofNat (cs).length) (((cs).map (fun c : Int32 => c.toInt8.toInt32)).map Value.int) (.int 0)
theorem d_rm_tos_0 : decode jdk_67_method_42_code 0 = .ok (.new 18, 3) := by decide +kernel
theorem d_rm_tos_3 : decode jdk_67_method_42_code 3 = .ok (.dup, 1) := by decide +kernel
theorem d_rm_tos_4 : decode jdk_67_method_42_code 4 = .ok (.aload_n 0, 1) := by decide +kernel
theorem d_rm_tos_5 : decode jdk_67_method_42_code 5 = .ok (.invokespecial 137, 3) := by decide +kernel
theorem d_rm_tos_8 : decode jdk_67_method_42_code 8 = .ok (.areturn, 1) := by decide +kernel
theorem ef_rm_tos (m : MethodId) (x0 : Addr) : entryFrame m #[(.ref x0)] 1 = mkF m 0 #[.val (.ref x0)] [] := by first | (simp [entryFrame, mkF, argsToLocals, Value.category]; done) | rfl
set_option maxRecDepth 65536 in
set_option maxHeartbeats 3000000 in
theorem rm_tos (l : Launch) (Z : State) (a0 : Array Value) (hw : ∀ d ∈ tables_1, d.before a0 Z = true) (ws : List Jvm.Cond) (sb vb : Addr) (kv : ClassId) (cs : List Int32) (G1 : Int32) (h0 : Heap) (n0 : Nat) (Z0 : n0 ≤ h0.size) (O2 : Sta Z Z.heap "java/lang/String" "COMPACT_STRINGS" "Z" (.int G1)) (P5 : ¬ (G1 = (0 : Int32))) (X00 : Old Z n0 h0) (E_sb : Exa Z h0 sb "java/lang/StringBuilder") (F_sv : Fld Z h0 sb "java/lang/AbstractStringBuilder" "value" "[B" (.ref vb)) (F_sc : Fld Z h0 sb "java/lang/AbstractStringBuilder" "coder" "B" (.int 0)) (F_sn : Fld Z h0 sb "java/lang/AbstractStringBuilder" "count" "I" (.int (Int32.ofNat (cs).length))) (V_sb : Arv Z h0 vb kv .byte 16 (((cs).map (fun c : Int32 => c.toInt8.toInt32)).map Value.int) (.int 0)) (hl : (cs).length ≤ 15) :
    MetFree l (⟨"java/lang/StringBuilder", "toString", "()Ljava/lang/String;"⟩ : MethodName) (head1 (Jvm.Cond.code (⟨"java/lang/StringBuilder", "toString", "()Ljava/lang/String;"⟩ : MethodName) jdk_67_method_42_code 1 (some (.object "java/lang/String")) :: ws) ({ frames := 5, cells := 2, slots := 20, locals := 79 } : Room)) (fun αs U => αs = #[(.ref sb)] ∧ Z.Warmed39 U.vm ∧ U.heap = h0) (fun _ _ _ _ _ => True) (fun _ U o U' => ∃ v L, o = .returned v ∧ Q_tos Z cs h0 n0 v U'.heap L ∧ FrameEnd U o U' L ({ frames := 5, cells := 2, slots := 20, locals := 79 } : Room).cells ({ frames := 5, cells := 2, slots := 20, locals := 79 } : Room).slots) := by
  refine MetFree.of_bodySF (plainFor_of_name pno_2) hisR ?_
  intro pP e s m args below meth cC s₁ Bd hml0 hP hK
  obtain ⟨rfl, hZ, hh⟩ := hP
  have hx := Bd.exec
  have hby := Bd.bytes
  have hml : cC.maxLocals = 1 := hml0
  have hown : s.vm.findClass "java/lang/StringBuilder" = some m.cls := findClass_of_methodNamed Bd.named
  have hnm := (name_of_methodNamed Bd.named Bd.method).1
  have X0 : Stand pP l e ({ frames := 5, cells := 2, slots := 20, locals := 79 } : Room) s m #[(.ref sb)] below meth cC s₁ [] 0 0 := Stand.of_body Bd
  have e0 : s₁.heap = h0 := by rw [← hh, Bd.state]; rfl
  have N0 := Fr.nil n0
  have KC0 : Keep h0 h0 [] := Keep.refl h0 _
  obtain ⟨A0, hA0⟩ : ∃ z, z = s₁.setTop (entryFrame m #[(.ref sb)] 1) := ⟨_, rfl⟩
  have pre0 : ∀ τ, Steps pP.tables e below (s₁.setTop (mkF m 0 #[.val (.ref sb)] [])) τ → Steps pP.tables e below A0 τ := fun τ κ => by rw [hA0]; exact castTop (ef_rm_tos m sb) κ
  obtain ⟨T101, h101, X101, e101, E101, A101, D101, -, st101⟩ := newO X0 hx hZ hown (hw _ (List.mem_of_getElem? (i := 125) rfl)) (hw _ (List.mem_of_getElem? (i := 6) rfl)) (hw _ (List.mem_of_getElem? (i := 7) rfl)) e0 (g := (mkF m 0 #[.val (.ref sb)] [])) rfl (hb hby d_rm_tos_0) (by decide) (by decide)
  obtain ⟨b101, g101⟩ : ∃ z, z = h0.size := ⟨_, rfl⟩
  rw [← g101] at A101 D101 st101
  have pq102 : ∀ τ, Steps pP.tables e below (T101.setTop (mkF m 3 #[.val (.ref sb)] [(.ref b101)])) τ → Steps pP.tables e below A0 τ := by
    intro τ κ
    refine pre0 τ ?_
    refine st101 _ ?_
    exact κ
  have KC101 : Keep h0 h101 [] := KC0.ext E101
  have F_value_b101 : Fld Z h101 b101 "java/lang/String" "value" "[B" .null := D101 (Or.inr (hw _ (List.mem_of_getElem? (i := 21) rfl))) (ty := (.array .byte)) (by decide)
  have F_coder_b101 : Fld Z h101 b101 "java/lang/String" "coder" "B" (.int (0 : Int32)) := D101 (Or.inr (hw _ (List.mem_of_getElem? (i := 22) rfl))) (ty := .byte) (by decide)
  have f103 := (X00.ext E101)
  have f104 := (E_sb.ext E101)
  have f105 := (F_sv.ext E101)
  have f106 := (F_sc.ext E101)
  have f107 := (F_sn.ext E101)
  have f108 := (V_sb.ext E101)
  have f109 := (Nat.le_trans Z0 E101.1)
  obtain ⟨_, _, ⟨T110, L110, k110, n110⟩, -, X110, ⟨Lc110, hQ110, l110, y110, z110⟩, st110⟩ := X101.specialBack hx (y := (⟨"java/lang/String", "<init>", "(Ljava/lang/StringBuilder;)V"⟩ : MethodName)) rfl hown (mvT hZ (hw _ (List.mem_of_getElem? (i := 126) rfl))) (mvT hZ (hw _ (List.mem_of_getElem? (i := 127) rfl))) (mvT hZ (hw _ (List.mem_of_getElem? (i := 128) rfl))) (by decide) (backOf (W := 1) (rm_sfb l Z a0 hw [] b101 sb vb kv cs G1 h101 n0 f109 O2 P5 f103 A101 (Nat.le_trans Z0 (Nat.le_of_eq g101.symm)) F_value_b101 F_coder_b101 f104 f105 f106 f107 f108 hl) hZ (hw _ (List.mem_of_getElem? (i := 128) rfl)) (hw _ (List.mem_of_getElem? (i := 7) rfl)) (by decide) (by decide)) (g := (mkF m 5 #[.val (.ref sb)] [(.ref sb), (.ref b101), (.ref b101)])) rfl (by rw [hml]; rfl) (Steps.refl _) (a := b101) (argsL := [(.ref sb)]) (rest := [(.ref b101)]) (lenOf pdo_14 rfl) rfl (by show 2 * 0 + _ ≤ _; exact Nat.le_of_eq rfl) (hb hby d_rm_tos_5) (fun _ _ => ⟨rfl, e101, (by decide : 1 + 1 ≤ _), (by decide : 4 + 16 ≤ _)⟩)
  dsimp only [Pt.U, Pt.locs, Pt.cells, Pt.slots] at X110 l110 y110 z110 st110 hQ110
  subst l110 y110 z110
  obtain ⟨t110, kb110, rfl, Nq110, K110, lb110, Ex110, Fc110, Fv110, Vt110⟩ := hQ110
  have N110 := Fr.app N0 Nq110
  have pq111 : ∀ τ, Steps pP.tables e below (T110.setTop (mkF m 8 #[.val (.ref sb)] [(.ref b101)])) τ → Steps pP.tables e below A0 τ := by
    intro τ κ
    refine pq102 τ ?_
    refine XS.dup X101.here hx rfl (hb hby d_rm_tos_3) rfl rfl ?_
    refine XS.aloadN X101.here hx rfl (hb hby d_rm_tos_4) rfl rfl ?_
    refine st110.trans ?_
    exact κ
  have KC110 : Keep h0 T110.heap [] := KC101.trans K110 (allS (Or.inr (Nat.le_trans (Nat.le_refl _) (Nat.le_of_eq g101.symm))) all0)
  obtain ⟨fs, hrE, hrun, hended, hW, hsame⟩ := X110.leave (v := some (.ref b101)) (fun h => by rw [Bd.returns] at h; cases h)
  have pqE := pq111
  rw [hA0] at pqE
  refine ⟨_, _, pqE _ ?_, hrun, hended, _, _, rfl, ?_, ⟨_, rfl⟩, hW, hsame.mono (by decide) (by decide)⟩
  · show Steps pP.tables e below (T110.setTop (mkF m 8 #[.val (.ref sb)] [(.ref b101)])) _
    exact retOut X110 hx Bd.returns rfl (Or.inr (Or.inr (Or.inr (Or.inr ⟨rfl, rfl, rfl⟩)))) (hb hby d_rm_tos_8) hrE
  · show Q_tos Z cs h0 n0 _ T110.heap _
    exact ⟨b101, t110, _, rfl, N110, KC110, (Nat.le_trans (Nat.le_refl _) (Nat.le_of_eq g101.symm)), (Nat.le_trans (Nat.le_trans (Nat.le_refl _) E101.1) lb110), Ex110, Fc110, Fv110, Vt110⟩
def Q_rm_mk (Z : State) (p0 p1 p2 : Int32) (h0 : Heap) (n0 : Nat) (v : Option Value) (h : Heap) (L : List Loc) : Prop := ∃ (a t : Addr) (kb : ClassId), v = some (.ref a) ∧ Fr n0 L ∧ Keep h0 h [] ∧ Exa Z h a "java/lang/String" ∧ Fld Z h a "java/lang/String" "coder" "B" (.int 0) ∧ Fld Z h a "java/lang/String" "value" "[B" (.ref t) ∧ Arv Z h t kb .byte (Int32.ofNat (own_cs p0 p1 p2).length) (((own_cs p0 p1 p2).map (fun c : Int32 => c.toInt8.toInt32)).map Value.int) (.int 0)
theorem d_rm_mk_0 : decode method_2_code 0 = .ok (.iload_n 0, 1) := by decide +kernel
theorem d_rm_mk_1 : decode method_2_code 1 = .ok (.ifCond .ne 14, 3) := by decide +kernel
theorem d_rm_mk_4 : decode method_2_code 4 = .ok (.new 7, 3) := by decide +kernel
theorem d_rm_mk_7 : decode method_2_code 7 = .ok (.dup, 1) := by decide +kernel
theorem d_rm_mk_8 : decode method_2_code 8 = .ok (.iconst 0, 1) := by decide +kernel
theorem d_rm_mk_9 : decode method_2_code 9 = .ok (.newarray .char, 2) := by decide +kernel
theorem d_rm_mk_11 : decode method_2_code 11 = .ok (.invokespecial 9, 3) := by decide +kernel
theorem d_rm_mk_14 : decode method_2_code 14 = .ok (.areturn, 1) := by decide +kernel
theorem d_rm_mk_15 : decode method_2_code 15 = .ok (.iload_n 0, 1) := by decide +kernel
theorem d_rm_mk_16 : decode method_2_code 16 = .ok (.iconst 1, 1) := by decide +kernel
theorem d_rm_mk_17 : decode method_2_code 17 = .ok (.if_icmp .ne 18, 3) := by decide +kernel
theorem d_rm_mk_20 : decode method_2_code 20 = .ok (.new 7, 3) := by decide +kernel
theorem d_rm_mk_23 : decode method_2_code 23 = .ok (.dup, 1) := by decide +kernel
theorem d_rm_mk_24 : decode method_2_code 24 = .ok (.iconst 1, 1) := by decide +kernel
theorem d_rm_mk_25 : decode method_2_code 25 = .ok (.newarray .char, 2) := by decide +kernel
theorem d_rm_mk_27 : decode method_2_code 27 = .ok (.dup, 1) := by decide +kernel
theorem d_rm_mk_28 : decode method_2_code 28 = .ok (.iconst 0, 1) := by decide +kernel
theorem d_rm_mk_29 : decode method_2_code 29 = .ok (.iload_n 1, 1) := by decide +kernel
theorem d_rm_mk_30 : decode method_2_code 30 = .ok (.castore, 1) := by decide +kernel
theorem d_rm_mk_31 : decode method_2_code 31 = .ok (.invokespecial 9, 3) := by decide +kernel
theorem d_rm_mk_34 : decode method_2_code 34 = .ok (.areturn, 1) := by decide +kernel
theorem d_rm_mk_35 : decode method_2_code 35 = .ok (.new 7, 3) := by decide +kernel
theorem d_rm_mk_38 : decode method_2_code 38 = .ok (.dup, 1) := by decide +kernel
theorem d_rm_mk_39 : decode method_2_code 39 = .ok (.iconst 2, 1) := by decide +kernel
theorem d_rm_mk_40 : decode method_2_code 40 = .ok (.newarray .char, 2) := by decide +kernel
theorem d_rm_mk_42 : decode method_2_code 42 = .ok (.dup, 1) := by decide +kernel
theorem d_rm_mk_43 : decode method_2_code 43 = .ok (.iconst 0, 1) := by decide +kernel
theorem d_rm_mk_44 : decode method_2_code 44 = .ok (.iload_n 1, 1) := by decide +kernel
theorem d_rm_mk_45 : decode method_2_code 45 = .ok (.castore, 1) := by decide +kernel
theorem d_rm_mk_46 : decode method_2_code 46 = .ok (.dup, 1) := by decide +kernel
theorem d_rm_mk_47 : decode method_2_code 47 = .ok (.iconst 1, 1) := by decide +kernel
theorem d_rm_mk_48 : decode method_2_code 48 = .ok (.iload_n 2, 1) := by decide +kernel
theorem d_rm_mk_49 : decode method_2_code 49 = .ok (.castore, 1) := by decide +kernel
theorem d_rm_mk_50 : decode method_2_code 50 = .ok (.invokespecial 9, 3) := by decide +kernel
theorem d_rm_mk_53 : decode method_2_code 53 = .ok (.areturn, 1) := by decide +kernel
theorem ef_rm_mk (m : MethodId) (x0 : Int32) (x1 : Int32) (x2 : Int32) : entryFrame m #[(.int x0), (.int x1), (.int x2)] 3 = mkF m 0 #[.val (.int x0), .val (.int x1), .val (.int x2)] [] := by first | (simp [entryFrame, mkF, argsToLocals, Value.category]; done) | rfl
set_option maxRecDepth 65536 in
set_option maxHeartbeats 3000000 in
theorem rm_mk (l : Launch) (Z : State) (a0 : Array Value) (hw : ∀ d ∈ tables_1, d.before a0 Z = true) (hEW : EW Z a0 consts_1) (ws : List Jvm.Cond) (p0 p1 p2 : Int32) (G1 : Int32) (h0 : Heap) (n0 : Nat) (Z0 : n0 ≤ h0.size) (O2 : Sta Z Z.heap "java/lang/String" "COMPACT_STRINGS" "Z" (.int G1)) (P5 : ¬ (G1 = (0 : Int32))) (X00 : Old Z n0 h0) (hp1 : ¬ p1 < 0 ∧ ¬ (255 : Int32) < p1) (hp2 : ¬ p2 < 0 ∧ ¬ (255 : Int32) < p2) :
    MetFree l (⟨"com/example/stateful_search/statefulsearch/session/SearchResultSummaryPinLaw", "mk", "(ICC)Ljava/lang/String;"⟩ : MethodName) (head1 (Jvm.Cond.code (⟨"com/example/stateful_search/statefulsearch/session/SearchResultSummaryPinLaw", "mk", "(ICC)Ljava/lang/String;"⟩ : MethodName) method_2_code 3 (some (.object "java/lang/String")) :: ws) ({ frames := 4, cells := 4, slots := 8, locals := 66 } : Room)) (fun αs U => αs = #[(.int p0), (.int p1), (.int p2)] ∧ Z.Warmed39 U.vm ∧ U.heap = h0 ∧ CHv Z consts_1 U.vm h0) (fun _ _ _ _ _ => True) (fun _ U o U' => ∃ v L, o = .returned v ∧ Q_rm_mk Z p0 p1 p2 h0 n0 v U'.heap L ∧ CHr Z consts_1 U.vm U.heap U'.vm U'.heap ∧ ReturnedEndW U o U' L ({ frames := 4, cells := 4, slots := 8, locals := 66 } : Room).cells ({ frames := 4, cells := 4, slots := 8, locals := 66 } : Room).slots) := by
  refine MetFree.of_bodySF (plainFor_of_name pno_4) hisR ?_
  intro pP e s m args below meth cC s₁ Bd hml0 hP hK
  obtain ⟨rfl, hZ, hh, CH0⟩ := hP
  have hx := Bd.exec
  have hby := Bd.bytes
  have hml : cC.maxLocals = 3 := hml0
  have hown : s.vm.findClass "com/example/stateful_search/statefulsearch/session/SearchResultSummaryPinLaw" = some m.cls := findClass_of_methodNamed Bd.named
  have hnm := (name_of_methodNamed Bd.named Bd.method).1
  have X0 : Stand pP l e ({ frames := 4, cells := 4, slots := 8, locals := 66 } : Room) (s.setVm s.vm) m #[(.int p0), (.int p1), (.int p2)] below meth cC s₁ [] 0 0 := Stand.of_body Bd
  have e0 : s₁.heap = h0 := by rw [← hh, Bd.state]; rfl
  have N0 := Fr.nil n0
  have KC0 : Keep h0 h0 [] := Keep.refl h0 _
  replace hZ : Z.Warmed39 (s.setVm s.vm).vm := hZ
  replace hown : (s.setVm s.vm).vm.findClass "com/example/stateful_search/statefulsearch/session/SearchResultSummaryPinLaw" = some m.cls := hown
  have SI0 : s.Since s.vm h0.size := (State.WarmedH.refl s).since _
  have SK0 : h0.size ≤ h0.size := Nat.le_refl _
  have CR0 : CHr Z consts_1 s.vm h0 s.vm h0 := CHr.refl CH0
  obtain ⟨A0, hA0⟩ : ∃ z, z = s₁.setTop (entryFrame m #[(.int p0), (.int p1), (.int p2)] 3) := ⟨_, rfl⟩
  have pre0 : ∀ τ, Steps pP.tables e below (s₁.setTop (mkF m 0 #[.val (.int p0), .val (.int p1), .val (.int p2)] [])) τ → Steps pP.tables e below A0 τ := fun τ κ => by rw [hA0]; exact castTop (ef_rm_mk m p0 p1 p2) κ
  have hws : ∀ d ∈ StrChars.Road.words, d.before a0 Z = true := fun d hd => hw d ((by decide +kernel : ∀ d ∈ StrChars.Road.words, d ∈ tables_1) d hd)
  have pq101 : ∀ τ, Steps pP.tables e below (s₁.setTop (mkF m 1 #[.val (.int p0), .val (.int p1), .val (.int p2)] [(.int p0)])) τ → Steps pP.tables e below A0 τ := by
    intro τ κ
    refine pre0 τ ?_
    refine XS.iloadN X0.here hx rfl (hb hby d_rm_mk_0) rfl ?_
    exact κ
  by_cases hc1_102 : p0 = (0 : Int32)
  · skip
    obtain ⟨T103, h103, X103, e103, E103, A103, D103, -, st103⟩ := newO X0 hx hZ hown (hw _ (List.mem_of_getElem? (i := 5) rfl)) (hw _ (List.mem_of_getElem? (i := 6) rfl)) (hw _ (List.mem_of_getElem? (i := 7) rfl)) e0 (g := (mkF m 4 #[.val (.int p0), .val (.int p1), .val (.int p2)] [])) rfl (hb hby d_rm_mk_4) (by decide) (by decide)
    obtain ⟨b103, g103⟩ : ∃ z, z = h0.size := ⟨_, rfl⟩
    rw [← g103] at A103 D103 st103
    have pq104 : ∀ τ, Steps pP.tables e below (T103.setTop (mkF m 7 #[.val (.int p0), .val (.int p1), .val (.int p2)] [(.ref b103)])) τ → Steps pP.tables e below A0 τ := by
      intro τ κ
      refine pq101 τ ?_
      refine XS.ifNo X0.here hx rfl (hb hby d_rm_mk_1) rfl ((if0 _ _).trans (teq hc1_102).2) ?_
      refine st103 _ ?_
      exact κ
    have KC103 : Keep h0 h103 [] := KC0.ext E103
    have CH103 := CHv.ext E103 CH0
    have CR103 := CHr.trans CR0 (CHr.ext E103 CH0)
    have SK103 := Nat.le_trans SK0 E103.1
    have Sf103 := Safe.ext (x := b103) E103 CH0 (Safe.new (Nat.le_of_eq g103.symm))
    have F_value_b103 : Fld Z h103 b103 "java/lang/String" "value" "[B" .null := D103 (Or.inr (hw _ (List.mem_of_getElem? (i := 21) rfl))) (ty := (.array .byte)) (by decide)
    have F_coder_b103 : Fld Z h103 b103 "java/lang/String" "coder" "B" (.int (0 : Int32)) := D103 (Or.inr (hw _ (List.mem_of_getElem? (i := 22) rfl))) (ty := .byte) (by decide)
    obtain ⟨T105, h105, k105, X105, e105, E105, A105, st105⟩ := newP X103 hx hZ (hw _ (List.mem_of_getElem? (i := 8) rfl)) e103 (g := (mkF m 9 #[.val (.int p0), .val (.int p1), .val (.int p2)] [(.int (0 : Int32)), (.ref b103), (.ref b103)])) rfl (hb hby d_rm_mk_9) rfl (by decide) (cap := 0) (by decide) (by decide) (by decide) (by decide)
    obtain ⟨b105, g105⟩ : ∃ z, z = h103.size := ⟨_, rfl⟩
    rw [← g105] at A105 st105
    have pq106 : ∀ τ, Steps pP.tables e below (T105.setTop (mkF m 11 #[.val (.int p0), .val (.int p1), .val (.int p2)] [(.ref b105), (.ref b103), (.ref b103)])) τ → Steps pP.tables e below A0 τ := by
      intro τ κ
      refine pq104 τ ?_
      refine XS.dup X103.here hx rfl (hb hby d_rm_mk_7) rfl rfl ?_
      refine XS.iconst X103.here hx rfl (hb hby d_rm_mk_8) ?_
      refine st105 _ ?_
      exact κ
    have KC105 : Keep h0 h105 [] := KC103.ext E105
    have CH105 := CHv.ext E105 CH103
    have CR105 := CHr.trans CR103 (CHr.ext E105 CH103)
    have SK105 := Nat.le_trans SK103 E105.1
    have V105 : Arv Z h105 b105 k105 .char (0 : Int32) [] (.int (0 : Int32)) := Arv.new A105 (by decide)
    have Sf105 := Safe.ext (x := b105) E105 CH103 (Safe.new (Nat.le_of_eq g105.symm))
    have f107 := (A103.ext E105)
    have f108 := (F_value_b103.ext E105)
    have f109 := (F_coder_b103.ext E105)
    have f110 := (Nat.le_trans (Nat.le_trans Z0 E103.1) E105.1)
    obtain ⟨_, _, ⟨T111, L111, k111, n111⟩, -, X111, S111, G111, ⟨Lc111, hQ111, l111, y111, z111, C111⟩, st111⟩ := X105.specialBackS hx (y := (⟨"java/lang/String", "<init>", "([C)V"⟩ : MethodName)) rfl hown (mvT hZ (hw _ (List.mem_of_getElem? (i := 9) rfl))) (mvT hZ (hw _ (List.mem_of_getElem? (i := 10) rfl))) (mvT hZ (hw _ (List.mem_of_getElem? (i := 11) rfl))) (by decide) (backOfSH (s := s) (vm0 := s.vm) (EL := consts_1) (W := 1) (rm_emp1 l Z a0 hw hEW [] b103 b105 k105 h105 n0 f110 f107 (Nat.le_trans Z0 (Nat.le_of_eq g103.symm)) f108 f109 V105) hZ (hw _ (List.mem_of_getElem? (i := 11) rfl)) (hw _ (List.mem_of_getElem? (i := 7) rfl)) (by decide) (by decide) hEW CH105) (g := (mkF m 11 #[.val (.int p0), .val (.int p1), .val (.int p2)] [(.ref b105), (.ref b103), (.ref b103)])) rfl (by rw [hml]; rfl) (Steps.refl _) (a := b103) (argsL := [(.ref b105)]) (rest := [(.ref b103)]) (lenOf pdo_15 rfl) rfl (by show 2 * 0 + _ ≤ _; exact Nat.le_of_eq rfl) (hb hby d_rm_mk_11) (fun _ _ => ⟨rfl, e105, (by decide : 2 + 2 ≤ _), (by decide : 4 + 4 ≤ _)⟩)
    dsimp only [Pt.U, Pt.locs, Pt.cells, Pt.slots] at X111 l111 y111 z111 st111 hQ111 S111 G111 C111
    subst l111 y111 z111
    have G111a : h105.size ≤ T111.heap.size := by first | exact G111 | (rw [← e105]; exact G111)
    obtain ⟨X111, SI111, Z111, O111⟩ := rebS SI0 SK105 X111 S111 G111a hZ hown
    have SK111 : T111.heap.size ≤ T111.heap.size := Nat.le_refl _
    obtain ⟨rfl, Nq111, K111, Ex111, Fc111, t111, kb111, tc111, Fv111, Vt111⟩ := hQ111
    have N111 := Fr.app N0 Nq111
    have pq112 : ∀ τ, Steps pP.tables e below (T111.setTop (mkF m 14 #[.val (.int p0), .val (.int p1), .val (.int p2)] [(.ref b103)])) τ → Steps pP.tables e below A0 τ := by
      intro τ κ
      refine pq106 τ ?_
      refine st111.trans ?_
      exact κ
    have KC111 : Keep h0 T111.heap [] := KC105.trans K111 (allS (Or.inr (Nat.le_trans (Nat.le_refl _) (Nat.le_of_eq g103.symm))) all0)
    have CH111 := C111.1
    have CR111 := CHr.trans CR105 C111
    have ecs113 : own_cs p0 p1 p2 = [] := by simp [own_cs, hc1_102]
    have SKe := SK111
    obtain ⟨fs, hrE, hrun, hended, hEnd⟩ := X111.leaveW SI111 SKe (v := some (.ref b103)) (fun h => by rw [Bd.returns] at h; cases h)
    have CHe := CHr.trans CR111 (CHv.at X111 Z111 hEW CH111)
    have pqE := pq112
    rw [hA0] at pqE
    refine ⟨_, _, pqE _ ?_, hrun, hended, _, _, rfl, ?_, ?_, hEnd.1, hEnd.2.1, hEnd.2.2.1, hEnd.2.2.2.mono (by decide) (by decide)⟩
    · show Steps pP.tables e below (T111.setTop (mkF m 14 #[.val (.int p0), .val (.int p1), .val (.int p2)] [(.ref b103)])) _
      exact retOut X111 hx Bd.returns rfl (Or.inr (Or.inr (Or.inr (Or.inr ⟨rfl, rfl, rfl⟩)))) (hb hby d_rm_mk_14) hrE
    · show Q_rm_mk Z p0 p1 p2 h0 n0 _ T111.heap _
      exact ⟨b103, t111, _, rfl, N111, KC111, Ex111, Fc111, Fv111, by rw [ecs113]; exact Vt111⟩
    · show CHr Z consts_1 s.vm s.heap T111.vm T111.heap
      rw [hh]; exact CHe
  · skip
    have pq114 : ∀ τ, Steps pP.tables e below (s₁.setTop (mkF m 17 #[.val (.int p0), .val (.int p1), .val (.int p2)] [(.int (1 : Int32)), (.int p0)])) τ → Steps pP.tables e below A0 τ := by
      intro τ κ
      refine pq101 τ ?_
      refine XS.ifYes X0.here hx rfl (pc0 := 1) (pc' := 15) rfl (hb hby d_rm_mk_1) rfl ((if0 _ _).trans (feq hc1_102).2) (by decide) (by decide) ?_
      refine XS.iloadN X0.here hx rfl (hb hby d_rm_mk_15) rfl ?_
      refine XS.iconst X0.here hx rfl (hb hby d_rm_mk_16) ?_
      exact κ
    by_cases hc17_115 : p0 = (1 : Int32)
    · skip
      obtain ⟨T116, h116, X116, e116, E116, A116, D116, -, st116⟩ := newO X0 hx hZ hown (hw _ (List.mem_of_getElem? (i := 5) rfl)) (hw _ (List.mem_of_getElem? (i := 6) rfl)) (hw _ (List.mem_of_getElem? (i := 7) rfl)) e0 (g := (mkF m 20 #[.val (.int p0), .val (.int p1), .val (.int p2)] [])) rfl (hb hby d_rm_mk_20) (by decide) (by decide)
      obtain ⟨b116, g116⟩ : ∃ z, z = h0.size := ⟨_, rfl⟩
      rw [← g116] at A116 D116 st116
      have pq117 : ∀ τ, Steps pP.tables e below (T116.setTop (mkF m 23 #[.val (.int p0), .val (.int p1), .val (.int p2)] [(.ref b116)])) τ → Steps pP.tables e below A0 τ := by
        intro τ κ
        refine pq114 τ ?_
        refine XS.icmpNo X0.here hx rfl (hb hby d_rm_mk_17) rfl (teq hc17_115).2 ?_
        refine st116 _ ?_
        exact κ
      have KC116 : Keep h0 h116 [] := KC0.ext E116
      have CH116 := CHv.ext E116 CH0
      have CR116 := CHr.trans CR0 (CHr.ext E116 CH0)
      have SK116 := Nat.le_trans SK0 E116.1
      have Sf116 := Safe.ext (x := b116) E116 CH0 (Safe.new (Nat.le_of_eq g116.symm))
      have F_value_b116 : Fld Z h116 b116 "java/lang/String" "value" "[B" .null := D116 (Or.inr (hw _ (List.mem_of_getElem? (i := 21) rfl))) (ty := (.array .byte)) (by decide)
      have F_coder_b116 : Fld Z h116 b116 "java/lang/String" "coder" "B" (.int (0 : Int32)) := D116 (Or.inr (hw _ (List.mem_of_getElem? (i := 22) rfl))) (ty := .byte) (by decide)
      obtain ⟨T118, h118, k118, X118, e118, E118, A118, st118⟩ := newP X116 hx hZ (hw _ (List.mem_of_getElem? (i := 8) rfl)) e116 (g := (mkF m 25 #[.val (.int p0), .val (.int p1), .val (.int p2)] [(.int (1 : Int32)), (.ref b116), (.ref b116)])) rfl (hb hby d_rm_mk_25) rfl (by decide) (cap := 1) (by decide) (by decide) (by decide) (by decide)
      obtain ⟨b118, g118⟩ : ∃ z, z = h116.size := ⟨_, rfl⟩
      rw [← g118] at A118 st118
      have pq119 : ∀ τ, Steps pP.tables e below (T118.setTop (mkF m 27 #[.val (.int p0), .val (.int p1), .val (.int p2)] [(.ref b118), (.ref b116), (.ref b116)])) τ → Steps pP.tables e below A0 τ := by
        intro τ κ
        refine pq117 τ ?_
        refine XS.dup X116.here hx rfl (hb hby d_rm_mk_23) rfl rfl ?_
        refine XS.iconst X116.here hx rfl (hb hby d_rm_mk_24) ?_
        refine st118 _ ?_
        exact κ
      have KC118 : Keep h0 h118 [] := KC116.ext E118
      have CH118 := CHv.ext E118 CH116
      have CR118 := CHr.trans CR116 (CHr.ext E118 CH116)
      have SK118 := Nat.le_trans SK116 E118.1
      have V118 : Arv Z h118 b118 k118 .char (1 : Int32) [(.int (0 : Int32))] (.int (0 : Int32)) := (Arv.new A118 (by decide)).pad (pad_rep [] (.int (0 : Int32)) 1)
      have Sf118 := Safe.ext (x := b118) E118 CH116 (Safe.new (Nat.le_of_eq g118.symm))
      obtain ⟨cl120, Ar120, q120, S120, M120, Hs120, G120⟩ := id V118
      obtain ⟨T120, h120, X120, e120, W120, st120⟩ := stC X118 hx hZ e118 Ar120 (j := (0 : Int32)) (inb_of S120 ⟨by decide, by decide⟩) (g := (mkF m 30 #[.val (.int p0), .val (.int p1), .val (.int p2)] [(.int p1), (.int (0 : Int32)), (.ref b118), (.ref b118), (.ref b116), (.ref b116)])) rfl rfl (hb hby d_rm_mk_30)
      have pq121 : ∀ τ, Steps pP.tables e below (T120.setTop (mkF m 31 #[.val (.int p0), .val (.int p1), .val (.int p2)] [(.ref b118), (.ref b116), (.ref b116)])) τ → Steps pP.tables e below A0 τ := by
        intro τ κ
        refine pq119 τ ?_
        refine XS.dup X118.here hx rfl (hb hby d_rm_mk_27) rfl rfl ?_
        refine XS.iconst X118.here hx rfl (hb hby d_rm_mk_28) ?_
        refine XS.iloadN X118.here hx rfl (hb hby d_rm_mk_29) rfl ?_
        refine st120 _ ?_
        exact κ
      have KC120 : Keep h0 h120 [] := KC118.wr W120 (Or.inr (Nat.le_trans (Nat.le_trans (Nat.le_refl _) E116.1) (Nat.le_of_eq g118.symm)))
      have CH120 := CHv.wr W120 Sf118 CH118
      have CR120 := CHr.trans CR118 (CHr.wr W120 Sf118 CH118)
      have SK120 := Nat.le_trans SK118 (Keep.of_wr W120).1
      have V120 : Arv Z h120 b118 k118 .char (1 : Int32) [(.int (nar .char p1))] (.int (0 : Int32)) := Arv.set Ar120 q120 S120 M120 Hs120 G120 (fits_nar_char _) W120 0 rfl (Nat.le_of_ble_eq_true rfl)
      have N120 := Fr.snoc X120 N0 (Nat.le_trans (Nat.le_trans Z0 E116.1) (Nat.le_of_eq g118.symm))
      have hp122 : ∀ c ∈ ([(nar .char p1)] : List Int32), ¬ c < 0 ∧ ¬ (255 : Int32) < c := by
        intro c hc
        simp only [List.mem_cons, List.not_mem_nil, or_false] at hc
        rcases hc with rfl
        · exact own_narI _ hp1
      have f123 := (Nat.le_trans (Nat.le_trans (Nat.le_trans Z0 E116.1) E118.1) (Keep.of_wr W120).1)
      have f124 := ((A116.ext E118).wr W120)
      have f125 := ((F_value_b116.ext E118).other W120 (Or.inl (Nat.ne_of_lt (Nat.lt_of_lt_of_le A116.lt (Nat.le_of_eq g118.symm)))))
      have f126 := ((F_coder_b116.ext E118).other W120 (Or.inl (Nat.ne_of_lt (Nat.lt_of_lt_of_le A116.lt (Nat.le_of_eq g118.symm)))))
      have f127 := (((X00.ext E116).ext E118).wr W120 (Nat.le_trans (Nat.le_trans Z0 E116.1) (Nat.le_of_eq g118.symm)))
      have f128 := (Safe.wr W120 Sf118 CH118 (Safe.ext E118 CH116 Sf116))
      obtain ⟨_, _, ⟨T129, L129, k129, n129⟩, -, X129, ⟨Lc129, hQ129, l129, y129, z129⟩, st129⟩ := X120.specialBack hx (y := (⟨"java/lang/String", "<init>", "([C)V"⟩ : MethodName)) rfl hown (mvT hZ (hw _ (List.mem_of_getElem? (i := 9) rfl))) (mvT hZ (hw _ (List.mem_of_getElem? (i := 10) rfl))) (mvT hZ (hw _ (List.mem_of_getElem? (i := 11) rfl))) (by decide) (StrChars.Road.backV (W := 1) hZ hws (kI := 4) (hw _ (List.mem_of_getElem? (i := 6) rfl)) (cs := ([(nar .char p1)] : List Int32)) (bs := (([(nar .char p1)] : List Int32)).map (fun c => c.toInt8.toInt32)) (n := 1) (Nat.le_trans Z0 (Nat.le_of_eq g116.symm)) f123 f124 f125 f126 V120 (O2.ext f127.2) P5 rfl rfl (by decide) (by decide) hp122 rfl (by decide) (by decide)) (g := (mkF m 31 #[.val (.int p0), .val (.int p1), .val (.int p2)] [(.ref b118), (.ref b116), (.ref b116)])) rfl (by rw [hml]; rfl) (Steps.refl _) (a := b116) (argsL := [(.ref b118)]) (rest := [(.ref b116)]) (lenOf pdo_15 rfl) rfl (by show 2 * 0 + _ ≤ _; exact Nat.le_of_eq rfl) (hb hby d_rm_mk_31) (fun _ _ => ⟨rfl, e120, (by decide : 2 + 1 ≤ _), (by decide : 5 + 1 ≤ _)⟩)
      dsimp only [Pt.U, Pt.locs, Pt.cells, Pt.slots] at X129 l129 y129 z129 st129 hQ129
      subst l129 y129 z129
      obtain ⟨rfl, Nq129, K129, Ex129, Fc129, t129, kb129, ta129, tb129, tc129, Fv129, Vt129⟩ := hQ129
      have N129 := Fr.app N120 Nq129
      have pq130 : ∀ τ, Steps pP.tables e below (T129.setTop (mkF m 34 #[.val (.int p0), .val (.int p1), .val (.int p2)] [(.ref b116)])) τ → Steps pP.tables e below A0 τ := by
        intro τ κ
        refine pq121 τ ?_
        refine st129.trans ?_
        exact κ
      have KC129 : Keep h0 T129.heap [] := KC120.trans K129 (allS (Or.inr (Nat.le_trans (Nat.le_refl _) (Nat.le_of_eq g116.symm))) all0)
      have CH129 := CHv.keep K129 (sfS f128 sf0) CH120
      have CR129 := CHr.trans CR120 (CHr.keep K129 (sfS f128 sf0) CH120)
      have SK129 := Nat.le_trans SK120 K129.1
      have ecs131 : own_cs p0 p1 p2 = [(p1)] := by simp [own_cs, hc1_102, hc17_115]
      have vcs131 := Vt129
      rw [show nar .char (p1) = (p1) from own_narE _ (hp1)] at vcs131
      have SKe := SK129
      obtain ⟨fs, hrE, hrun, hended, hEnd⟩ := X129.leaveW SI0 SKe (v := some (.ref b116)) (fun h => by rw [Bd.returns] at h; cases h)
      have CHe := CHr.trans CR129 (CHv.at X129 hZ hEW CH129)
      have pqE := pq130
      rw [hA0] at pqE
      refine ⟨_, _, pqE _ ?_, hrun, hended, _, _, rfl, ?_, ?_, hEnd.1, hEnd.2.1, hEnd.2.2.1, hEnd.2.2.2.mono (by decide) (by decide)⟩
      · show Steps pP.tables e below (T129.setTop (mkF m 34 #[.val (.int p0), .val (.int p1), .val (.int p2)] [(.ref b116)])) _
        exact retOut X129 hx Bd.returns rfl (Or.inr (Or.inr (Or.inr (Or.inr ⟨rfl, rfl, rfl⟩)))) (hb hby d_rm_mk_34) hrE
      · show Q_rm_mk Z p0 p1 p2 h0 n0 _ T129.heap _
        exact ⟨b116, t129, _, rfl, N129, KC129, Ex129, Fc129, Fv129, by rw [ecs131]; exact vcs131⟩
      · show CHr Z consts_1 s.vm s.heap T129.vm T129.heap
        rw [hh]; exact CHe
    · skip
      obtain ⟨T132, h132, X132, e132, E132, A132, D132, -, st132⟩ := newO X0 hx hZ hown (hw _ (List.mem_of_getElem? (i := 5) rfl)) (hw _ (List.mem_of_getElem? (i := 6) rfl)) (hw _ (List.mem_of_getElem? (i := 7) rfl)) e0 (g := (mkF m 35 #[.val (.int p0), .val (.int p1), .val (.int p2)] [])) rfl (hb hby d_rm_mk_35) (by decide) (by decide)
      obtain ⟨b132, g132⟩ : ∃ z, z = h0.size := ⟨_, rfl⟩
      rw [← g132] at A132 D132 st132
      have pq133 : ∀ τ, Steps pP.tables e below (T132.setTop (mkF m 38 #[.val (.int p0), .val (.int p1), .val (.int p2)] [(.ref b132)])) τ → Steps pP.tables e below A0 τ := by
        intro τ κ
        refine pq114 τ ?_
        refine XS.icmpYes X0.here hx rfl (pc0 := 17) (pc' := 35) rfl (hb hby d_rm_mk_17) rfl (feq hc17_115).2 (by decide) (by decide) ?_
        refine st132 _ ?_
        exact κ
      have KC132 : Keep h0 h132 [] := KC0.ext E132
      have CH132 := CHv.ext E132 CH0
      have CR132 := CHr.trans CR0 (CHr.ext E132 CH0)
      have SK132 := Nat.le_trans SK0 E132.1
      have Sf132 := Safe.ext (x := b132) E132 CH0 (Safe.new (Nat.le_of_eq g132.symm))
      have F_value_b132 : Fld Z h132 b132 "java/lang/String" "value" "[B" .null := D132 (Or.inr (hw _ (List.mem_of_getElem? (i := 21) rfl))) (ty := (.array .byte)) (by decide)
      have F_coder_b132 : Fld Z h132 b132 "java/lang/String" "coder" "B" (.int (0 : Int32)) := D132 (Or.inr (hw _ (List.mem_of_getElem? (i := 22) rfl))) (ty := .byte) (by decide)
      obtain ⟨T134, h134, k134, X134, e134, E134, A134, st134⟩ := newP X132 hx hZ (hw _ (List.mem_of_getElem? (i := 8) rfl)) e132 (g := (mkF m 40 #[.val (.int p0), .val (.int p1), .val (.int p2)] [(.int (2 : Int32)), (.ref b132), (.ref b132)])) rfl (hb hby d_rm_mk_40) rfl (by decide) (cap := 2) (by decide) (by decide) (by decide) (by decide)
      obtain ⟨b134, g134⟩ : ∃ z, z = h132.size := ⟨_, rfl⟩
      rw [← g134] at A134 st134
      have pq135 : ∀ τ, Steps pP.tables e below (T134.setTop (mkF m 42 #[.val (.int p0), .val (.int p1), .val (.int p2)] [(.ref b134), (.ref b132), (.ref b132)])) τ → Steps pP.tables e below A0 τ := by
        intro τ κ
        refine pq133 τ ?_
        refine XS.dup X132.here hx rfl (hb hby d_rm_mk_38) rfl rfl ?_
        refine XS.iconst X132.here hx rfl (hb hby d_rm_mk_39) ?_
        refine st134 _ ?_
        exact κ
      have KC134 : Keep h0 h134 [] := KC132.ext E134
      have CH134 := CHv.ext E134 CH132
      have CR134 := CHr.trans CR132 (CHr.ext E134 CH132)
      have SK134 := Nat.le_trans SK132 E134.1
      have V134 : Arv Z h134 b134 k134 .char (2 : Int32) [(.int (0 : Int32)), (.int (0 : Int32))] (.int (0 : Int32)) := (Arv.new A134 (by decide)).pad (pad_rep [] (.int (0 : Int32)) 2)
      have Sf134 := Safe.ext (x := b134) E134 CH132 (Safe.new (Nat.le_of_eq g134.symm))
      obtain ⟨cl136, Ar136, q136, S136, M136, Hs136, G136⟩ := id V134
      obtain ⟨T136, h136, X136, e136, W136, st136⟩ := stC X134 hx hZ e134 Ar136 (j := (0 : Int32)) (inb_of S136 ⟨by decide, by decide⟩) (g := (mkF m 45 #[.val (.int p0), .val (.int p1), .val (.int p2)] [(.int p1), (.int (0 : Int32)), (.ref b134), (.ref b134), (.ref b132), (.ref b132)])) rfl rfl (hb hby d_rm_mk_45)
      have pq137 : ∀ τ, Steps pP.tables e below (T136.setTop (mkF m 46 #[.val (.int p0), .val (.int p1), .val (.int p2)] [(.ref b134), (.ref b132), (.ref b132)])) τ → Steps pP.tables e below A0 τ := by
        intro τ κ
        refine pq135 τ ?_
        refine XS.dup X134.here hx rfl (hb hby d_rm_mk_42) rfl rfl ?_
        refine XS.iconst X134.here hx rfl (hb hby d_rm_mk_43) ?_
        refine XS.iloadN X134.here hx rfl (hb hby d_rm_mk_44) rfl ?_
        refine st136 _ ?_
        exact κ
      have KC136 : Keep h0 h136 [] := KC134.wr W136 (Or.inr (Nat.le_trans (Nat.le_trans (Nat.le_refl _) E132.1) (Nat.le_of_eq g134.symm)))
      have CH136 := CHv.wr W136 Sf134 CH134
      have CR136 := CHr.trans CR134 (CHr.wr W136 Sf134 CH134)
      have SK136 := Nat.le_trans SK134 (Keep.of_wr W136).1
      have V136 : Arv Z h136 b134 k134 .char (2 : Int32) [(.int (nar .char p1)), (.int (0 : Int32))] (.int (0 : Int32)) := Arv.set Ar136 q136 S136 M136 Hs136 G136 (fits_nar_char _) W136 0 rfl (Nat.le_of_ble_eq_true rfl)
      have N136 := Fr.snoc X136 N0 (Nat.le_trans (Nat.le_trans Z0 E132.1) (Nat.le_of_eq g134.symm))
      have f139 := (Safe.wr W136 Sf134 CH134 Sf134)
      obtain ⟨cl138, Ar138, q138, S138, M138, Hs138, G138⟩ := id V136
      obtain ⟨T138, h138, X138, e138, W138, st138⟩ := stC X136 hx hZ e136 Ar138 (j := (1 : Int32)) (inb_of S138 ⟨by decide, by decide⟩) (g := (mkF m 49 #[.val (.int p0), .val (.int p1), .val (.int p2)] [(.int p2), (.int (1 : Int32)), (.ref b134), (.ref b134), (.ref b132), (.ref b132)])) rfl rfl (hb hby d_rm_mk_49)
      have pq140 : ∀ τ, Steps pP.tables e below (T138.setTop (mkF m 50 #[.val (.int p0), .val (.int p1), .val (.int p2)] [(.ref b134), (.ref b132), (.ref b132)])) τ → Steps pP.tables e below A0 τ := by
        intro τ κ
        refine pq137 τ ?_
        refine XS.dup X136.here hx rfl (hb hby d_rm_mk_46) rfl rfl ?_
        refine XS.iconst X136.here hx rfl (hb hby d_rm_mk_47) ?_
        refine XS.iloadN X136.here hx rfl (hb hby d_rm_mk_48) rfl ?_
        refine st138 _ ?_
        exact κ
      have KC138 : Keep h0 h138 [] := KC136.wr W138 (Or.inr (Nat.le_trans (Nat.le_trans (Nat.le_refl _) E132.1) (Nat.le_of_eq g134.symm)))
      have CH138 := CHv.wr W138 f139 CH136
      have CR138 := CHr.trans CR136 (CHr.wr W138 f139 CH136)
      have SK138 := Nat.le_trans SK136 (Keep.of_wr W138).1
      have V138 : Arv Z h138 b134 k134 .char (2 : Int32) [(.int (nar .char p1)), (.int (nar .char p2))] (.int (0 : Int32)) := Arv.set Ar138 q138 S138 M138 Hs138 G138 (fits_nar_char _) W138 1 rfl (Nat.le_of_ble_eq_true rfl)
      have N138 := Fr.snoc X138 N136 (Nat.le_trans (Nat.le_trans Z0 E132.1) (Nat.le_of_eq g134.symm))
      have hp141 : ∀ c ∈ ([(nar .char p1), (nar .char p2)] : List Int32), ¬ c < 0 ∧ ¬ (255 : Int32) < c := by
        intro c hc
        simp only [List.mem_cons, List.not_mem_nil, or_false] at hc
        rcases hc with rfl | rfl
        · exact own_narI _ hp1
        · exact own_narI _ hp2
      have f142 := (Nat.le_trans (Nat.le_trans (Nat.le_trans (Nat.le_trans Z0 E132.1) E134.1) (Keep.of_wr W136).1) (Keep.of_wr W138).1)
      have f143 := (((A132.ext E134).wr W136).wr W138)
      have f144 := (((F_value_b132.ext E134).other W136 (Or.inl (Nat.ne_of_lt (Nat.lt_of_lt_of_le A132.lt (Nat.le_of_eq g134.symm))))).other W138 (Or.inl (Nat.ne_of_lt (Nat.lt_of_lt_of_le A132.lt (Nat.le_of_eq g134.symm)))))
      have f145 := (((F_coder_b132.ext E134).other W136 (Or.inl (Nat.ne_of_lt (Nat.lt_of_lt_of_le A132.lt (Nat.le_of_eq g134.symm))))).other W138 (Or.inl (Nat.ne_of_lt (Nat.lt_of_lt_of_le A132.lt (Nat.le_of_eq g134.symm)))))
      have f146 := ((((X00.ext E132).ext E134).wr W136 (Nat.le_trans (Nat.le_trans Z0 E132.1) (Nat.le_of_eq g134.symm))).wr W138 (Nat.le_trans (Nat.le_trans Z0 E132.1) (Nat.le_of_eq g134.symm)))
      have f147 := (Safe.wr W138 f139 CH136 (Safe.wr W136 Sf134 CH134 (Safe.ext E134 CH132 Sf132)))
      obtain ⟨_, _, ⟨T148, L148, k148, n148⟩, -, X148, ⟨Lc148, hQ148, l148, y148, z148⟩, st148⟩ := X138.specialBack hx (y := (⟨"java/lang/String", "<init>", "([C)V"⟩ : MethodName)) rfl hown (mvT hZ (hw _ (List.mem_of_getElem? (i := 9) rfl))) (mvT hZ (hw _ (List.mem_of_getElem? (i := 10) rfl))) (mvT hZ (hw _ (List.mem_of_getElem? (i := 11) rfl))) (by decide) (StrChars.Road.backV (W := 1) hZ hws (kI := 4) (hw _ (List.mem_of_getElem? (i := 6) rfl)) (cs := ([(nar .char p1), (nar .char p2)] : List Int32)) (bs := (([(nar .char p1), (nar .char p2)] : List Int32)).map (fun c => c.toInt8.toInt32)) (n := 2) (Nat.le_trans Z0 (Nat.le_of_eq g132.symm)) f142 f143 f144 f145 V138 (O2.ext f146.2) P5 rfl rfl (by decide) (by decide) hp141 rfl (by decide) (by decide)) (g := (mkF m 50 #[.val (.int p0), .val (.int p1), .val (.int p2)] [(.ref b134), (.ref b132), (.ref b132)])) rfl (by rw [hml]; rfl) (Steps.refl _) (a := b132) (argsL := [(.ref b134)]) (rest := [(.ref b132)]) (lenOf pdo_15 rfl) rfl (by show 2 * 0 + _ ≤ _; exact Nat.le_of_eq rfl) (hb hby d_rm_mk_50) (fun _ _ => ⟨rfl, e138, (by decide : 2 + 1 ≤ _), (by decide : 6 + 2 ≤ _)⟩)
      dsimp only [Pt.U, Pt.locs, Pt.cells, Pt.slots] at X148 l148 y148 z148 st148 hQ148
      subst l148 y148 z148
      obtain ⟨rfl, Nq148, K148, Ex148, Fc148, t148, kb148, ta148, tb148, tc148, Fv148, Vt148⟩ := hQ148
      have N148 := Fr.app N138 Nq148
      have pq149 : ∀ τ, Steps pP.tables e below (T148.setTop (mkF m 53 #[.val (.int p0), .val (.int p1), .val (.int p2)] [(.ref b132)])) τ → Steps pP.tables e below A0 τ := by
        intro τ κ
        refine pq140 τ ?_
        refine st148.trans ?_
        exact κ
      have KC148 : Keep h0 T148.heap [] := KC138.trans K148 (allS (Or.inr (Nat.le_trans (Nat.le_refl _) (Nat.le_of_eq g132.symm))) all0)
      have CH148 := CHv.keep K148 (sfS f147 sf0) CH138
      have CR148 := CHr.trans CR138 (CHr.keep K148 (sfS f147 sf0) CH138)
      have SK148 := Nat.le_trans SK138 K148.1
      have ecs150 : own_cs p0 p1 p2 = [(p1), (p2)] := by simp [own_cs, hc1_102, hc17_115]
      have vcs150 := Vt148
      rw [show nar .char (p1) = (p1) from own_narE _ (hp1)] at vcs150
      rw [show nar .char (p2) = (p2) from own_narE _ (hp2)] at vcs150
      have SKe := SK148
      obtain ⟨fs, hrE, hrun, hended, hEnd⟩ := X148.leaveW SI0 SKe (v := some (.ref b132)) (fun h => by rw [Bd.returns] at h; cases h)
      have CHe := CHr.trans CR148 (CHv.at X148 hZ hEW CH148)
      have pqE := pq149
      rw [hA0] at pqE
      refine ⟨_, _, pqE _ ?_, hrun, hended, _, _, rfl, ?_, ?_, hEnd.1, hEnd.2.1, hEnd.2.2.1, hEnd.2.2.2.mono (by decide) (by decide)⟩
      · show Steps pP.tables e below (T148.setTop (mkF m 53 #[.val (.int p0), .val (.int p1), .val (.int p2)] [(.ref b132)])) _
        exact retOut X148 hx Bd.returns rfl (Or.inr (Or.inr (Or.inr (Or.inr ⟨rfl, rfl, rfl⟩)))) (hb hby d_rm_mk_53) hrE
      · show Q_rm_mk Z p0 p1 p2 h0 n0 _ T148.heap _
        exact ⟨b132, t148, _, rfl, N148, KC148, Ex148, Fc148, Fv148, by rw [ecs150]; exact vcs150⟩
      · show CHr Z consts_1 s.vm s.heap T148.vm T148.heap
        rw [hh]; exact CHe
def Q_rm_rec (h0 : Heap) (n0 : Nat) (v : Option Value) (h : Heap) (L : List Loc) : Prop := v = none ∧ Fr n0 L ∧ h = h0
theorem d_rm_rec_0 : decode jdk_30_method_1_code 0 = .ok (.aload_n 0, 1) := by decide +kernel
theorem d_rm_rec_1 : decode jdk_30_method_1_code 1 = .ok (.invokespecial 1, 3) := by decide +kernel
theorem d_rm_rec_4 : decode jdk_30_method_1_code 4 = .ok (.return_, 1) := by decide +kernel
theorem ef_rm_rec (m : MethodId) (x0 : Addr) : entryFrame m #[(.ref x0)] 1 = mkF m 0 #[.val (.ref x0)] [] := by first | (simp [entryFrame, mkF, argsToLocals, Value.category]; done) | rfl
set_option maxRecDepth 65536 in
set_option maxHeartbeats 3000000 in
theorem rm_rec (l : Launch) (Z : State) (a0 : Array Value) (hw : ∀ d ∈ tables_1, d.before a0 Z = true) (ws : List Jvm.Cond) (a : Addr) (h0 : Heap) (n0 : Nat) (Z0 : n0 ≤ h0.size) :
    MetFree l (⟨"java/lang/Record", "<init>", "()V"⟩ : MethodName) (head1 (Jvm.Cond.code (⟨"java/lang/Record", "<init>", "()V"⟩ : MethodName) jdk_30_method_1_code 1 none :: ws) ({ frames := 1, cells := 0, slots := 0, locals := 12 } : Room)) (fun αs U => αs = #[(.ref a)] ∧ Z.Warmed39 U.vm ∧ U.heap = h0) (fun _ _ _ _ _ => True) (fun _ U o U' => ∃ v L, o = .returned v ∧ Q_rm_rec h0 n0 v U'.heap L ∧ FrameEnd U o U' L ({ frames := 1, cells := 0, slots := 0, locals := 12 } : Room).cells ({ frames := 1, cells := 0, slots := 0, locals := 12 } : Room).slots) := by
  refine MetFree.of_bodySF (plainFor_of_name pno_5) hisR ?_
  intro pP e s m args below meth cC s₁ Bd hml0 hP hK
  obtain ⟨rfl, hZ, hh⟩ := hP
  have hx := Bd.exec
  have hby := Bd.bytes
  have hml : cC.maxLocals = 1 := hml0
  have hown : s.vm.findClass "java/lang/Record" = some m.cls := findClass_of_methodNamed Bd.named
  have hnm := (name_of_methodNamed Bd.named Bd.method).1
  have X0 : Stand pP l e ({ frames := 1, cells := 0, slots := 0, locals := 12 } : Room) s m #[(.ref a)] below meth cC s₁ [] 0 0 := Stand.of_body Bd
  have e0 : s₁.heap = h0 := by rw [← hh, Bd.state]; rfl
  have N0 := Fr.nil n0
  have KC0 : Keep h0 h0 [] := Keep.refl h0 _
  obtain ⟨A0, hA0⟩ : ∃ z, z = s₁.setTop (entryFrame m #[(.ref a)] 1) := ⟨_, rfl⟩
  have pre0 : ∀ τ, Steps pP.tables e below (s₁.setTop (mkF m 0 #[.val (.ref a)] [])) τ → Steps pP.tables e below A0 τ := fun τ κ => by rw [hA0]; exact castTop (ef_rm_rec m a) κ
  obtain ⟨T101, X101, e101, st101⟩ := initO X0 hx hZ hown (hw _ (List.mem_of_getElem? (i := 39) rfl)) (hw _ (List.mem_of_getElem? (i := 17) rfl)) (hw _ (List.mem_of_getElem? (i := 18) rfl)) e0 (g := (mkF m 1 #[.val (.ref a)] [(.ref a)])) rfl (by rw [hml]; rfl) rfl (hb hby d_rm_rec_1) (by decide) (W := 0) (by show 2 * 0 + _ ≤ _; exact Nat.le_of_eq rfl) (by decide)
  have pq102 : ∀ τ, Steps pP.tables e below (T101.setTop (mkF m 4 #[.val (.ref a)] [])) τ → Steps pP.tables e below A0 τ := by
    intro τ κ
    refine pre0 τ ?_
    refine XS.aloadN X0.here hx rfl (hb hby d_rm_rec_0) rfl rfl ?_
    refine st101 _ ?_
    exact κ
  obtain ⟨fs, hrE, hrun, hended, hW, hsame⟩ := X101.leave (v := none) (fun _ => rfl)
  have pqE := pq102
  rw [hA0] at pqE
  refine ⟨_, _, pqE _ ?_, hrun, hended, _, _, rfl, ?_, ⟨_, rfl⟩, hW, hsame.mono (by decide) (by decide)⟩
  · show Steps pP.tables e below (T101.setTop (mkF m 4 #[.val (.ref a)] [])) _
    exact X101.returnOut hx Bd.returns (hb hby d_rm_rec_4) hrE
  · show Q_rm_rec h0 n0 _ T101.heap _
    rw [e101]
    exact ⟨rfl, N0, rfl⟩
def Q_rm_ctor (Z : State) (a : Addr) (r0 : Int32) (c1 c2 c3 : Addr) (h0 : Heap) (n0 : Nat) (v : Option Value) (h : Heap) (L : List Loc) : Prop := v = none ∧ Fr n0 L ∧ Keep h0 h [a] ∧ Exa Z h a "com/example/stateful_search/statefulsearch/session/SearchResult" ∧ Fld Z h a "com/example/stateful_search/statefulsearch/session/SearchResult" "title" "Ljava/lang/String;" (.ref c2) ∧ Fld Z h a "com/example/stateful_search/statefulsearch/session/SearchResult" "snippet" "Ljava/lang/String;" (.ref c3)
theorem d_rm_ctor_0 : decode prog_31_method_1_code 0 = .ok (.aload_n 0, 1) := by decide +kernel
theorem d_rm_ctor_1 : decode prog_31_method_1_code 1 = .ok (.invokespecial 1, 3) := by decide +kernel
theorem d_rm_ctor_4 : decode prog_31_method_1_code 4 = .ok (.aload_n 0, 1) := by decide +kernel
theorem d_rm_ctor_5 : decode prog_31_method_1_code 5 = .ok (.iload_n 1, 1) := by decide +kernel
theorem d_rm_ctor_6 : decode prog_31_method_1_code 6 = .ok (.putfield 7, 3) := by decide +kernel
theorem d_rm_ctor_9 : decode prog_31_method_1_code 9 = .ok (.aload_n 0, 1) := by decide +kernel
theorem d_rm_ctor_10 : decode prog_31_method_1_code 10 = .ok (.aload_n 2, 1) := by decide +kernel
theorem d_rm_ctor_11 : decode prog_31_method_1_code 11 = .ok (.putfield 13, 3) := by decide +kernel
theorem d_rm_ctor_14 : decode prog_31_method_1_code 14 = .ok (.aload_n 0, 1) := by decide +kernel
theorem d_rm_ctor_15 : decode prog_31_method_1_code 15 = .ok (.aload_n 3, 1) := by decide +kernel
theorem d_rm_ctor_16 : decode prog_31_method_1_code 16 = .ok (.putfield 17, 3) := by decide +kernel
theorem d_rm_ctor_19 : decode prog_31_method_1_code 19 = .ok (.aload_n 0, 1) := by decide +kernel
theorem d_rm_ctor_20 : decode prog_31_method_1_code 20 = .ok (.aload 4, 2) := by decide +kernel
theorem d_rm_ctor_22 : decode prog_31_method_1_code 22 = .ok (.putfield 20, 3) := by decide +kernel
theorem d_rm_ctor_25 : decode prog_31_method_1_code 25 = .ok (.return_, 1) := by decide +kernel
theorem ef_rm_ctor (m : MethodId) (x0 : Addr) (x1 : Int32) (x2 : Addr) (x3 : Addr) (x4 : Addr) : entryFrame m #[(.ref x0), (.int x1), (.ref x2), (.ref x3), (.ref x4)] 5 = mkF m 0 #[.val (.ref x0), .val (.int x1), .val (.ref x2), .val (.ref x3), .val (.ref x4)] [] := by first | (simp [entryFrame, mkF, argsToLocals, Value.category]; done) | rfl
set_option maxRecDepth 65536 in
set_option maxHeartbeats 3000000 in
theorem rm_ctor (l : Launch) (Z : State) (a0 : Array Value) (hw : ∀ d ∈ tables_1, d.before a0 Z = true) (ws : List Jvm.Cond) (a : Addr) (r0 : Int32) (c1 c2 c3 : Addr) (h0 : Heap) (n0 : Nat) (Z0 : n0 ≤ h0.size) (E_a : Exa Z h0 a "com/example/stateful_search/statefulsearch/session/SearchResult") (ga : n0 ≤ a) (F_rank : Fld Z h0 a "com/example/stateful_search/statefulsearch/session/SearchResult" "rank" "I" (.int (0 : Int32))) (F_docno : Fld Z h0 a "com/example/stateful_search/statefulsearch/session/SearchResult" "docno" "Ljava/lang/String;" .null) (F_title : Fld Z h0 a "com/example/stateful_search/statefulsearch/session/SearchResult" "title" "Ljava/lang/String;" .null) (F_snippet : Fld Z h0 a "com/example/stateful_search/statefulsearch/session/SearchResult" "snippet" "Ljava/lang/String;" .null) :
    MetFree l (⟨"com/example/stateful_search/statefulsearch/session/SearchResult", "<init>", "(ILjava/lang/String;Ljava/lang/String;Ljava/lang/String;)V"⟩ : MethodName) (head1 (Jvm.Cond.code (⟨"com/example/stateful_search/statefulsearch/session/SearchResult", "<init>", "(ILjava/lang/String;Ljava/lang/String;Ljava/lang/String;)V"⟩ : MethodName) prog_31_method_1_code 5 none :: ws) ({ frames := 2, cells := 0, slots := 0, locals := 24 } : Room)) (fun αs U => αs = #[(.ref a), (.int r0), (.ref c1), (.ref c2), (.ref c3)] ∧ Z.Warmed39 U.vm ∧ U.heap = h0) (fun _ _ _ _ _ => True) (fun _ U o U' => ∃ v L, o = .returned v ∧ Q_rm_ctor Z a r0 c1 c2 c3  h0 n0 v U'.heap L ∧ FrameEnd U o U' L ({ frames := 2, cells := 0, slots := 0, locals := 24 } : Room).cells ({ frames := 2, cells := 0, slots := 0, locals := 24 } : Room).slots) := by
  refine MetFree.of_bodySF (plainFor_of_name pno_6) hisR ?_
  intro pP e s m args below meth cC s₁ Bd hml0 hP hK
  obtain ⟨rfl, hZ, hh⟩ := hP
  have hx := Bd.exec
  have hby := Bd.bytes
  have hml : cC.maxLocals = 5 := hml0
  have hown : s.vm.findClass "com/example/stateful_search/statefulsearch/session/SearchResult" = some m.cls := findClass_of_methodNamed Bd.named
  have hnm := (name_of_methodNamed Bd.named Bd.method).1
  have X0 : Stand pP l e ({ frames := 2, cells := 0, slots := 0, locals := 24 } : Room) s m #[(.ref a), (.int r0), (.ref c1), (.ref c2), (.ref c3)] below meth cC s₁ [] 0 0 := Stand.of_body Bd
  have e0 : s₁.heap = h0 := by rw [← hh, Bd.state]; rfl
  have N0 := Fr.nil n0
  have KC0 : Keep h0 h0 [a] := Keep.refl h0 _
  obtain ⟨A0, hA0⟩ : ∃ z, z = s₁.setTop (entryFrame m #[(.ref a), (.int r0), (.ref c1), (.ref c2), (.ref c3)] 5) := ⟨_, rfl⟩
  have pre0 : ∀ τ, Steps pP.tables e below (s₁.setTop (mkF m 0 #[.val (.ref a), .val (.int r0), .val (.ref c1), .val (.ref c2), .val (.ref c3)] [])) τ → Steps pP.tables e below A0 τ := fun τ κ => by rw [hA0]; exact castTop (ef_rm_ctor m a r0 c1 c2 c3) κ
  obtain ⟨_, _, ⟨T101, L101, k101, n101⟩, -, X101, ⟨Lc101, hQ101, l101, y101, z101⟩, st101⟩ := X0.specialBack hx (y := (⟨"java/lang/Record", "<init>", "()V"⟩ : MethodName)) rfl hown (mvT hZ (hw _ (List.mem_of_getElem? (i := 34) rfl))) (mvT hZ (hw _ (List.mem_of_getElem? (i := 35) rfl))) (mvT hZ (hw _ (List.mem_of_getElem? (i := 38) rfl))) (by decide) (backOf (W := 0) (rm_rec l Z a0 hw [] a h0 n0 Z0 ) hZ (hw _ (List.mem_of_getElem? (i := 38) rfl)) (hw _ (List.mem_of_getElem? (i := 37) rfl)) (by decide) (by decide)) (g := (mkF m 1 #[.val (.ref a), .val (.int r0), .val (.ref c1), .val (.ref c2), .val (.ref c3)] [(.ref a)])) rfl (by rw [hml]; rfl) (Steps.refl _) (a := a) (argsL := []) (rest := []) (lenOf pdo_16 rfl) rfl (by show 2 * 0 + _ ≤ _; exact Nat.le_of_eq rfl) (hb hby d_rm_ctor_1) (fun _ _ => ⟨rfl, e0, (by decide : 0 + 0 ≤ _), (by decide : 0 + 0 ≤ _)⟩)
  dsimp only [Pt.U, Pt.locs, Pt.cells, Pt.slots] at X101 l101 y101 z101 st101 hQ101
  subst l101 y101 z101
  obtain ⟨rfl, Nq101, eq101⟩ := hQ101
  have N101 := Fr.app N0 Nq101
  have pq102 : ∀ τ, Steps pP.tables e below (T101.setTop (mkF m 4 #[.val (.ref a), .val (.int r0), .val (.ref c1), .val (.ref c2), .val (.ref c3)] [])) τ → Steps pP.tables e below A0 τ := by
    intro τ κ
    refine pre0 τ ?_
    refine XS.aloadN X0.here hx rfl (hb hby d_rm_ctor_0) rfl rfl ?_
    refine st101.trans ?_
    exact κ
  obtain ⟨T103, h103, X103, e103, W103, st103⟩ := putF X101 hx hZ hown (host := "") (Or.inl (hw _ (List.mem_of_getElem? (i := 40) rfl))) Via.refl eq101 F_rank E_a (Or.inr ⟨(hw _ (List.mem_of_getElem? (i := 41) rfl)), rfl, hnm⟩) (hw _ (List.mem_of_getElem? (i := 28) rfl)) (ty := .int) (by decide) rfl rfl (g := (mkF m 6 #[.val (.ref a), .val (.int r0), .val (.ref c1), .val (.ref c2), .val (.ref c3)] [(.int r0), (.ref a)])) rfl rfl (hb hby d_rm_ctor_6)
  have pq104 : ∀ τ, Steps pP.tables e below (T103.setTop (mkF m 9 #[.val (.ref a), .val (.int r0), .val (.ref c1), .val (.ref c2), .val (.ref c3)] [])) τ → Steps pP.tables e below A0 τ := by
    intro τ κ
    refine pq102 τ ?_
    refine XS.aloadN X101.here hx rfl (hb hby d_rm_ctor_4) rfl rfl ?_
    refine XS.iloadN X101.here hx rfl (hb hby d_rm_ctor_5) rfl ?_
    refine st103 _ ?_
    exact κ
  have KC103 : Keep h0 h103 [a] := KC0.wr W103 (Or.inl (List.mem_of_getElem? (i := 0) rfl))
  have Fw103 := F_rank.same W103
  have N103 := Fr.snoc X103 N101 ga
  have f105 := (E_a.wr W103)
  have f106 := (F_docno.other W103 (Or.inr (slot_ne (Or.inr (hw _ (List.mem_of_getElem? (i := 43) rfl))) (Or.inr (hw _ (List.mem_of_getElem? (i := 41) rfl))) (by decide) (t := (.object "java/lang/String")) (t' := .int) (by decide) (by decide))))
  obtain ⟨T107, h107, X107, e107, W107, st107⟩ := putF X103 hx hZ hown (host := "") (Or.inl (hw _ (List.mem_of_getElem? (i := 42) rfl))) Via.refl e103 f106 f105 (Or.inr ⟨(hw _ (List.mem_of_getElem? (i := 43) rfl)), rfl, hnm⟩) (hw _ (List.mem_of_getElem? (i := 28) rfl)) (ty := (.object "java/lang/String")) (by decide) rfl rfl (g := (mkF m 11 #[.val (.ref a), .val (.int r0), .val (.ref c1), .val (.ref c2), .val (.ref c3)] [(.ref c1), (.ref a)])) rfl rfl (hb hby d_rm_ctor_11)
  have pq108 : ∀ τ, Steps pP.tables e below (T107.setTop (mkF m 14 #[.val (.ref a), .val (.int r0), .val (.ref c1), .val (.ref c2), .val (.ref c3)] [])) τ → Steps pP.tables e below A0 τ := by
    intro τ κ
    refine pq104 τ ?_
    refine XS.aloadN X103.here hx rfl (hb hby d_rm_ctor_9) rfl rfl ?_
    refine XS.aloadN X103.here hx rfl (hb hby d_rm_ctor_10) rfl rfl ?_
    refine st107 _ ?_
    exact κ
  have KC107 : Keep h0 h107 [a] := KC103.wr W107 (Or.inl (List.mem_of_getElem? (i := 0) rfl))
  have Fw107 := f106.same W107
  have N107 := Fr.snoc X107 N103 ga
  have f109 := (f105.wr W107)
  have f110 := ((F_title.other W103 (Or.inr (slot_ne (Or.inr (hw _ (List.mem_of_getElem? (i := 45) rfl))) (Or.inr (hw _ (List.mem_of_getElem? (i := 41) rfl))) (by decide) (t := (.object "java/lang/String")) (t' := .int) (by decide) (by decide)))).other W107 (Or.inr (slot_ne (Or.inr (hw _ (List.mem_of_getElem? (i := 45) rfl))) (Or.inr (hw _ (List.mem_of_getElem? (i := 43) rfl))) (by decide) (t := (.object "java/lang/String")) (t' := (.object "java/lang/String")) (by decide) (by decide))))
  obtain ⟨T111, h111, X111, e111, W111, st111⟩ := putF X107 hx hZ hown (host := "") (Or.inl (hw _ (List.mem_of_getElem? (i := 44) rfl))) Via.refl e107 f110 f109 (Or.inr ⟨(hw _ (List.mem_of_getElem? (i := 45) rfl)), rfl, hnm⟩) (hw _ (List.mem_of_getElem? (i := 28) rfl)) (ty := (.object "java/lang/String")) (by decide) rfl rfl (g := (mkF m 16 #[.val (.ref a), .val (.int r0), .val (.ref c1), .val (.ref c2), .val (.ref c3)] [(.ref c2), (.ref a)])) rfl rfl (hb hby d_rm_ctor_16)
  have pq112 : ∀ τ, Steps pP.tables e below (T111.setTop (mkF m 19 #[.val (.ref a), .val (.int r0), .val (.ref c1), .val (.ref c2), .val (.ref c3)] [])) τ → Steps pP.tables e below A0 τ := by
    intro τ κ
    refine pq108 τ ?_
    refine XS.aloadN X107.here hx rfl (hb hby d_rm_ctor_14) rfl rfl ?_
    refine XS.aloadN X107.here hx rfl (hb hby d_rm_ctor_15) rfl rfl ?_
    refine st111 _ ?_
    exact κ
  have KC111 : Keep h0 h111 [a] := KC107.wr W111 (Or.inl (List.mem_of_getElem? (i := 0) rfl))
  have Fw111 := f110.same W111
  have N111 := Fr.snoc X111 N107 ga
  have f113 := (f109.wr W111)
  have f114 := (((F_snippet.other W103 (Or.inr (slot_ne (Or.inr (hw _ (List.mem_of_getElem? (i := 47) rfl))) (Or.inr (hw _ (List.mem_of_getElem? (i := 41) rfl))) (by decide) (t := (.object "java/lang/String")) (t' := .int) (by decide) (by decide)))).other W107 (Or.inr (slot_ne (Or.inr (hw _ (List.mem_of_getElem? (i := 47) rfl))) (Or.inr (hw _ (List.mem_of_getElem? (i := 43) rfl))) (by decide) (t := (.object "java/lang/String")) (t' := (.object "java/lang/String")) (by decide) (by decide)))).other W111 (Or.inr (slot_ne (Or.inr (hw _ (List.mem_of_getElem? (i := 47) rfl))) (Or.inr (hw _ (List.mem_of_getElem? (i := 45) rfl))) (by decide) (t := (.object "java/lang/String")) (t' := (.object "java/lang/String")) (by decide) (by decide))))
  obtain ⟨T115, h115, X115, e115, W115, st115⟩ := putF X111 hx hZ hown (host := "") (Or.inl (hw _ (List.mem_of_getElem? (i := 46) rfl))) Via.refl e111 f114 f113 (Or.inr ⟨(hw _ (List.mem_of_getElem? (i := 47) rfl)), rfl, hnm⟩) (hw _ (List.mem_of_getElem? (i := 28) rfl)) (ty := (.object "java/lang/String")) (by decide) rfl rfl (g := (mkF m 22 #[.val (.ref a), .val (.int r0), .val (.ref c1), .val (.ref c2), .val (.ref c3)] [(.ref c3), (.ref a)])) rfl rfl (hb hby d_rm_ctor_22)
  have pq116 : ∀ τ, Steps pP.tables e below (T115.setTop (mkF m 25 #[.val (.ref a), .val (.int r0), .val (.ref c1), .val (.ref c2), .val (.ref c3)] [])) τ → Steps pP.tables e below A0 τ := by
    intro τ κ
    refine pq112 τ ?_
    refine XS.aloadN X111.here hx rfl (hb hby d_rm_ctor_19) rfl rfl ?_
    refine XS.aload X111.here hx rfl (hb hby d_rm_ctor_20) rfl rfl ?_
    refine st115 _ ?_
    exact κ
  have KC115 : Keep h0 h115 [a] := KC111.wr W115 (Or.inl (List.mem_of_getElem? (i := 0) rfl))
  have Fw115 := f114.same W115
  have N115 := Fr.snoc X115 N111 ga
  have f117 := (f113.wr W115)
  have f118 := (Fw111.other W115 (Or.inr (slot_ne (Or.inr (hw _ (List.mem_of_getElem? (i := 45) rfl))) (Or.inr (hw _ (List.mem_of_getElem? (i := 47) rfl))) (by decide) (t := (.object "java/lang/String")) (t' := (.object "java/lang/String")) (by decide) (by decide))))
  obtain ⟨fs, hrE, hrun, hended, hW, hsame⟩ := X115.leave (v := none) (fun _ => rfl)
  have pqE := pq116
  rw [hA0] at pqE
  refine ⟨_, _, pqE _ ?_, hrun, hended, _, _, rfl, ?_, ⟨_, rfl⟩, hW, hsame.mono (by decide) (by decide)⟩
  · show Steps pP.tables e below (T115.setTop (mkF m 25 #[.val (.ref a), .val (.int r0), .val (.ref c1), .val (.ref c2), .val (.ref c3)] [])) _
    exact X115.returnOut hx Bd.returns (hb hby d_rm_ctor_25) hrE
  · show Q_rm_ctor Z a r0 c1 c2 c3  h0 n0 _ T115.heap _
    rw [e115]
    exact ⟨rfl, N115, KC115, f117, f118, Fw115⟩
def Q_con (Z : State) (cs1 cs2 : List Int32) (h0 : Heap) (n0 : Nat) (v : Option Value) (h : Heap) (L : List Loc) : Prop := ∃ (a t : Addr) (kb : ClassId), v = some (.ref a) ∧ Fr n0 L ∧ Keep h0 h [] ∧ Exa Z h a "java/lang/String" ∧ Fld Z h a "java/lang/String" "coder" "B" (.int 0) ∧ Fld Z h a "java/lang/String" "value" "[B" (.ref t) ∧ Arv Z h t kb .byte (Int32.ofNat (((([] ++ cs1) ++ [(10 : Int32)]) ++ cs2)).length) (((((([] ++ cs1) ++ [(10 : Int32)]) ++ cs2)).map (fun c : Int32 => c.toInt8.toInt32)).map Value.int) (.int 0)
theorem d_rm_con_0 : decode prog_31_method_2_code 0 = .ok (.new 23, 3) := by decide +kernel
theorem d_rm_con_3 : decode prog_31_method_2_code 3 = .ok (.dup, 1) := by decide +kernel
theorem d_rm_con_4 : decode prog_31_method_2_code 4 = .ok (.invokespecial 25, 3) := by decide +kernel
theorem d_rm_con_7 : decode prog_31_method_2_code 7 = .ok (.aload_n 0, 1) := by decide +kernel
theorem d_rm_con_8 : decode prog_31_method_2_code 8 = .ok (.getfield 17, 3) := by decide +kernel
theorem d_rm_con_11 : decode prog_31_method_2_code 11 = .ok (.invokevirtual 26, 3) := by decide +kernel
theorem d_rm_con_14 : decode prog_31_method_2_code 14 = .ok (.ldc 30, 2) := by decide +kernel
theorem d_rm_con_16 : decode prog_31_method_2_code 16 = .ok (.invokevirtual 26, 3) := by decide +kernel
theorem d_rm_con_19 : decode prog_31_method_2_code 19 = .ok (.aload_n 0, 1) := by decide +kernel
theorem d_rm_con_20 : decode prog_31_method_2_code 20 = .ok (.getfield 20, 3) := by decide +kernel
theorem d_rm_con_23 : decode prog_31_method_2_code 23 = .ok (.invokevirtual 26, 3) := by decide +kernel
theorem d_rm_con_26 : decode prog_31_method_2_code 26 = .ok (.invokevirtual 32, 3) := by decide +kernel
theorem d_rm_con_29 : decode prog_31_method_2_code 29 = .ok (.areturn, 1) := by decide +kernel
theorem ef_rm_con (m : MethodId) (x0 : Addr) : entryFrame m #[(.ref x0)] 1 = mkF m 0 #[.val (.ref x0)] [] := by first | (simp [entryFrame, mkF, argsToLocals, Value.category]; done) | rfl
set_option maxRecDepth 65536 in
set_option maxHeartbeats 3000000 in
theorem rm_con (l : Launch) (Z : State) (a0 : Array Value) (hw : ∀ d ∈ tables_1, d.before a0 Z = true) (hEW : EW Z a0 consts_1) (ws : List Jvm.Cond) (a x1 t1 : Addr) (kb1 : ClassId) (cs1 : List Int32) (x2 t2 : Addr) (kb2 : ClassId) (cs2 : List Int32) (G1 : Int32) (h0 : Heap) (n0 : Nat) (Z0 : n0 ≤ h0.size) (O2 : Sta Z Z.heap "java/lang/String" "COMPACT_STRINGS" "Z" (.int G1)) (P5 : ¬ (G1 = (0 : Int32))) (X00 : Old Z n0 h0) (F_1 : Fld Z h0 a "com/example/stateful_search/statefulsearch/session/SearchResult" "title" "Ljava/lang/String;" (.ref x1)) (F_2 : Fld Z h0 a "com/example/stateful_search/statefulsearch/session/SearchResult" "snippet" "Ljava/lang/String;" (.ref x2)) (E_1 : Exa Z h0 x1 "java/lang/String") (F_c1 : Fld Z h0 x1 "java/lang/String" "coder" "B" (.int 0)) (F_v1 : Fld Z h0 x1 "java/lang/String" "value" "[B" (.ref t1)) (V_t1 : Arv Z h0 t1 kb1 .byte (Int32.ofNat (cs1).length) (((cs1).map (fun c : Int32 => c.toInt8.toInt32)).map Value.int) (.int 0)) (E_2 : Exa Z h0 x2 "java/lang/String") (F_c2 : Fld Z h0 x2 "java/lang/String" "coder" "B" (.int 0)) (F_v2 : Fld Z h0 x2 "java/lang/String" "value" "[B" (.ref t2)) (V_t2 : Arv Z h0 t2 kb2 .byte (Int32.ofNat (cs2).length) (((cs2).map (fun c : Int32 => c.toInt8.toInt32)).map Value.int) (.int 0)) (hl1 : (cs1).length ≤ 2) (hl2 : (cs2).length ≤ 2) :
    MetFree l (⟨"com/example/stateful_search/statefulsearch/session/SearchResult", "summary", "()Ljava/lang/String;"⟩ : MethodName) (head1 (Jvm.Cond.code (⟨"com/example/stateful_search/statefulsearch/session/SearchResult", "summary", "()Ljava/lang/String;"⟩ : MethodName) prog_31_method_2_code 1 (some (.object "java/lang/String")) :: ws) ({ frames := 6, cells := 6, slots := 48, locals := 91 } : Room)) (fun αs U => αs = #[(.ref a)] ∧ Z.Warmed39 U.vm ∧ U.heap = h0 ∧ CHv Z consts_1 U.vm h0) (fun _ _ _ _ _ => True) (fun _ U o U' => ∃ v L, o = .returned v ∧ Q_con Z cs1 cs2 h0 n0 v U'.heap L ∧ CHr Z consts_1 U.vm U.heap U'.vm U'.heap ∧ ReturnedEndW U o U' L ({ frames := 6, cells := 6, slots := 48, locals := 91 } : Room).cells ({ frames := 6, cells := 6, slots := 48, locals := 91 } : Room).slots) := by
  refine MetFree.of_bodySF (plainFor_of_name pno_6) hisR ?_
  intro pP e s m args below meth cC s₁ Bd hml0 hP hK
  obtain ⟨rfl, hZ, hh, CH0⟩ := hP
  have hx := Bd.exec
  have hby := Bd.bytes
  have hml : cC.maxLocals = 1 := hml0
  have hown : s.vm.findClass "com/example/stateful_search/statefulsearch/session/SearchResult" = some m.cls := findClass_of_methodNamed Bd.named
  have hnm := (name_of_methodNamed Bd.named Bd.method).1
  have X0 : Stand pP l e ({ frames := 6, cells := 6, slots := 48, locals := 91 } : Room) (s.setVm s.vm) m #[(.ref a)] below meth cC s₁ [] 0 0 := Stand.of_body Bd
  have e0 : s₁.heap = h0 := by rw [← hh, Bd.state]; rfl
  have N0 := Fr.nil n0
  have KC0 : Keep h0 h0 [] := Keep.refl h0 _
  replace hZ : Z.Warmed39 (s.setVm s.vm).vm := hZ
  replace hown : (s.setVm s.vm).vm.findClass "com/example/stateful_search/statefulsearch/session/SearchResult" = some m.cls := hown
  have SI0 : s.Since s.vm h0.size := (State.WarmedH.refl s).since _
  have SK0 : h0.size ≤ h0.size := Nat.le_refl _
  have CR0 : CHr Z consts_1 s.vm h0 s.vm h0 := CHr.refl CH0
  obtain ⟨A0, hA0⟩ : ∃ z, z = s₁.setTop (entryFrame m #[(.ref a)] 1) := ⟨_, rfl⟩
  have pre0 : ∀ τ, Steps pP.tables e below (s₁.setTop (mkF m 0 #[.val (.ref a)] [])) τ → Steps pP.tables e below A0 τ := fun τ κ => by rw [hA0]; exact castTop (ef_rm_con m a) κ
  have wS : ∀ a ∈ Bundle.stringAtoms, a.before a0 Z = true := fun d hd => hw d ((by decide +kernel : ∀ d ∈ Bundle.stringAtoms, d ∈ tables_1) d hd)
  obtain ⟨T101, h101, X101, e101, E101, A101, D101, -, st101⟩ := newO X0 hx hZ hown (hw _ (List.mem_of_getElem? (i := 53) rfl)) (hw _ (List.mem_of_getElem? (i := 54) rfl)) (hw _ (List.mem_of_getElem? (i := 55) rfl)) e0 (g := (mkF m 0 #[.val (.ref a)] [])) rfl (hb hby d_rm_con_0) (by decide) (by decide)
  obtain ⟨b101, g101⟩ : ∃ z, z = h0.size := ⟨_, rfl⟩
  rw [← g101] at A101 D101 st101
  have pq102 : ∀ τ, Steps pP.tables e below (T101.setTop (mkF m 3 #[.val (.ref a)] [(.ref b101)])) τ → Steps pP.tables e below A0 τ := by
    intro τ κ
    refine pre0 τ ?_
    refine st101 _ ?_
    exact κ
  have KC101 : Keep h0 h101 [] := KC0.ext E101
  have CH101 := CHv.ext E101 CH0
  have CR101 := CHr.trans CR0 (CHr.ext E101 CH0)
  have SK101 := Nat.le_trans SK0 E101.1
  have Sf101 := Safe.ext (x := b101) E101 CH0 (Safe.new (Nat.le_of_eq g101.symm))
  have F_value_b101 : Fld Z h101 b101 "java/lang/AbstractStringBuilder" "value" "[B" .null := D101 (Or.inl (hw _ (List.mem_of_getElem? (i := 68) rfl))) (ty := (.array .byte)) (by decide)
  have F_coder_b101 : Fld Z h101 b101 "java/lang/AbstractStringBuilder" "coder" "B" (.int (0 : Int32)) := D101 (Or.inl (hw _ (List.mem_of_getElem? (i := 70) rfl))) (ty := .byte) (by decide)
  have F_count_b101 : Fld Z h101 b101 "java/lang/AbstractStringBuilder" "count" "I" (.int (0 : Int32)) := D101 (Or.inl (hw _ (List.mem_of_getElem? (i := 93) rfl))) (ty := .int) (by decide)
  have f103 := (X00.ext E101)
  have f104 := (Nat.le_trans Z0 E101.1)
  obtain ⟨_, _, ⟨T105, L105, k105, n105⟩, -, X105, ⟨Lc105, hQ105, l105, y105, z105⟩, st105⟩ := X101.specialBack hx (y := (⟨"java/lang/StringBuilder", "<init>", "()V"⟩ : MethodName)) rfl hown (mvT hZ (hw _ (List.mem_of_getElem? (i := 56) rfl))) (mvT hZ (hw _ (List.mem_of_getElem? (i := 57) rfl))) (mvT hZ (hw _ (List.mem_of_getElem? (i := 58) rfl))) (by decide) (backOf (W := 1) (rm_sbi l Z a0 hw [] b101 G1 h101 n0 f104 O2 P5 f103 A101 (Nat.le_trans Z0 (Nat.le_of_eq g101.symm)) F_value_b101 F_coder_b101 F_count_b101) hZ (hw _ (List.mem_of_getElem? (i := 58) rfl)) (hw _ (List.mem_of_getElem? (i := 55) rfl)) (by decide) (by decide)) (g := (mkF m 4 #[.val (.ref a)] [(.ref b101), (.ref b101)])) rfl (by rw [hml]; rfl) (Steps.refl _) (a := b101) (argsL := []) (rest := [(.ref b101)]) (lenOf pdo_16 rfl) rfl (by show 2 * 0 + _ ≤ _; exact Nat.le_of_eq rfl) (hb hby d_rm_con_4) (fun _ _ => ⟨rfl, e101, (by decide : 1 + 1 ≤ _), (by decide : 4 + 16 ≤ _)⟩)
  dsimp only [Pt.U, Pt.locs, Pt.cells, Pt.slots] at X105 l105 y105 z105 st105 hQ105
  subst l105 y105 z105
  obtain ⟨vb105, kv105, rfl, Nq105, K105, lb105, Ex105, Fv105, Fc105, Fn105, V105⟩ := hQ105
  have N105 := Fr.app N0 Nq105
  have pq106 : ∀ τ, Steps pP.tables e below (T105.setTop (mkF m 7 #[.val (.ref a)] [(.ref b101)])) τ → Steps pP.tables e below A0 τ := by
    intro τ κ
    refine pq102 τ ?_
    refine XS.dup X101.here hx rfl (hb hby d_rm_con_3) rfl rfl ?_
    refine st105.trans ?_
    exact κ
  have KC105 : Keep h0 T105.heap [] := KC101.trans K105 (allS (Or.inr (Nat.le_trans (Nat.le_refl _) (Nat.le_of_eq g101.symm))) all0)
  have CH105 := CHv.keep K105 (sfS Sf101 sf0) CH101
  have CR105 := CHr.trans CR101 (CHr.keep K105 (sfS Sf101 sf0) CH101)
  have SK105 := Nat.le_trans SK101 K105.1
  have f107 := ((F_1.ext E101).keep K105 (ninS (Nat.ne_of_lt (Nat.lt_of_lt_of_le F_1.lt (Nat.le_of_eq g101.symm))) nin0))
  obtain ⟨T108, X108, e108, st108⟩ := getF X105 hx hZ hown (host := "") (Or.inl (hw _ (List.mem_of_getElem? (i := 44) rfl))) Via.refl rfl f107 (g := (mkF m 8 #[.val (.ref a)] [(.ref a), (.ref b101)])) rfl rfl (hb hby d_rm_con_8)
  have pq109 : ∀ τ, Steps pP.tables e below (T108.setTop (mkF m 11 #[.val (.ref a)] [(.ref x1), (.ref b101)])) τ → Steps pP.tables e below A0 τ := by
    intro τ κ
    refine pq106 τ ?_
    refine XS.aloadN X105.here hx rfl (hb hby d_rm_con_7) rfl rfl ?_
    refine st108 _ ?_
    exact κ
  have f110 := (Safe.keep K105 (sfS Sf101 sf0) CH101 Sf101)
  have f111 := (Safe.keep K105 (sfS Sf101 sf0) CH101 (Safe.new lb105))
  have f112 := (f103.keep K105 (allS (Nat.le_trans Z0 (Nat.le_of_eq g101.symm)) all0))
  have f113 := ((E_1.ext E101).keep K105)
  have f114 := ((F_c1.ext E101).keep K105 (ninS (Nat.ne_of_lt (Nat.lt_of_lt_of_le E_1.lt (Nat.le_of_eq g101.symm))) nin0))
  have f115 := ((F_v1.ext E101).keep K105 (ninS (Nat.ne_of_lt (Nat.lt_of_lt_of_le E_1.lt (Nat.le_of_eq g101.symm))) nin0))
  have f116 := ((V_t1.ext E101).keep K105 (ninS (Nat.ne_of_lt (Nat.lt_of_lt_of_le V_t1.lt (Nat.le_of_eq g101.symm))) nin0))
  have f117 := (Nat.le_trans f104 K105.1)
  obtain ⟨cq119, kq119, q119a, q119b, q119c⟩ := isOf hZ e108 Ex105
  obtain ⟨_, _, ⟨T118, L118, k118, n118⟩, -, X118, ⟨Lc118, hQ118, l118, y118, z118⟩, st118⟩ := X108.virtualBack hx (y := (⟨"java/lang/StringBuilder", "append", "(Ljava/lang/String;)Ljava/lang/StringBuilder;"⟩ : MethodName)) (z := (⟨"java/lang/StringBuilder", "append", "(Ljava/lang/String;)Ljava/lang/StringBuilder;"⟩ : MethodName)) hown (mvT hZ (hw _ (List.mem_of_getElem? (i := 71) rfl))) (mvT hZ (hw _ (List.mem_of_getElem? (i := 72) rfl))) (notFace_of_selects (args := #[]) (mvT hZ (hw _ (List.mem_of_getElem? (i := 74) rfl)))) (mvT hZ (hw _ (List.mem_of_getElem? (i := 74) rfl))) (mvT hZ (hw _ (List.mem_of_getElem? (i := 73) rfl))) (by decide) (backOf (W := 0) (rm_app l Z a0 hw [] x1 t1 kb1 cs1 b101 vb105 kv105 [] G1 T105.heap n0 f117 O2 P5 f112 f113 f114 f115 f116 Ex105 Fv105 Fc105 Fn105 V105 (Nat.le_trans f104 lb105) (Nat.ne_of_lt (Nat.lt_of_lt_of_le (V_t1.ext E101).lt lb105)) (by simp only [List.length_append, List.length_nil, List.length_cons]; omega) (Nat.le_trans Z0 (Nat.le_of_eq g101.symm))) hZ (hw _ (List.mem_of_getElem? (i := 75) rfl)) (hw _ (List.mem_of_getElem? (i := 55) rfl)) (by decide) (by decide)) q119a q119c (g := (mkF m 11 #[.val (.ref a)] [(.ref x1), (.ref b101)])) rfl (by rw [hml]; rfl) (Steps.refl _) (argsL := [(.ref x1)]) (rest := []) (lenOf pdo_17 rfl) rfl (by show 2 * 0 + _ ≤ _; exact Nat.le_of_eq rfl) (hb hby d_rm_con_11) (fun _ _ => ⟨rfl, e108, (by decide : 2 + 0 ≤ _), (by decide : 20 + 0 ≤ _)⟩)
  dsimp only [Pt.U, Pt.locs, Pt.cells, Pt.slots] at X118 l118 y118 z118 st118 hQ118
  subst l118 y118 z118
  obtain ⟨rfl, Nq118, K118, Ex118, Fv118, Fc118, Fn118, V118⟩ := hQ118
  have N118 := Fr.app N105 Nq118
  have pq120 : ∀ τ, Steps pP.tables e below (T118.setTop (mkF m 14 #[.val (.ref a)] [(.ref b101)])) τ → Steps pP.tables e below A0 τ := by
    intro τ κ
    refine pq109 τ ?_
    refine st118.trans ?_
    exact κ
  have KC118 : Keep h0 T118.heap [] := KC105.trans K118 (allS (Or.inr (Nat.le_trans (Nat.le_refl _) (Nat.le_of_eq g101.symm))) (allS (Or.inr (Nat.le_trans (Nat.le_trans (Nat.le_refl _) E101.1) lb105)) all0))
  have CH118 := CHv.keep K118 (sfS f110 (sfS f111 sf0)) CH105
  have CR118 := CHr.trans CR105 (CHr.keep K118 (sfS f110 (sfS f111 sf0)) CH105)
  have SK118 := Nat.le_trans SK105 K118.1
  obtain ⟨b121, T121, h121, k121, t121, kb121, X121, e121, E121, SI121, SK121, Z121, O121, A121, Fc121, Fv121, V121, lt121, ltt121, C121, L121, ne121, st121⟩ := ldcCH (s := s) (vm0 := s.vm) (EL := consts_1) X118 hx hZ hown (hw _ (List.mem_of_getElem? (i := 119) rfl)) wS rfl SI0 SK118 hEW (by decide) CH118 (vs := [(.int (10 : Int32))]) (z := (1 : Int32)) (by decide) (by decide) (by decide) (g := (mkF m 14 #[.val (.ref a)] [(.ref b101)])) rfl (hb hby d_rm_con_14) (n := 4) (by decide) (by decide) (by decide) (by decide)
  have pq122 : ∀ τ, Steps pP.tables e below (T121.setTop (mkF m 16 #[.val (.ref a)] [(.ref b121), (.ref b101)])) τ → Steps pP.tables e below A0 τ := by
    intro τ κ
    refine pq120 τ ?_
    refine st121 _ ?_
    exact κ
  have K121 : Keep T118.heap h121 [] := (Keep.refl _ _).ext E121
  have KC121 : Keep h0 h121 [] := KC118.trans K121 all0
  have CH121 := C121.1
  have CR121 := CHr.trans CR118 C121
  have Vc121 : Arv Z h121 t121 kb121 .byte (Int32.ofNat ([(10 : Int32)]).length) ((([(10 : Int32)]).map (fun c : Int32 => c.toInt8.toInt32)).map Value.int) (.int 0) := by first | exact V121 | exact own_cast (by decide) (by decide) V121
  have f123 := (CHr.safe C121 Ex118.lt (Safe.keep K118 (sfS f110 (sfS f111 sf0)) CH105 f110))
  have f124 := (CHr.safe C121 V118.lt (Safe.keep K118 (sfS f110 (sfS f111 sf0)) CH105 f111))
  have f125 := ((f112.keep K118 (allS (Nat.le_trans Z0 (Nat.le_of_eq g101.symm)) (allS (Nat.le_trans f104 lb105) all0))).keep K121 all0)
  have f126 := (Ex118.keep K121)
  have f127 := (Fv118.keep K121 nin0)
  have f128 := (Fc118.keep K121 nin0)
  have f129 := (Fn118.keep K121 nin0)
  have f130 := (V118.keep K121 nin0)
  have f131 := (Nat.le_trans (Nat.le_trans f117 K118.1) K121.1)
  obtain ⟨cq133, kq133, q133a, q133b, q133c⟩ := isOf Z121 e121 f126
  obtain ⟨_, _, ⟨T132, L132, k132, n132⟩, -, X132, ⟨Lc132, hQ132, l132, y132, z132⟩, st132⟩ := X121.virtualBack hx (y := (⟨"java/lang/StringBuilder", "append", "(Ljava/lang/String;)Ljava/lang/StringBuilder;"⟩ : MethodName)) (z := (⟨"java/lang/StringBuilder", "append", "(Ljava/lang/String;)Ljava/lang/StringBuilder;"⟩ : MethodName)) O121 (mvT Z121 (hw _ (List.mem_of_getElem? (i := 71) rfl))) (mvT Z121 (hw _ (List.mem_of_getElem? (i := 72) rfl))) (notFace_of_selects (args := #[]) (mvT Z121 (hw _ (List.mem_of_getElem? (i := 74) rfl)))) (mvT Z121 (hw _ (List.mem_of_getElem? (i := 74) rfl))) (mvT Z121 (hw _ (List.mem_of_getElem? (i := 73) rfl))) (by decide) (backOf (W := 0) (rm_app l Z a0 hw [] b121 t121 kb121 [(10 : Int32)] b101 vb105 kv105 ([] ++ cs1) G1 h121 n0 f131 O2 P5 f125 A121 Fc121 Fv121 Vc121 f126 f127 f128 f129 f130 (Nat.le_trans f104 lb105) (Ne.symm (ne121 _ f124).2) (by simp only [List.length_append, List.length_nil, List.length_cons]; omega) (Nat.le_trans Z0 (Nat.le_of_eq g101.symm))) Z121 (hw _ (List.mem_of_getElem? (i := 75) rfl)) (hw _ (List.mem_of_getElem? (i := 55) rfl)) (by decide) (by decide)) q133a q133c (g := (mkF m 16 #[.val (.ref a)] [(.ref b121), (.ref b101)])) rfl (by rw [hml]; rfl) (Steps.refl _) (argsL := [(.ref b121)]) (rest := []) (lenOf pdo_17 rfl) rfl (by show 2 * 0 + _ ≤ _; exact Nat.le_of_eq rfl) (hb hby d_rm_con_16) (fun _ _ => ⟨rfl, e121, (by decide : 4 + 0 ≤ _), (by decide : 28 + 0 ≤ _)⟩)
  dsimp only [Pt.U, Pt.locs, Pt.cells, Pt.slots] at X132 l132 y132 z132 st132 hQ132
  subst l132 y132 z132
  obtain ⟨rfl, Nq132, K132, Ex132, Fv132, Fc132, Fn132, V132⟩ := hQ132
  have N132 := Fr.app N118 Nq132
  have pq134 : ∀ τ, Steps pP.tables e below (T132.setTop (mkF m 19 #[.val (.ref a)] [(.ref b101)])) τ → Steps pP.tables e below A0 τ := by
    intro τ κ
    refine pq122 τ ?_
    refine st132.trans ?_
    exact κ
  have KC132 : Keep h0 T132.heap [] := KC121.trans K132 (allS (Or.inr (Nat.le_trans (Nat.le_refl _) (Nat.le_of_eq g101.symm))) (allS (Or.inr (Nat.le_trans (Nat.le_trans (Nat.le_refl _) E101.1) lb105)) all0))
  have CH132 := CHv.keep K132 (sfS f123 (sfS f124 sf0)) CH121
  have CR132 := CHr.trans CR121 (CHr.keep K132 (sfS f123 (sfS f124 sf0)) CH121)
  have SK132 := Nat.le_trans SK121 K132.1
  have f135 := (((((F_2.ext E101).keep K105 (ninS (Nat.ne_of_lt (Nat.lt_of_lt_of_le F_1.lt (Nat.le_of_eq g101.symm))) nin0)).keep K118 (ninS (Nat.ne_of_lt (Nat.lt_of_lt_of_le F_1.lt (Nat.le_of_eq g101.symm))) (ninS (Nat.ne_of_lt (Nat.lt_of_lt_of_le (F_1.ext E101).lt lb105)) nin0))).keep K121 nin0).keep K132 (ninS (Nat.ne_of_lt (Nat.lt_of_lt_of_le F_1.lt (Nat.le_of_eq g101.symm))) (ninS (Nat.ne_of_lt (Nat.lt_of_lt_of_le (F_1.ext E101).lt lb105)) nin0)))
  obtain ⟨T136, X136, e136, st136⟩ := getF X132 hx Z121 O121 (host := "") (Or.inl (hw _ (List.mem_of_getElem? (i := 46) rfl))) Via.refl rfl f135 (g := (mkF m 20 #[.val (.ref a)] [(.ref a), (.ref b101)])) rfl rfl (hb hby d_rm_con_20)
  have pq137 : ∀ τ, Steps pP.tables e below (T136.setTop (mkF m 23 #[.val (.ref a)] [(.ref x2), (.ref b101)])) τ → Steps pP.tables e below A0 τ := by
    intro τ κ
    refine pq134 τ ?_
    refine XS.aloadN X132.here hx rfl (hb hby d_rm_con_19) rfl rfl ?_
    refine st136 _ ?_
    exact κ
  have f138 := (Safe.keep K132 (sfS f123 (sfS f124 sf0)) CH121 f123)
  have f139 := (Safe.keep K132 (sfS f123 (sfS f124 sf0)) CH121 f124)
  have f140 := (f125.keep K132 (allS (Nat.le_trans Z0 (Nat.le_of_eq g101.symm)) (allS (Nat.le_trans f104 lb105) all0)))
  have f141 := (((((E_2.ext E101).keep K105).keep K118).keep K121).keep K132)
  have f142 := (((((F_c2.ext E101).keep K105 (ninS (Nat.ne_of_lt (Nat.lt_of_lt_of_le E_2.lt (Nat.le_of_eq g101.symm))) nin0)).keep K118 (ninS (Nat.ne_of_lt (Nat.lt_of_lt_of_le E_2.lt (Nat.le_of_eq g101.symm))) (ninS (Nat.ne_of_lt (Nat.lt_of_lt_of_le (E_2.ext E101).lt lb105)) nin0))).keep K121 nin0).keep K132 (ninS (Nat.ne_of_lt (Nat.lt_of_lt_of_le E_2.lt (Nat.le_of_eq g101.symm))) (ninS (Nat.ne_of_lt (Nat.lt_of_lt_of_le (E_2.ext E101).lt lb105)) nin0)))
  have f143 := (((((F_v2.ext E101).keep K105 (ninS (Nat.ne_of_lt (Nat.lt_of_lt_of_le E_2.lt (Nat.le_of_eq g101.symm))) nin0)).keep K118 (ninS (Nat.ne_of_lt (Nat.lt_of_lt_of_le E_2.lt (Nat.le_of_eq g101.symm))) (ninS (Nat.ne_of_lt (Nat.lt_of_lt_of_le (E_2.ext E101).lt lb105)) nin0))).keep K121 nin0).keep K132 (ninS (Nat.ne_of_lt (Nat.lt_of_lt_of_le E_2.lt (Nat.le_of_eq g101.symm))) (ninS (Nat.ne_of_lt (Nat.lt_of_lt_of_le (E_2.ext E101).lt lb105)) nin0)))
  have f144 := (((((V_t2.ext E101).keep K105 (ninS (Nat.ne_of_lt (Nat.lt_of_lt_of_le V_t2.lt (Nat.le_of_eq g101.symm))) nin0)).keep K118 (ninS (Nat.ne_of_lt (Nat.lt_of_lt_of_le V_t2.lt (Nat.le_of_eq g101.symm))) (ninS (Nat.ne_of_lt (Nat.lt_of_lt_of_le (V_t2.ext E101).lt lb105)) nin0))).keep K121 nin0).keep K132 (ninS (Nat.ne_of_lt (Nat.lt_of_lt_of_le V_t2.lt (Nat.le_of_eq g101.symm))) (ninS (Nat.ne_of_lt (Nat.lt_of_lt_of_le (V_t2.ext E101).lt lb105)) nin0)))
  have f145 := (Nat.le_trans f131 K132.1)
  obtain ⟨cq147, kq147, q147a, q147b, q147c⟩ := isOf Z121 e136 Ex132
  obtain ⟨_, _, ⟨T146, L146, k146, n146⟩, -, X146, ⟨Lc146, hQ146, l146, y146, z146⟩, st146⟩ := X136.virtualBack hx (y := (⟨"java/lang/StringBuilder", "append", "(Ljava/lang/String;)Ljava/lang/StringBuilder;"⟩ : MethodName)) (z := (⟨"java/lang/StringBuilder", "append", "(Ljava/lang/String;)Ljava/lang/StringBuilder;"⟩ : MethodName)) O121 (mvT Z121 (hw _ (List.mem_of_getElem? (i := 71) rfl))) (mvT Z121 (hw _ (List.mem_of_getElem? (i := 72) rfl))) (notFace_of_selects (args := #[]) (mvT Z121 (hw _ (List.mem_of_getElem? (i := 74) rfl)))) (mvT Z121 (hw _ (List.mem_of_getElem? (i := 74) rfl))) (mvT Z121 (hw _ (List.mem_of_getElem? (i := 73) rfl))) (by decide) (backOf (W := 0) (rm_app l Z a0 hw [] x2 t2 kb2 cs2 b101 vb105 kv105 (([] ++ cs1) ++ [(10 : Int32)]) G1 T132.heap n0 f145 O2 P5 f140 f141 f142 f143 f144 Ex132 Fv132 Fc132 Fn132 V132 (Nat.le_trans f104 lb105) (Nat.ne_of_lt (Nat.lt_of_lt_of_le (V_t2.ext E101).lt lb105)) (by simp only [List.length_append, List.length_nil, List.length_cons]; omega) (Nat.le_trans Z0 (Nat.le_of_eq g101.symm))) Z121 (hw _ (List.mem_of_getElem? (i := 75) rfl)) (hw _ (List.mem_of_getElem? (i := 55) rfl)) (by decide) (by decide)) q147a q147c (g := (mkF m 23 #[.val (.ref a)] [(.ref x2), (.ref b101)])) rfl (by rw [hml]; rfl) (Steps.refl _) (argsL := [(.ref x2)]) (rest := []) (lenOf pdo_17 rfl) rfl (by show 2 * 0 + _ ≤ _; exact Nat.le_of_eq rfl) (hb hby d_rm_con_23) (fun _ _ => ⟨rfl, e136, (by decide : 4 + 0 ≤ _), (by decide : 28 + 0 ≤ _)⟩)
  dsimp only [Pt.U, Pt.locs, Pt.cells, Pt.slots] at X146 l146 y146 z146 st146 hQ146
  subst l146 y146 z146
  obtain ⟨rfl, Nq146, K146, Ex146, Fv146, Fc146, Fn146, V146⟩ := hQ146
  have N146 := Fr.app N132 Nq146
  have pq148 : ∀ τ, Steps pP.tables e below (T146.setTop (mkF m 26 #[.val (.ref a)] [(.ref b101)])) τ → Steps pP.tables e below A0 τ := by
    intro τ κ
    refine pq137 τ ?_
    refine st146.trans ?_
    exact κ
  have KC146 : Keep h0 T146.heap [] := KC132.trans K146 (allS (Or.inr (Nat.le_trans (Nat.le_refl _) (Nat.le_of_eq g101.symm))) (allS (Or.inr (Nat.le_trans (Nat.le_trans (Nat.le_refl _) E101.1) lb105)) all0))
  have CH146 := CHv.keep K146 (sfS f138 (sfS f139 sf0)) CH132
  have CR146 := CHr.trans CR132 (CHr.keep K146 (sfS f138 (sfS f139 sf0)) CH132)
  have SK146 := Nat.le_trans SK132 K146.1
  have f149 := (f140.keep K146 (allS (Nat.le_trans Z0 (Nat.le_of_eq g101.symm)) (allS (Nat.le_trans f104 lb105) all0)))
  have f150 := (Nat.le_trans f145 K146.1)
  obtain ⟨cq152, kq152, q152a, q152b, q152c⟩ := isOf Z121 rfl Ex146
  obtain ⟨_, _, ⟨T151, L151, k151, n151⟩, -, X151, ⟨Lc151, hQ151, l151, y151, z151⟩, st151⟩ := X146.virtualBack hx (y := (⟨"java/lang/StringBuilder", "toString", "()Ljava/lang/String;"⟩ : MethodName)) (z := (⟨"java/lang/StringBuilder", "toString", "()Ljava/lang/String;"⟩ : MethodName)) O121 (mvT Z121 (hw _ (List.mem_of_getElem? (i := 120) rfl))) (mvT Z121 (hw _ (List.mem_of_getElem? (i := 121) rfl))) (notFace_of_selects (args := #[]) (mvT Z121 (hw _ (List.mem_of_getElem? (i := 123) rfl)))) (mvT Z121 (hw _ (List.mem_of_getElem? (i := 123) rfl))) (mvT Z121 (hw _ (List.mem_of_getElem? (i := 122) rfl))) (by decide) (backOf (W := 0) (rm_tos l Z a0 hw [] b101 vb105 kv105 ((([] ++ cs1) ++ [(10 : Int32)]) ++ cs2) G1 T146.heap n0 f150 O2 P5 f149 Ex146 Fv146 Fc146 Fn146 V146 (by simp only [List.length_append, List.length_nil, List.length_cons]; omega)) Z121 (hw _ (List.mem_of_getElem? (i := 124) rfl)) (hw _ (List.mem_of_getElem? (i := 55) rfl)) (by decide) (by decide)) q152a q152c (g := (mkF m 26 #[.val (.ref a)] [(.ref b101)])) rfl (by rw [hml]; rfl) (Steps.refl _) (argsL := []) (rest := []) (lenOf pdo_18 rfl) rfl (by show 2 * 0 + _ ≤ _; exact Nat.le_of_eq rfl) (hb hby d_rm_con_26) (fun _ _ => ⟨rfl, rfl, (by decide : 4 + 2 ≤ _), (by decide : 28 + 20 ≤ _)⟩)
  dsimp only [Pt.U, Pt.locs, Pt.cells, Pt.slots] at X151 l151 y151 z151 st151 hQ151
  subst l151 y151 z151
  obtain ⟨a151, t151, kb151, rfl, Nq151, K151, la151, lb151, Ex151, Fc151, Fv151, Vt151⟩ := hQ151
  have N151 := Fr.app N146 Nq151
  have pq153 : ∀ τ, Steps pP.tables e below (T151.setTop (mkF m 29 #[.val (.ref a)] [(.ref a151)])) τ → Steps pP.tables e below A0 τ := by
    intro τ κ
    refine pq148 τ ?_
    refine st151.trans ?_
    exact κ
  have KC151 : Keep h0 T151.heap [] := KC146.trans K151 all0
  have CH151 := CHv.keep K151 sf0 CH146
  have CR151 := CHr.trans CR146 (CHr.keep K151 sf0 CH146)
  have SK151 := Nat.le_trans SK146 K151.1
  have SKe := SK151
  obtain ⟨fs, hrE, hrun, hended, hEnd⟩ := X151.leaveW SI121 SKe (v := some (.ref a151)) (fun h => by rw [Bd.returns] at h; cases h)
  have CHe := CHr.trans CR151 (CHv.at X151 Z121 hEW CH151)
  have pqE := pq153
  rw [hA0] at pqE
  refine ⟨_, _, pqE _ ?_, hrun, hended, _, _, rfl, ?_, ?_, hEnd.1, hEnd.2.1, hEnd.2.2.1, hEnd.2.2.2.mono (by decide) (by decide)⟩
  · show Steps pP.tables e below (T151.setTop (mkF m 29 #[.val (.ref a)] [(.ref a151)])) _
    exact retOut X151 hx Bd.returns rfl (Or.inr (Or.inr (Or.inr (Or.inr ⟨rfl, rfl, rfl⟩)))) (hb hby d_rm_con_29) hrE
  · show Q_con Z cs1 cs2 h0 n0 _ T151.heap _
    exact ⟨a151, t151, _, rfl, N151, KC151, Ex151, Fc151, Fv151, Vt151⟩
  · show CHr Z consts_1 s.vm s.heap T151.vm T151.heap
    rw [hh]; exact CHe
def Q_ok (h0 : Heap) (n0 : Nat) (v : Option Value) (h : Heap) (L : List Loc) : Prop := v = some (.int 1) ∧ Fr n0 L ∧ h = h0
theorem d_rm_ok_0 : decode method_3_code 0 = .ok (.iload_n 1, 1) := by decide +kernel
theorem d_rm_ok_1 : decode method_3_code 1 = .ok (.aload_n 0, 1) := by decide +kernel
theorem d_rm_ok_2 : decode method_3_code 2 = .ok (.invokevirtual 12, 3) := by decide +kernel
theorem d_rm_ok_5 : decode method_3_code 5 = .ok (.if_icmp .lt 5, 3) := by decide +kernel
theorem d_rm_ok_8 : decode method_3_code 8 = .ok (.iconst 1, 1) := by decide +kernel
theorem d_rm_ok_9 : decode method_3_code 9 = .ok (.ireturn, 1) := by decide +kernel
theorem d_rm_ok_10 : decode method_3_code 10 = .ok (.iload_n 1, 1) := by decide +kernel
theorem d_rm_ok_11 : decode method_3_code 11 = .ok (.iload_n 2, 1) := by decide +kernel
theorem d_rm_ok_12 : decode method_3_code 12 = .ok (.if_icmp .ge 18, 3) := by decide +kernel
theorem d_rm_ok_15 : decode method_3_code 15 = .ok (.iload_n 1, 1) := by decide +kernel
theorem d_rm_ok_16 : decode method_3_code 16 = .ok (.ifCond .ne 7, 3) := by decide +kernel
theorem d_rm_ok_19 : decode method_3_code 19 = .ok (.iload_n 3, 1) := by decide +kernel
theorem d_rm_ok_20 : decode method_3_code 20 = .ok (.goto 5, 3) := by decide +kernel
theorem d_rm_ok_23 : decode method_3_code 23 = .ok (.iload 4, 2) := by decide +kernel
theorem d_rm_ok_25 : decode method_3_code 25 = .ok (.istore 7, 2) := by decide +kernel
theorem d_rm_ok_27 : decode method_3_code 27 = .ok (.goto 32, 3) := by decide +kernel
theorem d_rm_ok_30 : decode method_3_code 30 = .ok (.iload_n 1, 1) := by decide +kernel
theorem d_rm_ok_31 : decode method_3_code 31 = .ok (.iload_n 2, 1) := by decide +kernel
theorem d_rm_ok_32 : decode method_3_code 32 = .ok (.if_icmp .ne 10, 3) := by decide +kernel
theorem d_rm_ok_35 : decode method_3_code 35 = .ok (.bipush 10, 2) := by decide +kernel
theorem d_rm_ok_37 : decode method_3_code 37 = .ok (.istore 7, 2) := by decide +kernel
theorem d_rm_ok_39 : decode method_3_code 39 = .ok (.goto 20, 3) := by decide +kernel
theorem d_rm_ok_42 : decode method_3_code 42 = .ok (.iload_n 1, 1) := by decide +kernel
theorem d_rm_ok_43 : decode method_3_code 43 = .ok (.iload_n 2, 1) := by decide +kernel
theorem d_rm_ok_44 : decode method_3_code 44 = .ok (.isub, 1) := by decide +kernel
theorem d_rm_ok_45 : decode method_3_code 45 = .ok (.iconst 1, 1) := by decide +kernel
theorem d_rm_ok_46 : decode method_3_code 46 = .ok (.isub, 1) := by decide +kernel
theorem d_rm_ok_47 : decode method_3_code 47 = .ok (.ifCond .ne 8, 3) := by decide +kernel
theorem d_rm_ok_50 : decode method_3_code 50 = .ok (.iload 5, 2) := by decide +kernel
theorem d_rm_ok_52 : decode method_3_code 52 = .ok (.goto 5, 3) := by decide +kernel
theorem d_rm_ok_55 : decode method_3_code 55 = .ok (.iload 6, 2) := by decide +kernel
theorem d_rm_ok_57 : decode method_3_code 57 = .ok (.istore 7, 2) := by decide +kernel
theorem d_rm_ok_59 : decode method_3_code 59 = .ok (.aload_n 0, 1) := by decide +kernel
theorem d_rm_ok_60 : decode method_3_code 60 = .ok (.iload_n 1, 1) := by decide +kernel
theorem d_rm_ok_61 : decode method_3_code 61 = .ok (.invokevirtual 16, 3) := by decide +kernel
theorem d_rm_ok_64 : decode method_3_code 64 = .ok (.iload 7, 2) := by decide +kernel
theorem d_rm_ok_66 : decode method_3_code 66 = .ok (.if_icmp .ne 7, 3) := by decide +kernel
theorem d_rm_ok_69 : decode method_3_code 69 = .ok (.iconst 1, 1) := by decide +kernel
theorem d_rm_ok_70 : decode method_3_code 70 = .ok (.goto 4, 3) := by decide +kernel
theorem d_rm_ok_74 : decode method_3_code 74 = .ok (.ireturn, 1) := by decide +kernel
theorem ef_rm_ok (m : MethodId) (x0 : Addr) (x1 : Int32) (x2 : Int32) (x3 : Int32) (x4 : Int32) (x5 : Int32) (x6 : Int32) : entryFrame m #[(.ref x0), (.int x1), (.int x2), (.int x3), (.int x4), (.int x5), (.int x6)] 8 = mkF m 0 #[.val (.ref x0), .val (.int x1), .val (.int x2), .val (.int x3), .val (.int x4), .val (.int x5), .val (.int x6), .unset] [] := by first | (simp [entryFrame, mkF, argsToLocals, Value.category]; done) | rfl
set_option maxRecDepth 65536 in
set_option maxHeartbeats 3000000 in
theorem rm_ok (l : Launch) (Z : State) (a0 : Array Value) (hw : ∀ d ∈ tables_1, d.before a0 Z = true) (ws : List Jvm.Cond) (x t : Addr) (kb : ClassId) (i : Nat) (k j a b c d : Int32) (cs : List Int32) (G1 : Int32) (G3 : Value) (h0 : Heap) (n0 : Nat) (Z0 : n0 ≤ h0.size) (O2 : Sta Z Z.heap "java/lang/String" "COMPACT_STRINGS" "Z" (.int G1)) (P5 : ¬ (G1 = (0 : Int32))) (X00 : Old Z n0 h0) (O4 : Sta Z Z.heap "jdk/internal/util/Preconditions" "SIOOBE_FORMATTER" "Ljava/util/function/BiFunction;" G3) (rG3 : G3.isRef = true) (E_x : Exa Z h0 x "java/lang/String") (F_c : Fld Z h0 x "java/lang/String" "coder" "B" (.int 0)) (F_v : Fld Z h0 x "java/lang/String" "value" "[B" (.ref t)) (V_t : Arv Z h0 t kb .byte (Int32.ofNat (cs).length) (((cs).map (fun c : Int32 => c.toInt8.toInt32)).map Value.int) (.int 0)) (hp : ∀ c ∈ cs, ¬ c < 0 ∧ ¬ (255 : Int32) < c) (hcs : cs = ((([] ++ (own_cs k a b)) ++ [(10 : Int32)]) ++ (own_cs j c d))) (hi : i < 5) (hk : k = 0 ∨ k = 1 ∨ k = 2) (hj : j = 0 ∨ j = 1 ∨ j = 2) :
    MetFree l (⟨"com/example/stateful_search/statefulsearch/session/SearchResultSummaryPinLaw", "ok", "(Ljava/lang/String;IICCCC)Z"⟩ : MethodName) (head1 (Jvm.Cond.code (⟨"com/example/stateful_search/statefulsearch/session/SearchResultSummaryPinLaw", "ok", "(Ljava/lang/String;IICCCC)Z"⟩ : MethodName) method_3_code 8 (some .boolean) :: ws) ({ frames := 4, cells := 0, slots := 0, locals := 53 } : Room)) (fun αs U => αs = #[(.ref x), (.int (Int32.ofNat i)), (.int k), (.int a), (.int b), (.int c), (.int d)] ∧ Z.Warmed39 U.vm ∧ U.heap = h0) (fun _ _ _ _ _ => True) (fun _ U o U' => ∃ v L, o = .returned v ∧ Q_ok h0 n0 v U'.heap L ∧ FrameEnd U o U' L ({ frames := 4, cells := 0, slots := 0, locals := 53 } : Room).cells ({ frames := 4, cells := 0, slots := 0, locals := 53 } : Room).slots) := by
  refine MetFree.of_bodySF (plainFor_of_name pno_4) hisR ?_
  intro pP e s m args below meth cC s₁ Bd hml0 hP hK
  obtain ⟨rfl, hZ, hh⟩ := hP
  have hx := Bd.exec
  have hby := Bd.bytes
  have hml : cC.maxLocals = 8 := hml0
  have hown : s.vm.findClass "com/example/stateful_search/statefulsearch/session/SearchResultSummaryPinLaw" = some m.cls := findClass_of_methodNamed Bd.named
  have hnm := (name_of_methodNamed Bd.named Bd.method).1
  have X0 : Stand pP l e ({ frames := 4, cells := 0, slots := 0, locals := 53 } : Room) s m #[(.ref x), (.int (Int32.ofNat i)), (.int k), (.int a), (.int b), (.int c), (.int d)] below meth cC s₁ [] 0 0 := Stand.of_body Bd
  have e0 : s₁.heap = h0 := by rw [← hh, Bd.state]; rfl
  have N0 := Fr.nil n0
  have KC0 : Keep h0 h0 [] := Keep.refl h0 _
  obtain ⟨A0, hA0⟩ : ∃ z, z = s₁.setTop (entryFrame m #[(.ref x), (.int (Int32.ofNat i)), (.int k), (.int a), (.int b), (.int c), (.int d)] 8) := ⟨_, rfl⟩
  have pre0 : ∀ τ, Steps pP.tables e below (s₁.setTop (mkF m 0 #[.val (.ref x), .val (.int (Int32.ofNat i)), .val (.int k), .val (.int a), .val (.int b), .val (.int c), .val (.int d), .unset] [])) τ → Steps pP.tables e below A0 τ := fun τ κ => by rw [hA0]; exact castTop (ef_rm_ok m x (Int32.ofNat i) k a b c d) κ
  have hch : ∀ d ∈ StrChars.Road.wordsChN, d.before a0 Z = true := fun d hd => hw d ((by decide +kernel : ∀ d ∈ StrChars.Road.wordsChN, d ∈ tables_1) d hd)
  have hl5 : cs.length ≤ 4000 := by rw [hcs]; exact own_conlen _ _ _ _ _ _
  obtain ⟨cq102, kq102, q102a, q102b, q102c⟩ := isOf hZ e0 E_x
  obtain ⟨_, _, ⟨T101, L101, k101, n101⟩, -, X101, ⟨Lc101, hQ101, l101, y101, z101⟩, st101⟩ := X0.virtualBack hx (y := (⟨"java/lang/String", "length", "()I"⟩ : MethodName)) (z := (⟨"java/lang/String", "length", "()I"⟩ : MethodName)) hown (mvT hZ (hw _ (List.mem_of_getElem? (i := 165) rfl))) (mvT hZ (hw _ (List.mem_of_getElem? (i := 82) rfl))) (notFace_of_selects (args := #[]) (mvT hZ (hw _ (List.mem_of_getElem? (i := 84) rfl)))) (mvT hZ (hw _ (List.mem_of_getElem? (i := 84) rfl))) (mvT hZ (hw _ (List.mem_of_getElem? (i := 83) rfl))) (by decide) (backOf (W := 1) (rm_len l Z a0 hw [] x t kb cs G1 h0 n0 Z0 O2 P5 X00 E_x F_c F_v V_t) hZ (hw _ (List.mem_of_getElem? (i := 85) rfl)) (hw _ (List.mem_of_getElem? (i := 7) rfl)) (by decide) (by decide)) q102a q102c (g := (mkF m 2 #[.val (.ref x), .val (.int (Int32.ofNat i)), .val (.int k), .val (.int a), .val (.int b), .val (.int c), .val (.int d), .unset] [(.ref x), (.int (Int32.ofNat i))])) rfl (by rw [hml]; rfl) (Steps.refl _) (argsL := []) (rest := [(.int (Int32.ofNat i))]) (lenOf pdo_4 rfl) rfl (by show 2 * 0 + _ ≤ _; exact Nat.le_of_eq rfl) (hb hby d_rm_ok_2) (fun _ _ => ⟨rfl, e0, (by decide : 0 + 0 ≤ _), (by decide : 0 + 0 ≤ _)⟩)
  dsimp only [Pt.U, Pt.locs, Pt.cells, Pt.slots] at X101 l101 y101 z101 st101 hQ101
  subst l101 y101 z101
  obtain ⟨rfl, Nq101, eq101⟩ := hQ101
  have N101 := Fr.app N0 Nq101
  have pq103 : ∀ τ, Steps pP.tables e below (T101.setTop (mkF m 5 #[.val (.ref x), .val (.int (Int32.ofNat i)), .val (.int k), .val (.int a), .val (.int b), .val (.int c), .val (.int d), .unset] [(.int (Int32.ofNat (cs).length)), (.int (Int32.ofNat i))])) τ → Steps pP.tables e below A0 τ := by
    intro τ κ
    refine pre0 τ ?_
    refine XS.iloadN X0.here hx rfl (hb hby d_rm_ok_0) rfl ?_
    refine XS.aloadN X0.here hx rfl (hb hby d_rm_ok_1) rfl rfl ?_
    refine st101.trans ?_
    exact κ
  by_cases hc5_104 : (Int32.ofNat i) < (Int32.ofNat (cs).length)
  · skip
    have pq105 : ∀ τ, Steps pP.tables e below (T101.setTop (mkF m 12 #[.val (.ref x), .val (.int (Int32.ofNat i)), .val (.int k), .val (.int a), .val (.int b), .val (.int c), .val (.int d), .unset] [(.int k), (.int (Int32.ofNat i))])) τ → Steps pP.tables e below A0 τ := by
      intro τ κ
      refine pq103 τ ?_
      refine XS.icmpYes X101.here hx rfl (pc0 := 5) (pc' := 10) rfl (hb hby d_rm_ok_5) rfl (tlt hc5_104).1 (by decide) (by decide) ?_
      refine XS.iloadN X101.here hx rfl (hb hby d_rm_ok_10) rfl ?_
      refine XS.iloadN X101.here hx rfl (hb hby d_rm_ok_11) rfl ?_
      exact κ
    by_cases hc12_106 : (Int32.ofNat i) < k
    · skip
      have pq107 : ∀ τ, Steps pP.tables e below (T101.setTop (mkF m 16 #[.val (.ref x), .val (.int (Int32.ofNat i)), .val (.int k), .val (.int a), .val (.int b), .val (.int c), .val (.int d), .unset] [(.int (Int32.ofNat i))])) τ → Steps pP.tables e below A0 τ := by
        intro τ κ
        refine pq105 τ ?_
        refine XS.icmpNo X101.here hx rfl (hb hby d_rm_ok_12) rfl (tlt hc12_106).2.1 ?_
        refine XS.iloadN X101.here hx rfl (hb hby d_rm_ok_15) rfl ?_
        exact κ
      by_cases hc16_108 : (Int32.ofNat i) = (0 : Int32)
      · skip
        have eq109c : (cs.getD i 0) = a := by have q := own_okl i k j a b c d hi hk hj (by rw [← hcs]; exact hc5_104); rw [← hcs] at q; rw [q, if_pos hc12_106, if_pos hc16_108]
        obtain ⟨cq111, kq111, q111a, q111b, q111c⟩ := isOf hZ eq101 E_x
        obtain ⟨_, _, ⟨T110, L110, k110, n110⟩, -, X110, ⟨Lc110, hQ110, l110, y110, z110⟩, st110⟩ := X101.virtualBack hx (y := (⟨"java/lang/String", "charAt", "(I)C"⟩ : MethodName)) (z := (⟨"java/lang/String", "charAt", "(I)C"⟩ : MethodName)) hown (mvT hZ (hw _ (List.mem_of_getElem? (i := 169) rfl))) (mvT hZ (hw _ (List.mem_of_getElem? (i := 170) rfl))) (notFace_of_selects (args := #[]) (mvT hZ (hw _ (List.mem_of_getElem? (i := 172) rfl)))) (mvT hZ (hw _ (List.mem_of_getElem? (i := 172) rfl))) (mvT hZ (hw _ (List.mem_of_getElem? (i := 171) rfl))) (by decide) (StrChars.Road.chN (W := 0) hZ hch (kI := 4) (hw _ (List.mem_of_getElem? (i := 6) rfl)) (cs := cs) E_x F_v F_c V_t (StrChars.Road.codOf rfl (fun x hx => (hp x hx).2)) (own_up _ hp) (O2.ext X00.2) P5 (O4.ext X00.2) rG3 hl5 (i := i) (own_ltn hi hl5 hc5_104) (j := (Int32.ofNat i)) rfl (by decide) (by decide)) q111a q111c (g := (mkF m 61 #[.val (.ref x), .val (.int (Int32.ofNat i)), .val (.int k), .val (.int a), .val (.int b), .val (.int c), .val (.int d), .val (.int a)] [(.int (Int32.ofNat i)), (.ref x)])) rfl (by rw [hml]; rfl) (Steps.refl _) (argsL := [(.int (Int32.ofNat i))]) (rest := []) (lenOf pdo_19 rfl) rfl (by show 2 * 0 + _ ≤ _; exact Nat.le_of_eq rfl) (hb hby d_rm_ok_61) (fun _ _ => ⟨rfl, eq101, (by decide : 0 + 0 ≤ _), (by decide : 0 + 0 ≤ _)⟩)
        dsimp only [Pt.U, Pt.locs, Pt.cells, Pt.slots] at X110 l110 y110 z110 st110 hQ110
        subst l110 y110 z110
        obtain ⟨rfl, rfl, eq110⟩ := hQ110
        have N110 := Fr.app N101 (Fr.nil n0)
        have pq112 : ∀ τ, Steps pP.tables e below (T110.setTop (mkF m 64 #[.val (.ref x), .val (.int (Int32.ofNat i)), .val (.int k), .val (.int a), .val (.int b), .val (.int c), .val (.int d), .val (.int a)] [(.int (cs.getD i 0))])) τ → Steps pP.tables e below A0 τ := by
          intro τ κ
          refine pq107 τ ?_
          refine XS.ifNo X101.here hx rfl (hb hby d_rm_ok_16) rfl ((if0 _ _).trans (teq hc16_108).2) ?_
          refine XS.iloadN X101.here hx rfl (hb hby d_rm_ok_19) rfl ?_
          refine XS.goto X101.here hx rfl (pc0 := 20) (pc' := 25) rfl (hb hby d_rm_ok_20) (by decide) (by decide) ?_
          refine XS.istore X101.here hx rfl (hb hby d_rm_ok_25) rfl (l' := #[.val (.ref x), .val (.int (Int32.ofNat i)), .val (.int k), .val (.int a), .val (.int b), .val (.int c), .val (.int d), .val (.int a)]) rfl ?_
          refine XS.goto X101.here hx rfl (pc0 := 27) (pc' := 59) rfl (hb hby d_rm_ok_27) (by decide) (by decide) ?_
          refine XS.aloadN X101.here hx rfl (hb hby d_rm_ok_59) rfl rfl ?_
          refine XS.iloadN X101.here hx rfl (hb hby d_rm_ok_60) rfl ?_
          refine st110.trans ?_
          exact κ
        have pq113 : ∀ τ, Steps pP.tables e below (T110.setTop (mkF m 64 #[.val (.ref x), .val (.int (Int32.ofNat i)), .val (.int k), .val (.int a), .val (.int b), .val (.int c), .val (.int d), .val (.int a)] [(.int a)])) τ → Steps pP.tables e below A0 τ := by intro τ κ; refine pq112 τ ?_; rw [show (cs.getD i 0) = a from eq109c]; exact κ
        obtain ⟨fs, hrE, hrun, hended, hW, hsame⟩ := X110.leave (v := some (.int (1 : Int32))) (fun h => by rw [Bd.returns] at h; cases h)
        have pqE := pq113
        rw [hA0] at pqE
        refine ⟨_, _, pqE _ ?_, hrun, hended, _, _, rfl, ?_, ⟨_, rfl⟩, hW, hsame.mono (by decide) (by decide)⟩
        · refine XS.iload X110.here hx rfl (hb hby d_rm_ok_64) rfl ?_
          refine XS.icmpNo X110.here hx rfl (hb hby d_rm_ok_66) rfl (teq (rfl : a = a)).2 ?_
          refine XS.iconst X110.here hx rfl (hb hby d_rm_ok_69) ?_
          refine XS.goto X110.here hx rfl (pc0 := 70) (pc' := 74) rfl (hb hby d_rm_ok_70) (by decide) (by decide) ?_
          show Steps pP.tables e below (T110.setTop (mkF m 74 #[.val (.ref x), .val (.int (Int32.ofNat i)), .val (.int k), .val (.int a), .val (.int b), .val (.int c), .val (.int d), .val (.int a)] [(.int (1 : Int32))])) _
          exact retN X110 hx (t := .boolean) Bd.returns (by simp) (hb hby d_rm_ok_74) hrE
        · show Q_ok h0 n0 _ T110.heap _
          rw [eq110]
          exact ⟨rfl, N110, rfl⟩
      · skip
        have eq114c : (cs.getD i 0) = b := by have q := own_okl i k j a b c d hi hk hj (by rw [← hcs]; exact hc5_104); rw [← hcs] at q; rw [q, if_pos hc12_106, if_neg hc16_108]
        obtain ⟨cq116, kq116, q116a, q116b, q116c⟩ := isOf hZ eq101 E_x
        obtain ⟨_, _, ⟨T115, L115, k115, n115⟩, -, X115, ⟨Lc115, hQ115, l115, y115, z115⟩, st115⟩ := X101.virtualBack hx (y := (⟨"java/lang/String", "charAt", "(I)C"⟩ : MethodName)) (z := (⟨"java/lang/String", "charAt", "(I)C"⟩ : MethodName)) hown (mvT hZ (hw _ (List.mem_of_getElem? (i := 169) rfl))) (mvT hZ (hw _ (List.mem_of_getElem? (i := 170) rfl))) (notFace_of_selects (args := #[]) (mvT hZ (hw _ (List.mem_of_getElem? (i := 172) rfl)))) (mvT hZ (hw _ (List.mem_of_getElem? (i := 172) rfl))) (mvT hZ (hw _ (List.mem_of_getElem? (i := 171) rfl))) (by decide) (StrChars.Road.chN (W := 0) hZ hch (kI := 4) (hw _ (List.mem_of_getElem? (i := 6) rfl)) (cs := cs) E_x F_v F_c V_t (StrChars.Road.codOf rfl (fun x hx => (hp x hx).2)) (own_up _ hp) (O2.ext X00.2) P5 (O4.ext X00.2) rG3 hl5 (i := i) (own_ltn hi hl5 hc5_104) (j := (Int32.ofNat i)) rfl (by decide) (by decide)) q116a q116c (g := (mkF m 61 #[.val (.ref x), .val (.int (Int32.ofNat i)), .val (.int k), .val (.int a), .val (.int b), .val (.int c), .val (.int d), .val (.int b)] [(.int (Int32.ofNat i)), (.ref x)])) rfl (by rw [hml]; rfl) (Steps.refl _) (argsL := [(.int (Int32.ofNat i))]) (rest := []) (lenOf pdo_19 rfl) rfl (by show 2 * 0 + _ ≤ _; exact Nat.le_of_eq rfl) (hb hby d_rm_ok_61) (fun _ _ => ⟨rfl, eq101, (by decide : 0 + 0 ≤ _), (by decide : 0 + 0 ≤ _)⟩)
        dsimp only [Pt.U, Pt.locs, Pt.cells, Pt.slots] at X115 l115 y115 z115 st115 hQ115
        subst l115 y115 z115
        obtain ⟨rfl, rfl, eq115⟩ := hQ115
        have N115 := Fr.app N101 (Fr.nil n0)
        have pq117 : ∀ τ, Steps pP.tables e below (T115.setTop (mkF m 64 #[.val (.ref x), .val (.int (Int32.ofNat i)), .val (.int k), .val (.int a), .val (.int b), .val (.int c), .val (.int d), .val (.int b)] [(.int (cs.getD i 0))])) τ → Steps pP.tables e below A0 τ := by
          intro τ κ
          refine pq107 τ ?_
          refine XS.ifYes X101.here hx rfl (pc0 := 16) (pc' := 23) rfl (hb hby d_rm_ok_16) rfl ((if0 _ _).trans (feq hc16_108).2) (by decide) (by decide) ?_
          refine XS.iload X101.here hx rfl (hb hby d_rm_ok_23) rfl ?_
          refine XS.istore X101.here hx rfl (hb hby d_rm_ok_25) rfl (l' := #[.val (.ref x), .val (.int (Int32.ofNat i)), .val (.int k), .val (.int a), .val (.int b), .val (.int c), .val (.int d), .val (.int b)]) rfl ?_
          refine XS.goto X101.here hx rfl (pc0 := 27) (pc' := 59) rfl (hb hby d_rm_ok_27) (by decide) (by decide) ?_
          refine XS.aloadN X101.here hx rfl (hb hby d_rm_ok_59) rfl rfl ?_
          refine XS.iloadN X101.here hx rfl (hb hby d_rm_ok_60) rfl ?_
          refine st115.trans ?_
          exact κ
        have pq118 : ∀ τ, Steps pP.tables e below (T115.setTop (mkF m 64 #[.val (.ref x), .val (.int (Int32.ofNat i)), .val (.int k), .val (.int a), .val (.int b), .val (.int c), .val (.int d), .val (.int b)] [(.int b)])) τ → Steps pP.tables e below A0 τ := by intro τ κ; refine pq117 τ ?_; rw [show (cs.getD i 0) = b from eq114c]; exact κ
        obtain ⟨fs, hrE, hrun, hended, hW, hsame⟩ := X115.leave (v := some (.int (1 : Int32))) (fun h => by rw [Bd.returns] at h; cases h)
        have pqE := pq118
        rw [hA0] at pqE
        refine ⟨_, _, pqE _ ?_, hrun, hended, _, _, rfl, ?_, ⟨_, rfl⟩, hW, hsame.mono (by decide) (by decide)⟩
        · refine XS.iload X115.here hx rfl (hb hby d_rm_ok_64) rfl ?_
          refine XS.icmpNo X115.here hx rfl (hb hby d_rm_ok_66) rfl (teq (rfl : b = b)).2 ?_
          refine XS.iconst X115.here hx rfl (hb hby d_rm_ok_69) ?_
          refine XS.goto X115.here hx rfl (pc0 := 70) (pc' := 74) rfl (hb hby d_rm_ok_70) (by decide) (by decide) ?_
          show Steps pP.tables e below (T115.setTop (mkF m 74 #[.val (.ref x), .val (.int (Int32.ofNat i)), .val (.int k), .val (.int a), .val (.int b), .val (.int c), .val (.int d), .val (.int b)] [(.int (1 : Int32))])) _
          exact retN X115 hx (t := .boolean) Bd.returns (by simp) (hb hby d_rm_ok_74) hrE
        · show Q_ok h0 n0 _ T115.heap _
          rw [eq115]
          exact ⟨rfl, N115, rfl⟩
    · skip
      have pq119 : ∀ τ, Steps pP.tables e below (T101.setTop (mkF m 32 #[.val (.ref x), .val (.int (Int32.ofNat i)), .val (.int k), .val (.int a), .val (.int b), .val (.int c), .val (.int d), .unset] [(.int k), (.int (Int32.ofNat i))])) τ → Steps pP.tables e below A0 τ := by
        intro τ κ
        refine pq105 τ ?_
        refine XS.icmpYes X101.here hx rfl (pc0 := 12) (pc' := 30) rfl (hb hby d_rm_ok_12) rfl (flt hc12_106).2.1 (by decide) (by decide) ?_
        refine XS.iloadN X101.here hx rfl (hb hby d_rm_ok_30) rfl ?_
        refine XS.iloadN X101.here hx rfl (hb hby d_rm_ok_31) rfl ?_
        exact κ
      by_cases hc32_120 : (Int32.ofNat i) = k
      · skip
        have eq121c : (cs.getD i 0) = (10 : Int32) := by have q := own_okl i k j a b c d hi hk hj (by rw [← hcs]; exact hc5_104); rw [← hcs] at q; rw [q, if_neg hc12_106, if_pos hc32_120]
        obtain ⟨cq123, kq123, q123a, q123b, q123c⟩ := isOf hZ eq101 E_x
        obtain ⟨_, _, ⟨T122, L122, k122, n122⟩, -, X122, ⟨Lc122, hQ122, l122, y122, z122⟩, st122⟩ := X101.virtualBack hx (y := (⟨"java/lang/String", "charAt", "(I)C"⟩ : MethodName)) (z := (⟨"java/lang/String", "charAt", "(I)C"⟩ : MethodName)) hown (mvT hZ (hw _ (List.mem_of_getElem? (i := 169) rfl))) (mvT hZ (hw _ (List.mem_of_getElem? (i := 170) rfl))) (notFace_of_selects (args := #[]) (mvT hZ (hw _ (List.mem_of_getElem? (i := 172) rfl)))) (mvT hZ (hw _ (List.mem_of_getElem? (i := 172) rfl))) (mvT hZ (hw _ (List.mem_of_getElem? (i := 171) rfl))) (by decide) (StrChars.Road.chN (W := 0) hZ hch (kI := 4) (hw _ (List.mem_of_getElem? (i := 6) rfl)) (cs := cs) E_x F_v F_c V_t (StrChars.Road.codOf rfl (fun x hx => (hp x hx).2)) (own_up _ hp) (O2.ext X00.2) P5 (O4.ext X00.2) rG3 hl5 (i := i) (own_ltn hi hl5 hc5_104) (j := (Int32.ofNat i)) rfl (by decide) (by decide)) q123a q123c (g := (mkF m 61 #[.val (.ref x), .val (.int (Int32.ofNat i)), .val (.int k), .val (.int a), .val (.int b), .val (.int c), .val (.int d), .val (.int (10 : Int32))] [(.int (Int32.ofNat i)), (.ref x)])) rfl (by rw [hml]; rfl) (Steps.refl _) (argsL := [(.int (Int32.ofNat i))]) (rest := []) (lenOf pdo_19 rfl) rfl (by show 2 * 0 + _ ≤ _; exact Nat.le_of_eq rfl) (hb hby d_rm_ok_61) (fun _ _ => ⟨rfl, eq101, (by decide : 0 + 0 ≤ _), (by decide : 0 + 0 ≤ _)⟩)
        dsimp only [Pt.U, Pt.locs, Pt.cells, Pt.slots] at X122 l122 y122 z122 st122 hQ122
        subst l122 y122 z122
        obtain ⟨rfl, rfl, eq122⟩ := hQ122
        have N122 := Fr.app N101 (Fr.nil n0)
        have pq124 : ∀ τ, Steps pP.tables e below (T122.setTop (mkF m 64 #[.val (.ref x), .val (.int (Int32.ofNat i)), .val (.int k), .val (.int a), .val (.int b), .val (.int c), .val (.int d), .val (.int (10 : Int32))] [(.int (cs.getD i 0))])) τ → Steps pP.tables e below A0 τ := by
          intro τ κ
          refine pq119 τ ?_
          refine XS.icmpNo X101.here hx rfl (hb hby d_rm_ok_32) rfl (teq hc32_120).2 ?_
          refine XS.bipush X101.here hx rfl (hb hby d_rm_ok_35) ?_
          refine XS.istore X101.here hx rfl (hb hby d_rm_ok_37) rfl (l' := #[.val (.ref x), .val (.int (Int32.ofNat i)), .val (.int k), .val (.int a), .val (.int b), .val (.int c), .val (.int d), .val (.int (10 : Int32))]) rfl ?_
          refine XS.goto X101.here hx rfl (pc0 := 39) (pc' := 59) rfl (hb hby d_rm_ok_39) (by decide) (by decide) ?_
          refine XS.aloadN X101.here hx rfl (hb hby d_rm_ok_59) rfl rfl ?_
          refine XS.iloadN X101.here hx rfl (hb hby d_rm_ok_60) rfl ?_
          refine st122.trans ?_
          exact κ
        have pq125 : ∀ τ, Steps pP.tables e below (T122.setTop (mkF m 64 #[.val (.ref x), .val (.int (Int32.ofNat i)), .val (.int k), .val (.int a), .val (.int b), .val (.int c), .val (.int d), .val (.int (10 : Int32))] [(.int (10 : Int32))])) τ → Steps pP.tables e below A0 τ := by intro τ κ; refine pq124 τ ?_; rw [show (cs.getD i 0) = (10 : Int32) from eq121c]; exact κ
        obtain ⟨fs, hrE, hrun, hended, hW, hsame⟩ := X122.leave (v := some (.int (1 : Int32))) (fun h => by rw [Bd.returns] at h; cases h)
        have pqE := pq125
        rw [hA0] at pqE
        refine ⟨_, _, pqE _ ?_, hrun, hended, _, _, rfl, ?_, ⟨_, rfl⟩, hW, hsame.mono (by decide) (by decide)⟩
        · refine XS.iload X122.here hx rfl (hb hby d_rm_ok_64) rfl ?_
          refine XS.icmpNo X122.here hx rfl (hb hby d_rm_ok_66) rfl (teq (by decide : ((10 : Int32) = (10 : Int32)))).2 ?_
          refine XS.iconst X122.here hx rfl (hb hby d_rm_ok_69) ?_
          refine XS.goto X122.here hx rfl (pc0 := 70) (pc' := 74) rfl (hb hby d_rm_ok_70) (by decide) (by decide) ?_
          show Steps pP.tables e below (T122.setTop (mkF m 74 #[.val (.ref x), .val (.int (Int32.ofNat i)), .val (.int k), .val (.int a), .val (.int b), .val (.int c), .val (.int d), .val (.int (10 : Int32))] [(.int (1 : Int32))])) _
          exact retN X122 hx (t := .boolean) Bd.returns (by simp) (hb hby d_rm_ok_74) hrE
        · show Q_ok h0 n0 _ T122.heap _
          rw [eq122]
          exact ⟨rfl, N122, rfl⟩
      · skip
        have pq126 : ∀ τ, Steps pP.tables e below (T101.setTop (mkF m 47 #[.val (.ref x), .val (.int (Int32.ofNat i)), .val (.int k), .val (.int a), .val (.int b), .val (.int c), .val (.int d), .unset] [(.int (((Int32.ofNat i) - k) - (1 : Int32)))])) τ → Steps pP.tables e below A0 τ := by
          intro τ κ
          refine pq119 τ ?_
          refine XS.icmpYes X101.here hx rfl (pc0 := 32) (pc' := 42) rfl (hb hby d_rm_ok_32) rfl (feq hc32_120).2 (by decide) (by decide) ?_
          refine XS.iloadN X101.here hx rfl (hb hby d_rm_ok_42) rfl ?_
          refine XS.iloadN X101.here hx rfl (hb hby d_rm_ok_43) rfl ?_
          refine XS.isub X101.here hx rfl (hb hby d_rm_ok_44) rfl ?_
          refine XS.iconst X101.here hx rfl (hb hby d_rm_ok_45) ?_
          refine XS.isub X101.here hx rfl (hb hby d_rm_ok_46) rfl ?_
          exact κ
        by_cases hc47_127 : (((Int32.ofNat i) - k) - (1 : Int32)) = (0 : Int32)
        · skip
          have eq128c : (cs.getD i 0) = c := by have q := own_okl i k j a b c d hi hk hj (by rw [← hcs]; exact hc5_104); rw [← hcs] at q; rw [q, if_neg hc12_106, if_neg hc32_120, if_pos hc47_127]
          obtain ⟨cq130, kq130, q130a, q130b, q130c⟩ := isOf hZ eq101 E_x
          obtain ⟨_, _, ⟨T129, L129, k129, n129⟩, -, X129, ⟨Lc129, hQ129, l129, y129, z129⟩, st129⟩ := X101.virtualBack hx (y := (⟨"java/lang/String", "charAt", "(I)C"⟩ : MethodName)) (z := (⟨"java/lang/String", "charAt", "(I)C"⟩ : MethodName)) hown (mvT hZ (hw _ (List.mem_of_getElem? (i := 169) rfl))) (mvT hZ (hw _ (List.mem_of_getElem? (i := 170) rfl))) (notFace_of_selects (args := #[]) (mvT hZ (hw _ (List.mem_of_getElem? (i := 172) rfl)))) (mvT hZ (hw _ (List.mem_of_getElem? (i := 172) rfl))) (mvT hZ (hw _ (List.mem_of_getElem? (i := 171) rfl))) (by decide) (StrChars.Road.chN (W := 0) hZ hch (kI := 4) (hw _ (List.mem_of_getElem? (i := 6) rfl)) (cs := cs) E_x F_v F_c V_t (StrChars.Road.codOf rfl (fun x hx => (hp x hx).2)) (own_up _ hp) (O2.ext X00.2) P5 (O4.ext X00.2) rG3 hl5 (i := i) (own_ltn hi hl5 hc5_104) (j := (Int32.ofNat i)) rfl (by decide) (by decide)) q130a q130c (g := (mkF m 61 #[.val (.ref x), .val (.int (Int32.ofNat i)), .val (.int k), .val (.int a), .val (.int b), .val (.int c), .val (.int d), .val (.int c)] [(.int (Int32.ofNat i)), (.ref x)])) rfl (by rw [hml]; rfl) (Steps.refl _) (argsL := [(.int (Int32.ofNat i))]) (rest := []) (lenOf pdo_19 rfl) rfl (by show 2 * 0 + _ ≤ _; exact Nat.le_of_eq rfl) (hb hby d_rm_ok_61) (fun _ _ => ⟨rfl, eq101, (by decide : 0 + 0 ≤ _), (by decide : 0 + 0 ≤ _)⟩)
          dsimp only [Pt.U, Pt.locs, Pt.cells, Pt.slots] at X129 l129 y129 z129 st129 hQ129
          subst l129 y129 z129
          obtain ⟨rfl, rfl, eq129⟩ := hQ129
          have N129 := Fr.app N101 (Fr.nil n0)
          have pq131 : ∀ τ, Steps pP.tables e below (T129.setTop (mkF m 64 #[.val (.ref x), .val (.int (Int32.ofNat i)), .val (.int k), .val (.int a), .val (.int b), .val (.int c), .val (.int d), .val (.int c)] [(.int (cs.getD i 0))])) τ → Steps pP.tables e below A0 τ := by
            intro τ κ
            refine pq126 τ ?_
            refine XS.ifNo X101.here hx rfl (hb hby d_rm_ok_47) rfl ((if0 _ _).trans (teq hc47_127).2) ?_
            refine XS.iload X101.here hx rfl (hb hby d_rm_ok_50) rfl ?_
            refine XS.goto X101.here hx rfl (pc0 := 52) (pc' := 57) rfl (hb hby d_rm_ok_52) (by decide) (by decide) ?_
            refine XS.istore X101.here hx rfl (hb hby d_rm_ok_57) rfl (l' := #[.val (.ref x), .val (.int (Int32.ofNat i)), .val (.int k), .val (.int a), .val (.int b), .val (.int c), .val (.int d), .val (.int c)]) rfl ?_
            refine XS.aloadN X101.here hx rfl (hb hby d_rm_ok_59) rfl rfl ?_
            refine XS.iloadN X101.here hx rfl (hb hby d_rm_ok_60) rfl ?_
            refine st129.trans ?_
            exact κ
          have pq132 : ∀ τ, Steps pP.tables e below (T129.setTop (mkF m 64 #[.val (.ref x), .val (.int (Int32.ofNat i)), .val (.int k), .val (.int a), .val (.int b), .val (.int c), .val (.int d), .val (.int c)] [(.int c)])) τ → Steps pP.tables e below A0 τ := by intro τ κ; refine pq131 τ ?_; rw [show (cs.getD i 0) = c from eq128c]; exact κ
          obtain ⟨fs, hrE, hrun, hended, hW, hsame⟩ := X129.leave (v := some (.int (1 : Int32))) (fun h => by rw [Bd.returns] at h; cases h)
          have pqE := pq132
          rw [hA0] at pqE
          refine ⟨_, _, pqE _ ?_, hrun, hended, _, _, rfl, ?_, ⟨_, rfl⟩, hW, hsame.mono (by decide) (by decide)⟩
          · refine XS.iload X129.here hx rfl (hb hby d_rm_ok_64) rfl ?_
            refine XS.icmpNo X129.here hx rfl (hb hby d_rm_ok_66) rfl (teq (rfl : c = c)).2 ?_
            refine XS.iconst X129.here hx rfl (hb hby d_rm_ok_69) ?_
            refine XS.goto X129.here hx rfl (pc0 := 70) (pc' := 74) rfl (hb hby d_rm_ok_70) (by decide) (by decide) ?_
            show Steps pP.tables e below (T129.setTop (mkF m 74 #[.val (.ref x), .val (.int (Int32.ofNat i)), .val (.int k), .val (.int a), .val (.int b), .val (.int c), .val (.int d), .val (.int c)] [(.int (1 : Int32))])) _
            exact retN X129 hx (t := .boolean) Bd.returns (by simp) (hb hby d_rm_ok_74) hrE
          · show Q_ok h0 n0 _ T129.heap _
            rw [eq129]
            exact ⟨rfl, N129, rfl⟩
        · skip
          have eq133c : (cs.getD i 0) = d := by have q := own_okl i k j a b c d hi hk hj (by rw [← hcs]; exact hc5_104); rw [← hcs] at q; rw [q, if_neg hc12_106, if_neg hc32_120, if_neg hc47_127]
          obtain ⟨cq135, kq135, q135a, q135b, q135c⟩ := isOf hZ eq101 E_x
          obtain ⟨_, _, ⟨T134, L134, k134, n134⟩, -, X134, ⟨Lc134, hQ134, l134, y134, z134⟩, st134⟩ := X101.virtualBack hx (y := (⟨"java/lang/String", "charAt", "(I)C"⟩ : MethodName)) (z := (⟨"java/lang/String", "charAt", "(I)C"⟩ : MethodName)) hown (mvT hZ (hw _ (List.mem_of_getElem? (i := 169) rfl))) (mvT hZ (hw _ (List.mem_of_getElem? (i := 170) rfl))) (notFace_of_selects (args := #[]) (mvT hZ (hw _ (List.mem_of_getElem? (i := 172) rfl)))) (mvT hZ (hw _ (List.mem_of_getElem? (i := 172) rfl))) (mvT hZ (hw _ (List.mem_of_getElem? (i := 171) rfl))) (by decide) (StrChars.Road.chN (W := 0) hZ hch (kI := 4) (hw _ (List.mem_of_getElem? (i := 6) rfl)) (cs := cs) E_x F_v F_c V_t (StrChars.Road.codOf rfl (fun x hx => (hp x hx).2)) (own_up _ hp) (O2.ext X00.2) P5 (O4.ext X00.2) rG3 hl5 (i := i) (own_ltn hi hl5 hc5_104) (j := (Int32.ofNat i)) rfl (by decide) (by decide)) q135a q135c (g := (mkF m 61 #[.val (.ref x), .val (.int (Int32.ofNat i)), .val (.int k), .val (.int a), .val (.int b), .val (.int c), .val (.int d), .val (.int d)] [(.int (Int32.ofNat i)), (.ref x)])) rfl (by rw [hml]; rfl) (Steps.refl _) (argsL := [(.int (Int32.ofNat i))]) (rest := []) (lenOf pdo_19 rfl) rfl (by show 2 * 0 + _ ≤ _; exact Nat.le_of_eq rfl) (hb hby d_rm_ok_61) (fun _ _ => ⟨rfl, eq101, (by decide : 0 + 0 ≤ _), (by decide : 0 + 0 ≤ _)⟩)
          dsimp only [Pt.U, Pt.locs, Pt.cells, Pt.slots] at X134 l134 y134 z134 st134 hQ134
          subst l134 y134 z134
          obtain ⟨rfl, rfl, eq134⟩ := hQ134
          have N134 := Fr.app N101 (Fr.nil n0)
          have pq136 : ∀ τ, Steps pP.tables e below (T134.setTop (mkF m 64 #[.val (.ref x), .val (.int (Int32.ofNat i)), .val (.int k), .val (.int a), .val (.int b), .val (.int c), .val (.int d), .val (.int d)] [(.int (cs.getD i 0))])) τ → Steps pP.tables e below A0 τ := by
            intro τ κ
            refine pq126 τ ?_
            refine XS.ifYes X101.here hx rfl (pc0 := 47) (pc' := 55) rfl (hb hby d_rm_ok_47) rfl ((if0 _ _).trans (feq hc47_127).2) (by decide) (by decide) ?_
            refine XS.iload X101.here hx rfl (hb hby d_rm_ok_55) rfl ?_
            refine XS.istore X101.here hx rfl (hb hby d_rm_ok_57) rfl (l' := #[.val (.ref x), .val (.int (Int32.ofNat i)), .val (.int k), .val (.int a), .val (.int b), .val (.int c), .val (.int d), .val (.int d)]) rfl ?_
            refine XS.aloadN X101.here hx rfl (hb hby d_rm_ok_59) rfl rfl ?_
            refine XS.iloadN X101.here hx rfl (hb hby d_rm_ok_60) rfl ?_
            refine st134.trans ?_
            exact κ
          have pq137 : ∀ τ, Steps pP.tables e below (T134.setTop (mkF m 64 #[.val (.ref x), .val (.int (Int32.ofNat i)), .val (.int k), .val (.int a), .val (.int b), .val (.int c), .val (.int d), .val (.int d)] [(.int d)])) τ → Steps pP.tables e below A0 τ := by intro τ κ; refine pq136 τ ?_; rw [show (cs.getD i 0) = d from eq133c]; exact κ
          obtain ⟨fs, hrE, hrun, hended, hW, hsame⟩ := X134.leave (v := some (.int (1 : Int32))) (fun h => by rw [Bd.returns] at h; cases h)
          have pqE := pq137
          rw [hA0] at pqE
          refine ⟨_, _, pqE _ ?_, hrun, hended, _, _, rfl, ?_, ⟨_, rfl⟩, hW, hsame.mono (by decide) (by decide)⟩
          · refine XS.iload X134.here hx rfl (hb hby d_rm_ok_64) rfl ?_
            refine XS.icmpNo X134.here hx rfl (hb hby d_rm_ok_66) rfl (teq (rfl : d = d)).2 ?_
            refine XS.iconst X134.here hx rfl (hb hby d_rm_ok_69) ?_
            refine XS.goto X134.here hx rfl (pc0 := 70) (pc' := 74) rfl (hb hby d_rm_ok_70) (by decide) (by decide) ?_
            show Steps pP.tables e below (T134.setTop (mkF m 74 #[.val (.ref x), .val (.int (Int32.ofNat i)), .val (.int k), .val (.int a), .val (.int b), .val (.int c), .val (.int d), .val (.int d)] [(.int (1 : Int32))])) _
            exact retN X134 hx (t := .boolean) Bd.returns (by simp) (hb hby d_rm_ok_74) hrE
          · show Q_ok h0 n0 _ T134.heap _
            rw [eq134]
            exact ⟨rfl, N134, rfl⟩
  · skip
    obtain ⟨fs, hrE, hrun, hended, hW, hsame⟩ := X101.leave (v := some (.int (1 : Int32))) (fun h => by rw [Bd.returns] at h; cases h)
    have pqE := pq103
    rw [hA0] at pqE
    refine ⟨_, _, pqE _ ?_, hrun, hended, _, _, rfl, ?_, ⟨_, rfl⟩, hW, hsame.mono (by decide) (by decide)⟩
    · refine XS.icmpNo X101.here hx rfl (hb hby d_rm_ok_5) rfl (flt hc5_104).1 ?_
      refine XS.iconst X101.here hx rfl (hb hby d_rm_ok_8) ?_
      show Steps pP.tables e below (T101.setTop (mkF m 9 #[.val (.ref x), .val (.int (Int32.ofNat i)), .val (.int k), .val (.int a), .val (.int b), .val (.int c), .val (.int d), .unset] [(.int (1 : Int32))])) _
      exact retN X101 hx (t := .boolean) Bd.returns (by simp) (hb hby d_rm_ok_9) hrE
    · show Q_ok h0 n0 _ T101.heap _
      rw [eq101]
      exact ⟨rfl, N101, rfl⟩
def Q_law (n0 : Nat) (v : Option Value) (h : Heap) (L : List Loc) : Prop := v = some (.int 1) ∧ Fr n0 L
theorem ef_rm_law (m : MethodId) (x0 : Int32) (x1 : Int32) (x2 : Int32) (x3 : Int32) (x4 : Int32) (x5 : Int32) : entryFrame m #[(.int x0), (.int x1), (.int x2), (.int x3), (.int x4), (.int x5)] maxLocals = mkF m 0 #[.val (.int x0), .val (.int x1), .val (.int x2), .val (.int x3), .val (.int x4), .val (.int x5), .unset, .unset, .unset, .unset, .unset, .unset, .unset, .unset, .unset, .unset] [] := by first | (simp [entryFrame, mkF, argsToLocals, Value.category, maxLocals]; done) | rfl
set_option maxRecDepth 65536 in
set_option maxHeartbeats 3000000 in
theorem rm_law (l : Launch) (Z : State) (a0 : Array Value) (hw : ∀ d ∈ tables_1, d.before a0 Z = true) (hEW : EW Z a0 consts_1) (ws : List Jvm.Cond) (p0 p1 p2 p3 p4 p5 : Int32) (G1 : Int32) (G3 : Value) (h0 : Heap) (n0 : Nat) (Z0 : n0 ≤ h0.size) (O2 : Sta Z Z.heap "java/lang/String" "COMPACT_STRINGS" "Z" (.int G1)) (P5 : ¬ (G1 = (0 : Int32))) (X00 : Old Z n0 h0) (O4 : Sta Z Z.heap "jdk/internal/util/Preconditions" "SIOOBE_FORMATTER" "Ljava/util/function/BiFunction;" G3) (rG3 : G3.isRef = true) :
    MetFree l x (head1 (Jvm.Cond.code x code maxLocals ret :: ws) room_1) (fun αs U => αs = #[(.int p0), (.int p1), (.int p2), (.int p3), (.int p4), (.int p5)] ∧ Z.Warmed39 U.vm ∧ U.heap = h0 ∧ CHv Z consts_1 U.vm h0) (fun _ _ _ _ _ => True) (fun _ U o U' => ∃ v L, o = .returned v ∧ Q_law n0 v U'.heap L ∧ CHr Z consts_1 U.vm U.heap U'.vm U'.heap ∧ ReturnedEndW U o U' L room_1.cells room_1.slots) := by
  refine MetFree.of_bodySF (plainFor_of_name pno_4) hisR ?_
  intro pP e s m args below meth cC s₁ Bd hml0 hP hK
  obtain ⟨rfl, hZ, hh, CH0⟩ := hP
  have hx := Bd.exec
  have hby := Bd.bytes
  have hml : cC.maxLocals = 16 := hml0
  have hown : s.vm.findClass "com/example/stateful_search/statefulsearch/session/SearchResultSummaryPinLaw" = some m.cls := findClass_of_methodNamed Bd.named
  have hnm := (name_of_methodNamed Bd.named Bd.method).1
  have X0 : Stand pP l e room_1 (s.setVm s.vm) m #[(.int p0), (.int p1), (.int p2), (.int p3), (.int p4), (.int p5)] below meth cC s₁ [] 0 0 := Stand.of_body Bd
  have e0 : s₁.heap = h0 := by rw [← hh, Bd.state]; rfl
  have N0 := Fr.nil n0
  have KC0 : Keep h0 h0 [] := Keep.refl h0 _
  replace hZ : Z.Warmed39 (s.setVm s.vm).vm := hZ
  replace hown : (s.setVm s.vm).vm.findClass "com/example/stateful_search/statefulsearch/session/SearchResultSummaryPinLaw" = some m.cls := hown
  have SI0 : s.Since s.vm h0.size := (State.WarmedH.refl s).since _
  have SK0 : h0.size ≤ h0.size := Nat.le_refl _
  have CR0 : CHr Z consts_1 s.vm h0 s.vm h0 := CHr.refl CH0
  obtain ⟨A0, hA0⟩ : ∃ z, z = s₁.setTop (entryFrame m #[(.int p0), (.int p1), (.int p2), (.int p3), (.int p4), (.int p5)] maxLocals) := ⟨_, rfl⟩
  have pre0 : ∀ τ, Steps pP.tables e below (s₁.setTop (mkF m 0 #[.val (.int p0), .val (.int p1), .val (.int p2), .val (.int p3), .val (.int p4), .val (.int p5), .unset, .unset, .unset, .unset, .unset, .unset, .unset, .unset, .unset, .unset] [])) τ → Steps pP.tables e below A0 τ := fun τ κ => by rw [hA0]; exact castTop (ef_rm_law m p0 p1 p2 p3 p4 p5) κ
  have wS : ∀ a ∈ Bundle.stringAtoms, a.before a0 Z = true := fun d hd => hw d ((by decide +kernel : ∀ d ∈ Bundle.stringAtoms, d ∈ tables_1) d hd)
  have hch : ∀ d ∈ StrChars.Road.wordsChN, d.before a0 Z = true := fun d hd => hw d ((by decide +kernel : ∀ d ∈ StrChars.Road.wordsChN, d ∈ tables_1) d hd)
  have pq101 : ∀ τ, Steps pP.tables e below (s₁.setTop (mkF m 6 #[.val (.int p0), .val (.int p1), .val (.int p2), .val (.int p3), .val (.int p4), .val (.int p5), .unset, .unset, .unset, .unset, .unset, .unset, .unset, .unset, .unset, .unset] [(.int ((p0 &&& (2147483647 : Int32)) % (3 : Int32)))])) τ → Steps pP.tables e below A0 τ := by
    intro τ κ
    refine pre0 τ ?_
    refine XS.iloadN X0.here hx rfl (hb hby at_0) rfl ?_
    refine X0.ldcInt hx hown (mvT hZ (hw _ (List.mem_of_getElem? (i := 0) rfl))) (g := (mkF m 1 #[.val (.int p0), .val (.int p1), .val (.int p2), .val (.int p3), .val (.int p4), .val (.int p5), .unset, .unset, .unset, .unset, .unset, .unset, .unset, .unset, .unset, .unset] [(.int p0)])) rfl (hb hby at_1) _ ?_
    refine XS.iand X0.here hx rfl (hb hby at_3) rfl ?_
    refine XS.iconst X0.here hx rfl (hb hby at_4) ?_
    refine iremM X0 hx rfl (hb hby at_5) rfl (by decide) ?_
    exact κ
  obtain ⟨tl, htl⟩ : ∃ z, z = ((p0 &&& (2147483647 : Int32)) % (3 : Int32)) := ⟨_, rfl⟩
  have pq102 : ∀ τ, Steps pP.tables e below (s₁.setTop (mkF m 6 #[.val (.int p0), .val (.int p1), .val (.int p2), .val (.int p3), .val (.int p4), .val (.int p5), .unset, .unset, .unset, .unset, .unset, .unset, .unset, .unset, .unset, .unset] [(.int tl)])) τ → Steps pP.tables e below A0 τ := by intro τ κ; rw [htl] at κ; exact pq101 τ κ
  have pq103 : ∀ τ, Steps pP.tables e below (s₁.setTop (mkF m 16 #[.val (.int p0), .val (.int p1), .val (.int p2), .val (.int p3), .val (.int p4), .val (.int p5), .val (.int tl), .unset, .unset, .unset, .unset, .unset, .unset, .unset, .unset, .unset] [(.int ((((p0.toUInt32 >>> ((2 : Int32) &&& 31).toUInt32).toInt32) &&& (2147483647 : Int32)) % (3 : Int32)))])) τ → Steps pP.tables e below A0 τ := by
    intro τ κ
    refine pq102 τ ?_
    refine XS.istore X0.here hx rfl (hb hby at_6) rfl (l' := #[.val (.int p0), .val (.int p1), .val (.int p2), .val (.int p3), .val (.int p4), .val (.int p5), .val (.int tl), .unset, .unset, .unset, .unset, .unset, .unset, .unset, .unset, .unset]) rfl ?_
    refine XS.iloadN X0.here hx rfl (hb hby at_8) rfl ?_
    refine XS.iconst X0.here hx rfl (hb hby at_9) ?_
    refine XS.iushr X0.here hx rfl (hb hby at_10) rfl ?_
    refine X0.ldcInt hx hown (mvT hZ (hw _ (List.mem_of_getElem? (i := 0) rfl))) (g := (mkF m 11 #[.val (.int p0), .val (.int p1), .val (.int p2), .val (.int p3), .val (.int p4), .val (.int p5), .val (.int tl), .unset, .unset, .unset, .unset, .unset, .unset, .unset, .unset, .unset] [(.int ((p0.toUInt32 >>> ((2 : Int32) &&& 31).toUInt32).toInt32))])) rfl (hb hby at_11) _ ?_
    refine XS.iand X0.here hx rfl (hb hby at_13) rfl ?_
    refine XS.iconst X0.here hx rfl (hb hby at_14) ?_
    refine iremM X0 hx rfl (hb hby at_15) rfl (by decide) ?_
    exact κ
  obtain ⟨xl, hxl⟩ : ∃ z, z = ((((p0.toUInt32 >>> ((2 : Int32) &&& 31).toUInt32).toInt32) &&& (2147483647 : Int32)) % (3 : Int32)) := ⟨_, rfl⟩
  have pq104 : ∀ τ, Steps pP.tables e below (s₁.setTop (mkF m 16 #[.val (.int p0), .val (.int p1), .val (.int p2), .val (.int p3), .val (.int p4), .val (.int p5), .val (.int tl), .unset, .unset, .unset, .unset, .unset, .unset, .unset, .unset, .unset] [(.int xl)])) τ → Steps pP.tables e below A0 τ := by intro τ κ; rw [hxl] at κ; exact pq103 τ κ
  have pq105 : ∀ τ, Steps pP.tables e below (s₁.setTop (mkF m 24 #[.val (.int p0), .val (.int p1), .val (.int p2), .val (.int p3), .val (.int p4), .val (.int p5), .val (.int tl), .val (.int xl), .unset, .unset, .unset, .unset, .unset, .unset, .unset, .unset] [(.int ((p1 &&& (255 : Int32)).toUInt32.toUInt16.toUInt32.toInt32))])) τ → Steps pP.tables e below A0 τ := by
    intro τ κ
    refine pq104 τ ?_
    refine XS.istore X0.here hx rfl (hb hby at_16) rfl (l' := #[.val (.int p0), .val (.int p1), .val (.int p2), .val (.int p3), .val (.int p4), .val (.int p5), .val (.int tl), .val (.int xl), .unset, .unset, .unset, .unset, .unset, .unset, .unset, .unset]) rfl ?_
    refine XS.iloadN X0.here hx rfl (hb hby at_18) rfl ?_
    refine XS.sipush X0.here hx rfl (hb hby at_19) ?_
    refine XS.iand X0.here hx rfl (hb hby at_22) rfl ?_
    refine XS.i2c X0.here hx rfl (hb hby at_23) rfl ?_
    exact κ
  obtain ⟨ca, hca⟩ : ∃ z, z = ((p1 &&& (255 : Int32)).toUInt32.toUInt16.toUInt32.toInt32) := ⟨_, rfl⟩
  have pq106 : ∀ τ, Steps pP.tables e below (s₁.setTop (mkF m 24 #[.val (.int p0), .val (.int p1), .val (.int p2), .val (.int p3), .val (.int p4), .val (.int p5), .val (.int tl), .val (.int xl), .unset, .unset, .unset, .unset, .unset, .unset, .unset, .unset] [(.int ca)])) τ → Steps pP.tables e below A0 τ := by intro τ κ; rw [hca] at κ; exact pq105 τ κ
  have pq107 : ∀ τ, Steps pP.tables e below (s₁.setTop (mkF m 32 #[.val (.int p0), .val (.int p1), .val (.int p2), .val (.int p3), .val (.int p4), .val (.int p5), .val (.int tl), .val (.int xl), .val (.int ca), .unset, .unset, .unset, .unset, .unset, .unset, .unset] [(.int ((p2 &&& (255 : Int32)).toUInt32.toUInt16.toUInt32.toInt32))])) τ → Steps pP.tables e below A0 τ := by
    intro τ κ
    refine pq106 τ ?_
    refine XS.istore X0.here hx rfl (hb hby at_24) rfl (l' := #[.val (.int p0), .val (.int p1), .val (.int p2), .val (.int p3), .val (.int p4), .val (.int p5), .val (.int tl), .val (.int xl), .val (.int ca), .unset, .unset, .unset, .unset, .unset, .unset, .unset]) rfl ?_
    refine XS.iloadN X0.here hx rfl (hb hby at_26) rfl ?_
    refine XS.sipush X0.here hx rfl (hb hby at_27) ?_
    refine XS.iand X0.here hx rfl (hb hby at_30) rfl ?_
    refine XS.i2c X0.here hx rfl (hb hby at_31) rfl ?_
    exact κ
  obtain ⟨cb, hcb⟩ : ∃ z, z = ((p2 &&& (255 : Int32)).toUInt32.toUInt16.toUInt32.toInt32) := ⟨_, rfl⟩
  have pq108 : ∀ τ, Steps pP.tables e below (s₁.setTop (mkF m 32 #[.val (.int p0), .val (.int p1), .val (.int p2), .val (.int p3), .val (.int p4), .val (.int p5), .val (.int tl), .val (.int xl), .val (.int ca), .unset, .unset, .unset, .unset, .unset, .unset, .unset] [(.int cb)])) τ → Steps pP.tables e below A0 τ := by intro τ κ; rw [hcb] at κ; exact pq107 τ κ
  have pq109 : ∀ τ, Steps pP.tables e below (s₁.setTop (mkF m 40 #[.val (.int p0), .val (.int p1), .val (.int p2), .val (.int p3), .val (.int p4), .val (.int p5), .val (.int tl), .val (.int xl), .val (.int ca), .val (.int cb), .unset, .unset, .unset, .unset, .unset, .unset] [(.int ((p3 &&& (255 : Int32)).toUInt32.toUInt16.toUInt32.toInt32))])) τ → Steps pP.tables e below A0 τ := by
    intro τ κ
    refine pq108 τ ?_
    refine XS.istore X0.here hx rfl (hb hby at_32) rfl (l' := #[.val (.int p0), .val (.int p1), .val (.int p2), .val (.int p3), .val (.int p4), .val (.int p5), .val (.int tl), .val (.int xl), .val (.int ca), .val (.int cb), .unset, .unset, .unset, .unset, .unset, .unset]) rfl ?_
    refine XS.iloadN X0.here hx rfl (hb hby at_34) rfl ?_
    refine XS.sipush X0.here hx rfl (hb hby at_35) ?_
    refine XS.iand X0.here hx rfl (hb hby at_38) rfl ?_
    refine XS.i2c X0.here hx rfl (hb hby at_39) rfl ?_
    exact κ
  obtain ⟨cc, hcc⟩ : ∃ z, z = ((p3 &&& (255 : Int32)).toUInt32.toUInt16.toUInt32.toInt32) := ⟨_, rfl⟩
  have pq110 : ∀ τ, Steps pP.tables e below (s₁.setTop (mkF m 40 #[.val (.int p0), .val (.int p1), .val (.int p2), .val (.int p3), .val (.int p4), .val (.int p5), .val (.int tl), .val (.int xl), .val (.int ca), .val (.int cb), .unset, .unset, .unset, .unset, .unset, .unset] [(.int cc)])) τ → Steps pP.tables e below A0 τ := by intro τ κ; rw [hcc] at κ; exact pq109 τ κ
  have pq111 : ∀ τ, Steps pP.tables e below (s₁.setTop (mkF m 49 #[.val (.int p0), .val (.int p1), .val (.int p2), .val (.int p3), .val (.int p4), .val (.int p5), .val (.int tl), .val (.int xl), .val (.int ca), .val (.int cb), .val (.int cc), .unset, .unset, .unset, .unset, .unset] [(.int ((p4 &&& (255 : Int32)).toUInt32.toUInt16.toUInt32.toInt32))])) τ → Steps pP.tables e below A0 τ := by
    intro τ κ
    refine pq110 τ ?_
    refine XS.istore X0.here hx rfl (hb hby at_40) rfl (l' := #[.val (.int p0), .val (.int p1), .val (.int p2), .val (.int p3), .val (.int p4), .val (.int p5), .val (.int tl), .val (.int xl), .val (.int ca), .val (.int cb), .val (.int cc), .unset, .unset, .unset, .unset, .unset]) rfl ?_
    refine XS.iload X0.here hx rfl (hb hby at_42) rfl ?_
    refine XS.sipush X0.here hx rfl (hb hby at_44) ?_
    refine XS.iand X0.here hx rfl (hb hby at_47) rfl ?_
    refine XS.i2c X0.here hx rfl (hb hby at_48) rfl ?_
    exact κ
  obtain ⟨cd, hcd⟩ : ∃ z, z = ((p4 &&& (255 : Int32)).toUInt32.toUInt16.toUInt32.toInt32) := ⟨_, rfl⟩
  have pq112 : ∀ τ, Steps pP.tables e below (s₁.setTop (mkF m 49 #[.val (.int p0), .val (.int p1), .val (.int p2), .val (.int p3), .val (.int p4), .val (.int p5), .val (.int tl), .val (.int xl), .val (.int ca), .val (.int cb), .val (.int cc), .unset, .unset, .unset, .unset, .unset] [(.int cd)])) τ → Steps pP.tables e below A0 τ := by intro τ κ; rw [hcd] at κ; exact pq111 τ κ
  obtain ⟨_, _, ⟨T113, L113, k113, n113⟩, -, X113, S113, G113, ⟨Lc113, hQ113, l113, y113, z113, C113⟩, st113⟩ := callSS X0 hx (y := (⟨"com/example/stateful_search/statefulsearch/session/SearchResultSummaryPinLaw", "mk", "(ICC)Ljava/lang/String;"⟩ : MethodName)) hown (mvT hZ (hw _ (List.mem_of_getElem? (i := 1) rfl))) (mvT hZ (hw _ (List.mem_of_getElem? (i := 2) rfl))) (mvT hZ (hw _ (List.mem_of_getElem? (i := 3) rfl))) (mvT hZ (hw _ (List.mem_of_getElem? (i := 4) rfl))) (by decide) (backOfSH (s := s) (vm0 := s.vm) (EL := consts_1) (W := 0) (rm_mk l Z a0 hw hEW [] tl ca cb G1 h0 n0 Z0 O2 P5 X00 (by rw [hca]; exact own_i2c _ (own_and255 _)) (by rw [hcb]; exact own_i2c _ (own_and255 _))) hZ (hw _ (List.mem_of_getElem? (i := 4) rfl)) (hw _ (List.mem_of_getElem? (i := 3) rfl)) (by decide) (by decide) hEW CH0) (g := (mkF m 57 #[.val (.int p0), .val (.int p1), .val (.int p2), .val (.int p3), .val (.int p4), .val (.int p5), .val (.int tl), .val (.int xl), .val (.int ca), .val (.int cb), .val (.int cc), .val (.int cd), .unset, .unset, .unset, .unset] [(.int cb), (.int ca), (.int tl)])) rfl (by rw [hml]; rfl) (argsL := [(.int tl), (.int ca), (.int cb)]) (rest := []) (lenOf pdo_20 rfl) rfl (by show 2 * 0 + _ ≤ _; exact Nat.le_of_eq rfl) (hb hby at_57) (fun _ _ => ⟨rfl, e0, (by decide : 0 + 4 ≤ _), (by decide : 0 + 8 ≤ _)⟩)
  dsimp only [Pt.U, Pt.locs, Pt.cells, Pt.slots] at X113 l113 y113 z113 st113 hQ113 S113 G113 C113
  subst l113 y113 z113
  have G113a : h0.size ≤ T113.heap.size := by first | exact G113 | (rw [← e0]; exact G113)
  obtain ⟨X113, SI113, Z113, O113⟩ := rebS SI0 SK0 X113 S113 G113a hZ hown
  have SK113 : T113.heap.size ≤ T113.heap.size := Nat.le_refl _
  obtain ⟨a113, t113, kb113, rfl, Nq113, K113, Ex113, Fc113, Fv113, Vt113⟩ := hQ113
  have N113 := Fr.app N0 Nq113
  have pq114 : ∀ τ, Steps pP.tables e below (T113.setTop (mkF m 60 #[.val (.int p0), .val (.int p1), .val (.int p2), .val (.int p3), .val (.int p4), .val (.int p5), .val (.int tl), .val (.int xl), .val (.int ca), .val (.int cb), .val (.int cc), .val (.int cd), .unset, .unset, .unset, .unset] [(.ref a113)])) τ → Steps pP.tables e below A0 τ := by
    intro τ κ
    refine pq112 τ ?_
    refine XS.istore X0.here hx rfl (hb hby at_49) rfl (l' := #[.val (.int p0), .val (.int p1), .val (.int p2), .val (.int p3), .val (.int p4), .val (.int p5), .val (.int tl), .val (.int xl), .val (.int ca), .val (.int cb), .val (.int cc), .val (.int cd), .unset, .unset, .unset, .unset]) rfl ?_
    refine XS.iload X0.here hx rfl (hb hby at_51) rfl ?_
    refine XS.iload X0.here hx rfl (hb hby at_53) rfl ?_
    refine XS.iload X0.here hx rfl (hb hby at_55) rfl ?_
    refine st113.trans ?_
    exact κ
  have KC113 : Keep h0 T113.heap [] := KC0.trans K113 all0
  have CH113 := C113.1
  have CR113 := CHr.trans CR0 C113
  have f115 := (X00.keep K113 all0)
  have f116 := (Nat.le_trans Z0 K113.1)
  obtain ⟨_, _, ⟨T117, L117, k117, n117⟩, -, X117, S117, G117, ⟨Lc117, hQ117, l117, y117, z117, C117⟩, st117⟩ := callSS X113 hx (y := (⟨"com/example/stateful_search/statefulsearch/session/SearchResultSummaryPinLaw", "mk", "(ICC)Ljava/lang/String;"⟩ : MethodName)) O113 (mvT Z113 (hw _ (List.mem_of_getElem? (i := 1) rfl))) (mvT Z113 (hw _ (List.mem_of_getElem? (i := 2) rfl))) (mvT Z113 (hw _ (List.mem_of_getElem? (i := 3) rfl))) (mvT Z113 (hw _ (List.mem_of_getElem? (i := 4) rfl))) (by decide) (backOfSH (s := s) (vm0 := T113.vm) (EL := consts_1) (W := 0) (rm_mk l Z a0 hw hEW [] xl cc cd G1 T113.heap n0 f116 O2 P5 f115 (by rw [hcc]; exact own_i2c _ (own_and255 _)) (by rw [hcd]; exact own_i2c _ (own_and255 _))) Z113 (hw _ (List.mem_of_getElem? (i := 4) rfl)) (hw _ (List.mem_of_getElem? (i := 3) rfl)) (by decide) (by decide) hEW CH113) (g := (mkF m 68 #[.val (.int p0), .val (.int p1), .val (.int p2), .val (.int p3), .val (.int p4), .val (.int p5), .val (.int tl), .val (.int xl), .val (.int ca), .val (.int cb), .val (.int cc), .val (.int cd), .val (.ref a113), .unset, .unset, .unset] [(.int cd), (.int cc), (.int xl)])) rfl (by rw [hml]; rfl) (argsL := [(.int xl), (.int cc), (.int cd)]) (rest := []) (lenOf pdo_20 rfl) rfl (by show 2 * 0 + _ ≤ _; exact Nat.le_of_eq rfl) (hb hby at_68) (fun _ _ => ⟨rfl, rfl, (by decide : 4 + 4 ≤ _), (by decide : 8 + 8 ≤ _)⟩)
  dsimp only [Pt.U, Pt.locs, Pt.cells, Pt.slots] at X117 l117 y117 z117 st117 hQ117 S117 G117 C117
  subst l117 y117 z117
  have G117a : T113.heap.size ≤ T117.heap.size := by first | exact G117 | (rw [← rfl]; exact G117)
  obtain ⟨X117, SI117, Z117, O117⟩ := rebS SI113 SK113 X117 S117 G117a Z113 O113
  have SK117 : T117.heap.size ≤ T117.heap.size := Nat.le_refl _
  obtain ⟨a117, t117, kb117, rfl, Nq117, K117, Ex117, Fc117, Fv117, Vt117⟩ := hQ117
  have N117 := Fr.app N113 Nq117
  have pq118 : ∀ τ, Steps pP.tables e below (T117.setTop (mkF m 71 #[.val (.int p0), .val (.int p1), .val (.int p2), .val (.int p3), .val (.int p4), .val (.int p5), .val (.int tl), .val (.int xl), .val (.int ca), .val (.int cb), .val (.int cc), .val (.int cd), .val (.ref a113), .unset, .unset, .unset] [(.ref a117)])) τ → Steps pP.tables e below A0 τ := by
    intro τ κ
    refine pq114 τ ?_
    refine XS.astore X113.here hx rfl (hb hby at_60) rfl rfl (l' := #[.val (.int p0), .val (.int p1), .val (.int p2), .val (.int p3), .val (.int p4), .val (.int p5), .val (.int tl), .val (.int xl), .val (.int ca), .val (.int cb), .val (.int cc), .val (.int cd), .val (.ref a113), .unset, .unset, .unset]) rfl ?_
    refine XS.iload X113.here hx rfl (hb hby at_62) rfl ?_
    refine XS.iload X113.here hx rfl (hb hby at_64) rfl ?_
    refine XS.iload X113.here hx rfl (hb hby at_66) rfl ?_
    refine st117.trans ?_
    exact κ
  have KC117 : Keep h0 T117.heap [] := KC113.trans K117 all0
  have CH117 := C117.1
  have CR117 := CHr.trans CR113 C117
  obtain ⟨T119, h119, X119, e119, E119, A119, D119, -, st119⟩ := newO X117 hx Z117 O117 (hw _ (List.mem_of_getElem? (i := 27) rfl)) (hw _ (List.mem_of_getElem? (i := 28) rfl)) (hw _ (List.mem_of_getElem? (i := 29) rfl)) rfl (g := (mkF m 73 #[.val (.int p0), .val (.int p1), .val (.int p2), .val (.int p3), .val (.int p4), .val (.int p5), .val (.int tl), .val (.int xl), .val (.int ca), .val (.int cb), .val (.int cc), .val (.int cd), .val (.ref a113), .val (.ref a117), .unset, .unset] [])) rfl (hb hby at_73) (by decide) (by decide)
  obtain ⟨b119, g119⟩ : ∃ z, z = T117.heap.size := ⟨_, rfl⟩
  rw [← g119] at A119 D119 st119
  have pq120 : ∀ τ, Steps pP.tables e below (T119.setTop (mkF m 76 #[.val (.int p0), .val (.int p1), .val (.int p2), .val (.int p3), .val (.int p4), .val (.int p5), .val (.int tl), .val (.int xl), .val (.int ca), .val (.int cb), .val (.int cc), .val (.int cd), .val (.ref a113), .val (.ref a117), .unset, .unset] [(.ref b119)])) τ → Steps pP.tables e below A0 τ := by
    intro τ κ
    refine pq118 τ ?_
    refine XS.astore X117.here hx rfl (hb hby at_71) rfl rfl (l' := #[.val (.int p0), .val (.int p1), .val (.int p2), .val (.int p3), .val (.int p4), .val (.int p5), .val (.int tl), .val (.int xl), .val (.int ca), .val (.int cb), .val (.int cc), .val (.int cd), .val (.ref a113), .val (.ref a117), .unset, .unset]) rfl ?_
    refine st119 _ ?_
    exact κ
  have KC119 : Keep h0 h119 [] := KC117.ext E119
  have CH119 := CHv.ext E119 CH117
  have CR119 := CHr.trans CR117 (CHr.ext E119 CH117)
  have SK119 := Nat.le_trans SK117 E119.1
  have Sf119 := Safe.ext (x := b119) E119 CH117 (Safe.new (Nat.le_of_eq g119.symm))
  have F_rank_b119 : Fld Z h119 b119 "com/example/stateful_search/statefulsearch/session/SearchResult" "rank" "I" (.int (0 : Int32)) := D119 (Or.inr (hw _ (List.mem_of_getElem? (i := 41) rfl))) (ty := .int) (by decide)
  have F_docno_b119 : Fld Z h119 b119 "com/example/stateful_search/statefulsearch/session/SearchResult" "docno" "Ljava/lang/String;" .null := D119 (Or.inr (hw _ (List.mem_of_getElem? (i := 43) rfl))) (ty := (.object "java/lang/String")) (by decide)
  have F_title_b119 : Fld Z h119 b119 "com/example/stateful_search/statefulsearch/session/SearchResult" "title" "Ljava/lang/String;" .null := D119 (Or.inr (hw _ (List.mem_of_getElem? (i := 45) rfl))) (ty := (.object "java/lang/String")) (by decide)
  have F_snippet_b119 : Fld Z h119 b119 "com/example/stateful_search/statefulsearch/session/SearchResult" "snippet" "Ljava/lang/String;" .null := D119 (Or.inr (hw _ (List.mem_of_getElem? (i := 47) rfl))) (ty := (.object "java/lang/String")) (by decide)
  obtain ⟨b121, T121, h121, k121, t121, kb121, X121, e121, E121, SI121, SK121, Z121, O121, A121, Fc121, Fv121, V121, lt121, ltt121, C121, L121, ne121, st121⟩ := ldcCH (s := s) (vm0 := T117.vm) (EL := consts_1) X119 hx Z117 O117 (hw _ (List.mem_of_getElem? (i := 30) rfl)) wS e119 SI117 SK119 hEW (by decide) CH119 (vs := [(.int (100 : Int32))]) (z := (1 : Int32)) (by decide) (by decide) (by decide) (g := (mkF m 79 #[.val (.int p0), .val (.int p1), .val (.int p2), .val (.int p3), .val (.int p4), .val (.int p5), .val (.int tl), .val (.int xl), .val (.int ca), .val (.int cb), .val (.int cc), .val (.int cd), .val (.ref a113), .val (.ref a117), .unset, .unset] [(.int p5), (.ref b119), (.ref b119)])) rfl (hb hby at_79) (n := 4) (by decide) (by decide) (by decide) (by decide)
  have pq122 : ∀ τ, Steps pP.tables e below (T121.setTop (mkF m 81 #[.val (.int p0), .val (.int p1), .val (.int p2), .val (.int p3), .val (.int p4), .val (.int p5), .val (.int tl), .val (.int xl), .val (.int ca), .val (.int cb), .val (.int cc), .val (.int cd), .val (.ref a113), .val (.ref a117), .unset, .unset] [(.ref b121), (.int p5), (.ref b119), (.ref b119)])) τ → Steps pP.tables e below A0 τ := by
    intro τ κ
    refine pq120 τ ?_
    refine XS.dup X119.here hx rfl (hb hby at_76) rfl rfl ?_
    refine XS.iload X119.here hx rfl (hb hby at_77) rfl ?_
    refine st121 _ ?_
    exact κ
  have K121 : Keep h119 h121 [] := (Keep.refl _ _).ext E121
  have KC121 : Keep h0 h121 [] := KC119.trans K121 all0
  have CH121 := C121.1
  have CR121 := CHr.trans CR119 C121
  have Vc121 : Arv Z h121 t121 kb121 .byte (Int32.ofNat ([(100 : Int32)]).length) ((([(100 : Int32)]).map (fun c : Int32 => c.toInt8.toInt32)).map Value.int) (.int 0) := by first | exact V121 | exact own_cast (by decide) (by decide) V121
  have f123 := (CHr.safe C121 A119.lt Sf119)
  have f124 := (A119.keep K121)
  have f125 := (F_rank_b119.keep K121 nin0)
  have f126 := (F_docno_b119.keep K121 nin0)
  have f127 := (F_title_b119.keep K121 nin0)
  have f128 := (F_snippet_b119.keep K121 nin0)
  have f129 := (Nat.le_trans (Nat.le_trans (Nat.le_trans f116 K117.1) E119.1) K121.1)
  obtain ⟨_, _, ⟨T130, L130, k130, n130⟩, -, X130, ⟨Lc130, hQ130, l130, y130, z130⟩, st130⟩ := X121.specialBack hx (y := (⟨"com/example/stateful_search/statefulsearch/session/SearchResult", "<init>", "(ILjava/lang/String;Ljava/lang/String;Ljava/lang/String;)V"⟩ : MethodName)) rfl O121 (mvT Z121 (hw _ (List.mem_of_getElem? (i := 31) rfl))) (mvT Z121 (hw _ (List.mem_of_getElem? (i := 32) rfl))) (mvT Z121 (hw _ (List.mem_of_getElem? (i := 33) rfl))) (by decide) (backOf (W := 1) (rm_ctor l Z a0 hw [] b119 p5 b121 a113 a117  h121 n0 f129 f124 (Nat.le_trans (Nat.le_trans f116 K117.1) (Nat.le_of_eq g119.symm)) f125 f126 f127 f128) Z121 (hw _ (List.mem_of_getElem? (i := 33) rfl)) (hw _ (List.mem_of_getElem? (i := 29) rfl)) (by decide) (by decide)) (g := (mkF m 85 #[.val (.int p0), .val (.int p1), .val (.int p2), .val (.int p3), .val (.int p4), .val (.int p5), .val (.int tl), .val (.int xl), .val (.int ca), .val (.int cb), .val (.int cc), .val (.int cd), .val (.ref a113), .val (.ref a117), .unset, .unset] [(.ref a117), (.ref a113), (.ref b121), (.int p5), (.ref b119), (.ref b119)])) rfl (by rw [hml]; rfl) (Steps.refl _) (a := b119) (argsL := [(.int p5), (.ref b121), (.ref a113), (.ref a117)]) (rest := [(.ref b119)]) (lenOf pdo_21 rfl) rfl (by show 2 * 0 + _ ≤ _; exact Nat.le_of_eq rfl) (hb hby at_85) (fun _ _ => ⟨rfl, e121, (by decide : 11 + 0 ≤ _), (by decide : 28 + 0 ≤ _)⟩)
  dsimp only [Pt.U, Pt.locs, Pt.cells, Pt.slots] at X130 l130 y130 z130 st130 hQ130
  subst l130 y130 z130
  obtain ⟨rfl, Nq130, K130, Ex130, F130_title, F130_snippet⟩ := hQ130
  have N130 := Fr.app N117 Nq130
  have pq131 : ∀ τ, Steps pP.tables e below (T130.setTop (mkF m 88 #[.val (.int p0), .val (.int p1), .val (.int p2), .val (.int p3), .val (.int p4), .val (.int p5), .val (.int tl), .val (.int xl), .val (.int ca), .val (.int cb), .val (.int cc), .val (.int cd), .val (.ref a113), .val (.ref a117), .unset, .unset] [(.ref b119)])) τ → Steps pP.tables e below A0 τ := by
    intro τ κ
    refine pq122 τ ?_
    refine XS.aload X121.here hx rfl (hb hby at_81) rfl rfl ?_
    refine XS.aload X121.here hx rfl (hb hby at_83) rfl rfl ?_
    refine st130.trans ?_
    exact κ
  have KC130 : Keep h0 T130.heap [] := KC121.trans K130 (allS (Or.inr (Nat.le_trans (Nat.le_trans (Nat.le_trans (Nat.le_refl _) K113.1) K117.1) (Nat.le_of_eq g119.symm))) all0)
  have CH130 := CHv.keep K130 (sfS f123 sf0) CH121
  have CR130 := CHr.trans CR121 (CHr.keep K130 (sfS f123 sf0) CH121)
  have SK130 := Nat.le_trans SK121 K130.1
  have f132 := ((((f115.keep K117 all0).ext E119).keep K121 all0).keep K130 (allS (Nat.le_trans (Nat.le_trans f116 K117.1) (Nat.le_of_eq g119.symm)) all0))
  have f133 := ((((Ex113.keep K117).ext E119).keep K121).keep K130)
  have f134 := ((((Fc113.keep K117 nin0).ext E119).keep K121 nin0).keep K130 (ninS (Nat.ne_of_lt (Nat.lt_of_lt_of_le (Ex113.keep K117).lt (Nat.le_of_eq g119.symm))) nin0))
  have f135 := ((((Fv113.keep K117 nin0).ext E119).keep K121 nin0).keep K130 (ninS (Nat.ne_of_lt (Nat.lt_of_lt_of_le (Ex113.keep K117).lt (Nat.le_of_eq g119.symm))) nin0))
  have f136 := ((((Vt113.keep K117 nin0).ext E119).keep K121 nin0).keep K130 (ninS (Nat.ne_of_lt (Nat.lt_of_lt_of_le (Vt113.keep K117 nin0).lt (Nat.le_of_eq g119.symm))) nin0))
  have f137 := (((Ex117.ext E119).keep K121).keep K130)
  have f138 := (((Fc117.ext E119).keep K121 nin0).keep K130 (ninS (Nat.ne_of_lt (Nat.lt_of_lt_of_le Ex117.lt (Nat.le_of_eq g119.symm))) nin0))
  have f139 := (((Fv117.ext E119).keep K121 nin0).keep K130 (ninS (Nat.ne_of_lt (Nat.lt_of_lt_of_le Ex117.lt (Nat.le_of_eq g119.symm))) nin0))
  have f140 := (((Vt117.ext E119).keep K121 nin0).keep K130 (ninS (Nat.ne_of_lt (Nat.lt_of_lt_of_le Vt117.lt (Nat.le_of_eq g119.symm))) nin0))
  have f141 := (Nat.le_trans f129 K130.1)
  obtain ⟨cq143, kq143, q143a, q143b, q143c⟩ := isOf Z121 rfl Ex130
  obtain ⟨_, _, ⟨T142, L142, k142, n142⟩, -, X142, S142, G142, ⟨Lc142, hQ142, l142, y142, z142, C142⟩, st142⟩ := X130.virtualBackS hx (y := (⟨"com/example/stateful_search/statefulsearch/session/SearchResult", "summary", "()Ljava/lang/String;"⟩ : MethodName)) (z := (⟨"com/example/stateful_search/statefulsearch/session/SearchResult", "summary", "()Ljava/lang/String;"⟩ : MethodName)) O121 (mvT Z121 (hw _ (List.mem_of_getElem? (i := 48) rfl))) (mvT Z121 (hw _ (List.mem_of_getElem? (i := 49) rfl))) (notFace_of_selects (args := #[]) (mvT Z121 (hw _ (List.mem_of_getElem? (i := 51) rfl)))) (mvT Z121 (hw _ (List.mem_of_getElem? (i := 51) rfl))) (mvT Z121 (hw _ (List.mem_of_getElem? (i := 50) rfl))) (by decide) (backOfSH (s := s) (vm0 := T121.vm) (EL := consts_1) (W := 0) (rm_con l Z a0 hw hEW [] b119 a113 t113 kb113 (own_cs tl ca cb) a117 t117 kb117 (own_cs xl cc cd) G1 T130.heap n0 f141 O2 P5 f132 F130_title F130_snippet f133 f134 f135 f136 f137 f138 f139 f140 (own_cs_len _ _ _) (own_cs_len _ _ _)) Z121 (hw _ (List.mem_of_getElem? (i := 52) rfl)) (hw _ (List.mem_of_getElem? (i := 29) rfl)) (by decide) (by decide) hEW CH130) q143a q143c (g := (mkF m 92 #[.val (.int p0), .val (.int p1), .val (.int p2), .val (.int p3), .val (.int p4), .val (.int p5), .val (.int tl), .val (.int xl), .val (.int ca), .val (.int cb), .val (.int cc), .val (.int cd), .val (.ref a113), .val (.ref a117), .val (.ref b119), .unset] [(.ref b119)])) rfl (by rw [hml]; rfl) (Steps.refl _) (argsL := []) (rest := []) (lenOf pdo_18 rfl) rfl (by show 2 * 0 + _ ≤ _; exact Nat.le_of_eq rfl) (hb hby at_92) (fun _ _ => ⟨rfl, rfl, (by decide : 11 + 6 ≤ _), (by decide : 28 + 48 ≤ _)⟩)
  dsimp only [Pt.U, Pt.locs, Pt.cells, Pt.slots] at X142 l142 y142 z142 st142 hQ142 S142 G142 C142
  subst l142 y142 z142
  have G142a : T130.heap.size ≤ T142.heap.size := by first | exact G142 | (rw [← rfl]; exact G142)
  obtain ⟨X142, SI142, Z142, O142⟩ := rebS SI121 SK130 X142 S142 G142a Z121 O121
  have SK142 : T142.heap.size ≤ T142.heap.size := Nat.le_refl _
  obtain ⟨a142, t142, kb142, rfl, Nq142, K142, Ex142, Fc142, Fv142, Vt142⟩ := hQ142
  have N142 := Fr.app N130 Nq142
  have pq144 : ∀ τ, Steps pP.tables e below (T142.setTop (mkF m 95 #[.val (.int p0), .val (.int p1), .val (.int p2), .val (.int p3), .val (.int p4), .val (.int p5), .val (.int tl), .val (.int xl), .val (.int ca), .val (.int cb), .val (.int cc), .val (.int cd), .val (.ref a113), .val (.ref a117), .val (.ref b119), .unset] [(.ref a142)])) τ → Steps pP.tables e below A0 τ := by
    intro τ κ
    refine pq131 τ ?_
    refine XS.astore X130.here hx rfl (hb hby at_88) rfl rfl (l' := #[.val (.int p0), .val (.int p1), .val (.int p2), .val (.int p3), .val (.int p4), .val (.int p5), .val (.int tl), .val (.int xl), .val (.int ca), .val (.int cb), .val (.int cc), .val (.int cd), .val (.ref a113), .val (.ref a117), .val (.ref b119), .unset]) rfl ?_
    refine XS.aload X130.here hx rfl (hb hby at_90) rfl rfl ?_
    refine st142.trans ?_
    exact κ
  have KC142 : Keep h0 T142.heap [] := KC130.trans K142 all0
  have CH142 := C142.1
  have CR142 := CHr.trans CR130 C142
  have d1 : tl = 0 ∨ tl = 1 ∨ tl = 2 := by rw [htl]; exact own_rem3 _ (own_and3 _ _ (by decide))
  have d2 : xl = 0 ∨ xl = 1 ∨ xl = 2 := by rw [hxl]; exact own_rem3 _ (own_and3 _ _ (by decide))
  have hpr : ∀ c ∈ ((([] ++ (own_cs tl ca cb)) ++ [(10 : Int32)]) ++ (own_cs xl cc cd)), ¬ c < 0 ∧ ¬ (255 : Int32) < c := own_conhp (by rw [hca]; exact own_i2c _ (own_and255 _)) (by rw [hcb]; exact own_i2c _ (own_and255 _)) (by rw [hcc]; exact own_i2c _ (own_and255 _)) (by rw [hcd]; exact own_i2c _ (own_and255 _))
  have f145 := (f132.keep K142 all0)
  have f146 := (Nat.le_trans f141 K142.1)
  obtain ⟨cq148, kq148, q148a, q148b, q148c⟩ := isOf Z142 rfl Ex142
  obtain ⟨_, _, ⟨T147, L147, k147, n147⟩, -, X147, ⟨Lc147, hQ147, l147, y147, z147⟩, st147⟩ := X142.virtualBack hx (y := (⟨"java/lang/String", "length", "()I"⟩ : MethodName)) (z := (⟨"java/lang/String", "length", "()I"⟩ : MethodName)) O142 (mvT Z142 (hw _ (List.mem_of_getElem? (i := 165) rfl))) (mvT Z142 (hw _ (List.mem_of_getElem? (i := 82) rfl))) (notFace_of_selects (args := #[]) (mvT Z142 (hw _ (List.mem_of_getElem? (i := 84) rfl)))) (mvT Z142 (hw _ (List.mem_of_getElem? (i := 84) rfl))) (mvT Z142 (hw _ (List.mem_of_getElem? (i := 83) rfl))) (by decide) (backOf (W := 0) (rm_len l Z a0 hw [] a142 t142 kb142 ((([] ++ (own_cs tl ca cb)) ++ [(10 : Int32)]) ++ (own_cs xl cc cd)) G1 T142.heap n0 f146 O2 P5 f145 Ex142 Fc142 Fv142 Vt142) Z142 (hw _ (List.mem_of_getElem? (i := 85) rfl)) (hw _ (List.mem_of_getElem? (i := 7) rfl)) (by decide) (by decide)) q148a q148c (g := (mkF m 106 #[.val (.int p0), .val (.int p1), .val (.int p2), .val (.int p3), .val (.int p4), .val (.int p5), .val (.int tl), .val (.int xl), .val (.int ca), .val (.int cb), .val (.int cc), .val (.int cd), .val (.ref a113), .val (.ref a117), .val (.ref b119), .val (.ref a142)] [(.ref a142)])) rfl (by rw [hml]; rfl) (Steps.refl _) (argsL := []) (rest := []) (lenOf pdo_4 rfl) rfl (by show 2 * 0 + _ ≤ _; exact Nat.le_of_eq rfl) (hb hby at_106) (fun _ _ => ⟨rfl, rfl, (by decide : 17 + 0 ≤ _), (by decide : 76 + 0 ≤ _)⟩)
  dsimp only [Pt.U, Pt.locs, Pt.cells, Pt.slots] at X147 l147 y147 z147 st147 hQ147
  subst l147 y147 z147
  obtain ⟨rfl, Nq147, eq147⟩ := hQ147
  have N147 := Fr.app N142 Nq147
  have pq149 : ∀ τ, Steps pP.tables e below (T147.setTop (mkF m 109 #[.val (.int p0), .val (.int p1), .val (.int p2), .val (.int p3), .val (.int p4), .val (.int p5), .val (.int tl), .val (.int xl), .val (.int ca), .val (.int cb), .val (.int cc), .val (.int cd), .val (.ref a113), .val (.ref a117), .val (.ref b119), .val (.ref a142)] [(.int (Int32.ofNat (((([] ++ (own_cs tl ca cb)) ++ [(10 : Int32)]) ++ (own_cs xl cc cd))).length))])) τ → Steps pP.tables e below A0 τ := by
    intro τ κ
    refine pq144 τ ?_
    refine XS.astore X142.here hx rfl (hb hby at_95) rfl rfl (l' := #[.val (.int p0), .val (.int p1), .val (.int p2), .val (.int p3), .val (.int p4), .val (.int p5), .val (.int tl), .val (.int xl), .val (.int ca), .val (.int cb), .val (.int cc), .val (.int cd), .val (.ref a113), .val (.ref a117), .val (.ref b119), .val (.ref a142)]) rfl ?_
    refine XS.aload X142.here hx rfl (hb hby at_97) rfl rfl ?_
    refine XS.ifnonnullYes X142.here hx rfl (pc0 := 99) (pc' := 104) rfl (hb hby at_99) rfl (by decide) (by decide) ?_
    refine XS.aload X142.here hx rfl (hb hby at_104) rfl rfl ?_
    refine st147.trans ?_
    exact κ
  obtain ⟨_, _, ⟨T150, L150, k150, n150⟩, -, X150, ⟨Lc150, hQ150, l150, y150, z150⟩, st150⟩ := Jvm.LawKit.callS X147 hx (y := (⟨"com/example/stateful_search/statefulsearch/session/SearchResultSummaryPinLaw", "ok", "(Ljava/lang/String;IICCCC)Z"⟩ : MethodName)) O142 (mvT Z142 (hw _ (List.mem_of_getElem? (i := 166) rfl))) (mvT Z142 (hw _ (List.mem_of_getElem? (i := 167) rfl))) (mvT Z142 (hw _ (List.mem_of_getElem? (i := 3) rfl))) (mvT Z142 (hw _ (List.mem_of_getElem? (i := 168) rfl))) (by decide) (backOf (W := 0) (rm_ok l Z a0 hw [] a142 t142 kb142 0 tl xl ca cb cc cd ((([] ++ (own_cs tl ca cb)) ++ [(10 : Int32)]) ++ (own_cs xl cc cd)) G1 G3 T142.heap n0 f146 O2 P5 f145 O4 rG3 Ex142 Fc142 Fv142 Vt142 hpr rfl (by decide) d1 d2) Z142 (hw _ (List.mem_of_getElem? (i := 168) rfl)) (hw _ (List.mem_of_getElem? (i := 3) rfl)) (by decide) (by decide)) (g := (mkF m 134 #[.val (.int p0), .val (.int p1), .val (.int p2), .val (.int p3), .val (.int p4), .val (.int p5), .val (.int tl), .val (.int xl), .val (.int ca), .val (.int cb), .val (.int cc), .val (.int cd), .val (.ref a113), .val (.ref a117), .val (.ref b119), .val (.ref a142)] [(.int cd), (.int cc), (.int cb), (.int ca), (.int tl), (.int (0 : Int32)), (.ref a142)])) rfl (by rw [hml]; rfl) (argsL := [(.ref a142), (.int (0 : Int32)), (.int tl), (.int ca), (.int cb), (.int cc), (.int cd)]) (rest := []) (lenOf pdo_22 rfl) rfl (by show 2 * 0 + _ ≤ _; exact Nat.le_of_eq rfl) (hb hby at_134) (fun _ _ => ⟨rfl, eq147, (by decide : 17 + 0 ≤ _), (by decide : 76 + 0 ≤ _)⟩)
  dsimp only [Pt.U, Pt.locs, Pt.cells, Pt.slots] at X150 l150 y150 z150 st150 hQ150
  subst l150 y150 z150
  obtain ⟨rfl, Nq150, eq150⟩ := hQ150
  have N150 := Fr.app N147 Nq150
  have pq151 : ∀ τ, Steps pP.tables e below (T150.setTop (mkF m 137 #[.val (.int p0), .val (.int p1), .val (.int p2), .val (.int p3), .val (.int p4), .val (.int p5), .val (.int tl), .val (.int xl), .val (.int ca), .val (.int cb), .val (.int cc), .val (.int cd), .val (.ref a113), .val (.ref a117), .val (.ref b119), .val (.ref a142)] [(.int (1 : Int32))])) τ → Steps pP.tables e below A0 τ := by
    intro τ κ
    refine pq149 τ ?_
    refine XS.iload X147.here hx rfl (hb hby at_109) rfl ?_
    refine XS.iconst X147.here hx rfl (hb hby at_111) ?_
    refine XS.iadd X147.here hx rfl (hb hby at_112) rfl ?_
    refine XS.iload X147.here hx rfl (hb hby at_113) rfl ?_
    refine XS.iadd X147.here hx rfl (hb hby at_115) rfl ?_
    refine XS.icmpYes X147.here hx rfl (pc0 := 116) (pc' := 121) rfl (hb hby at_116) rfl (teq (own_con5 d1 d2)).1 (by decide) (by decide) ?_
    refine XS.aload X147.here hx rfl (hb hby at_121) rfl rfl ?_
    refine XS.iconst X147.here hx rfl (hb hby at_123) ?_
    refine XS.iload X147.here hx rfl (hb hby at_124) rfl ?_
    refine XS.iload X147.here hx rfl (hb hby at_126) rfl ?_
    refine XS.iload X147.here hx rfl (hb hby at_128) rfl ?_
    refine XS.iload X147.here hx rfl (hb hby at_130) rfl ?_
    refine XS.iload X147.here hx rfl (hb hby at_132) rfl ?_
    refine st150 _ ?_
    exact κ
  obtain ⟨_, _, ⟨T152, L152, k152, n152⟩, -, X152, ⟨Lc152, hQ152, l152, y152, z152⟩, st152⟩ := Jvm.LawKit.callS X150 hx (y := (⟨"com/example/stateful_search/statefulsearch/session/SearchResultSummaryPinLaw", "ok", "(Ljava/lang/String;IICCCC)Z"⟩ : MethodName)) O142 (mvT Z142 (hw _ (List.mem_of_getElem? (i := 166) rfl))) (mvT Z142 (hw _ (List.mem_of_getElem? (i := 167) rfl))) (mvT Z142 (hw _ (List.mem_of_getElem? (i := 3) rfl))) (mvT Z142 (hw _ (List.mem_of_getElem? (i := 168) rfl))) (by decide) (backOf (W := 0) (rm_ok l Z a0 hw [] a142 t142 kb142 1 tl xl ca cb cc cd ((([] ++ (own_cs tl ca cb)) ++ [(10 : Int32)]) ++ (own_cs xl cc cd)) G1 G3 T142.heap n0 f146 O2 P5 f145 O4 rG3 Ex142 Fc142 Fv142 Vt142 hpr rfl (by decide) d1 d2) Z142 (hw _ (List.mem_of_getElem? (i := 168) rfl)) (hw _ (List.mem_of_getElem? (i := 3) rfl)) (by decide) (by decide)) (g := (mkF m 153 #[.val (.int p0), .val (.int p1), .val (.int p2), .val (.int p3), .val (.int p4), .val (.int p5), .val (.int tl), .val (.int xl), .val (.int ca), .val (.int cb), .val (.int cc), .val (.int cd), .val (.ref a113), .val (.ref a117), .val (.ref b119), .val (.ref a142)] [(.int cd), (.int cc), (.int cb), (.int ca), (.int tl), (.int (1 : Int32)), (.ref a142)])) rfl (by rw [hml]; rfl) (argsL := [(.ref a142), (.int (1 : Int32)), (.int tl), (.int ca), (.int cb), (.int cc), (.int cd)]) (rest := []) (lenOf pdo_22 rfl) rfl (by show 2 * 0 + _ ≤ _; exact Nat.le_of_eq rfl) (hb hby at_153) (fun _ _ => ⟨rfl, eq150, (by decide : 17 + 0 ≤ _), (by decide : 76 + 0 ≤ _)⟩)
  dsimp only [Pt.U, Pt.locs, Pt.cells, Pt.slots] at X152 l152 y152 z152 st152 hQ152
  subst l152 y152 z152
  obtain ⟨rfl, Nq152, eq152⟩ := hQ152
  have N152 := Fr.app N150 Nq152
  have pq153 : ∀ τ, Steps pP.tables e below (T152.setTop (mkF m 156 #[.val (.int p0), .val (.int p1), .val (.int p2), .val (.int p3), .val (.int p4), .val (.int p5), .val (.int tl), .val (.int xl), .val (.int ca), .val (.int cb), .val (.int cc), .val (.int cd), .val (.ref a113), .val (.ref a117), .val (.ref b119), .val (.ref a142)] [(.int (1 : Int32))])) τ → Steps pP.tables e below A0 τ := by
    intro τ κ
    refine pq151 τ ?_
    refine XS.ifNo X150.here hx rfl (hb hby at_137) rfl ((if0 _ _).trans (feq (by decide : ¬ ((1 : Int32) = (0 : Int32)))).1) ?_
    refine XS.aload X150.here hx rfl (hb hby at_140) rfl rfl ?_
    refine XS.iconst X150.here hx rfl (hb hby at_142) ?_
    refine XS.iload X150.here hx rfl (hb hby at_143) rfl ?_
    refine XS.iload X150.here hx rfl (hb hby at_145) rfl ?_
    refine XS.iload X150.here hx rfl (hb hby at_147) rfl ?_
    refine XS.iload X150.here hx rfl (hb hby at_149) rfl ?_
    refine XS.iload X150.here hx rfl (hb hby at_151) rfl ?_
    refine st152 _ ?_
    exact κ
  obtain ⟨_, _, ⟨T154, L154, k154, n154⟩, -, X154, ⟨Lc154, hQ154, l154, y154, z154⟩, st154⟩ := Jvm.LawKit.callS X152 hx (y := (⟨"com/example/stateful_search/statefulsearch/session/SearchResultSummaryPinLaw", "ok", "(Ljava/lang/String;IICCCC)Z"⟩ : MethodName)) O142 (mvT Z142 (hw _ (List.mem_of_getElem? (i := 166) rfl))) (mvT Z142 (hw _ (List.mem_of_getElem? (i := 167) rfl))) (mvT Z142 (hw _ (List.mem_of_getElem? (i := 3) rfl))) (mvT Z142 (hw _ (List.mem_of_getElem? (i := 168) rfl))) (by decide) (backOf (W := 0) (rm_ok l Z a0 hw [] a142 t142 kb142 2 tl xl ca cb cc cd ((([] ++ (own_cs tl ca cb)) ++ [(10 : Int32)]) ++ (own_cs xl cc cd)) G1 G3 T142.heap n0 f146 O2 P5 f145 O4 rG3 Ex142 Fc142 Fv142 Vt142 hpr rfl (by decide) d1 d2) Z142 (hw _ (List.mem_of_getElem? (i := 168) rfl)) (hw _ (List.mem_of_getElem? (i := 3) rfl)) (by decide) (by decide)) (g := (mkF m 172 #[.val (.int p0), .val (.int p1), .val (.int p2), .val (.int p3), .val (.int p4), .val (.int p5), .val (.int tl), .val (.int xl), .val (.int ca), .val (.int cb), .val (.int cc), .val (.int cd), .val (.ref a113), .val (.ref a117), .val (.ref b119), .val (.ref a142)] [(.int cd), (.int cc), (.int cb), (.int ca), (.int tl), (.int (2 : Int32)), (.ref a142)])) rfl (by rw [hml]; rfl) (argsL := [(.ref a142), (.int (2 : Int32)), (.int tl), (.int ca), (.int cb), (.int cc), (.int cd)]) (rest := []) (lenOf pdo_22 rfl) rfl (by show 2 * 0 + _ ≤ _; exact Nat.le_of_eq rfl) (hb hby at_172) (fun _ _ => ⟨rfl, eq152, (by decide : 17 + 0 ≤ _), (by decide : 76 + 0 ≤ _)⟩)
  dsimp only [Pt.U, Pt.locs, Pt.cells, Pt.slots] at X154 l154 y154 z154 st154 hQ154
  subst l154 y154 z154
  obtain ⟨rfl, Nq154, eq154⟩ := hQ154
  have N154 := Fr.app N152 Nq154
  have pq155 : ∀ τ, Steps pP.tables e below (T154.setTop (mkF m 175 #[.val (.int p0), .val (.int p1), .val (.int p2), .val (.int p3), .val (.int p4), .val (.int p5), .val (.int tl), .val (.int xl), .val (.int ca), .val (.int cb), .val (.int cc), .val (.int cd), .val (.ref a113), .val (.ref a117), .val (.ref b119), .val (.ref a142)] [(.int (1 : Int32))])) τ → Steps pP.tables e below A0 τ := by
    intro τ κ
    refine pq153 τ ?_
    refine XS.ifNo X152.here hx rfl (hb hby at_156) rfl ((if0 _ _).trans (feq (by decide : ¬ ((1 : Int32) = (0 : Int32)))).1) ?_
    refine XS.aload X152.here hx rfl (hb hby at_159) rfl rfl ?_
    refine XS.iconst X152.here hx rfl (hb hby at_161) ?_
    refine XS.iload X152.here hx rfl (hb hby at_162) rfl ?_
    refine XS.iload X152.here hx rfl (hb hby at_164) rfl ?_
    refine XS.iload X152.here hx rfl (hb hby at_166) rfl ?_
    refine XS.iload X152.here hx rfl (hb hby at_168) rfl ?_
    refine XS.iload X152.here hx rfl (hb hby at_170) rfl ?_
    refine st154 _ ?_
    exact κ
  obtain ⟨_, _, ⟨T156, L156, k156, n156⟩, -, X156, ⟨Lc156, hQ156, l156, y156, z156⟩, st156⟩ := Jvm.LawKit.callS X154 hx (y := (⟨"com/example/stateful_search/statefulsearch/session/SearchResultSummaryPinLaw", "ok", "(Ljava/lang/String;IICCCC)Z"⟩ : MethodName)) O142 (mvT Z142 (hw _ (List.mem_of_getElem? (i := 166) rfl))) (mvT Z142 (hw _ (List.mem_of_getElem? (i := 167) rfl))) (mvT Z142 (hw _ (List.mem_of_getElem? (i := 3) rfl))) (mvT Z142 (hw _ (List.mem_of_getElem? (i := 168) rfl))) (by decide) (backOf (W := 0) (rm_ok l Z a0 hw [] a142 t142 kb142 3 tl xl ca cb cc cd ((([] ++ (own_cs tl ca cb)) ++ [(10 : Int32)]) ++ (own_cs xl cc cd)) G1 G3 T142.heap n0 f146 O2 P5 f145 O4 rG3 Ex142 Fc142 Fv142 Vt142 hpr rfl (by decide) d1 d2) Z142 (hw _ (List.mem_of_getElem? (i := 168) rfl)) (hw _ (List.mem_of_getElem? (i := 3) rfl)) (by decide) (by decide)) (g := (mkF m 191 #[.val (.int p0), .val (.int p1), .val (.int p2), .val (.int p3), .val (.int p4), .val (.int p5), .val (.int tl), .val (.int xl), .val (.int ca), .val (.int cb), .val (.int cc), .val (.int cd), .val (.ref a113), .val (.ref a117), .val (.ref b119), .val (.ref a142)] [(.int cd), (.int cc), (.int cb), (.int ca), (.int tl), (.int (3 : Int32)), (.ref a142)])) rfl (by rw [hml]; rfl) (argsL := [(.ref a142), (.int (3 : Int32)), (.int tl), (.int ca), (.int cb), (.int cc), (.int cd)]) (rest := []) (lenOf pdo_22 rfl) rfl (by show 2 * 0 + _ ≤ _; exact Nat.le_of_eq rfl) (hb hby at_191) (fun _ _ => ⟨rfl, eq154, (by decide : 17 + 0 ≤ _), (by decide : 76 + 0 ≤ _)⟩)
  dsimp only [Pt.U, Pt.locs, Pt.cells, Pt.slots] at X156 l156 y156 z156 st156 hQ156
  subst l156 y156 z156
  obtain ⟨rfl, Nq156, eq156⟩ := hQ156
  have N156 := Fr.app N154 Nq156
  have pq157 : ∀ τ, Steps pP.tables e below (T156.setTop (mkF m 194 #[.val (.int p0), .val (.int p1), .val (.int p2), .val (.int p3), .val (.int p4), .val (.int p5), .val (.int tl), .val (.int xl), .val (.int ca), .val (.int cb), .val (.int cc), .val (.int cd), .val (.ref a113), .val (.ref a117), .val (.ref b119), .val (.ref a142)] [(.int (1 : Int32))])) τ → Steps pP.tables e below A0 τ := by
    intro τ κ
    refine pq155 τ ?_
    refine XS.ifNo X154.here hx rfl (hb hby at_175) rfl ((if0 _ _).trans (feq (by decide : ¬ ((1 : Int32) = (0 : Int32)))).1) ?_
    refine XS.aload X154.here hx rfl (hb hby at_178) rfl rfl ?_
    refine XS.iconst X154.here hx rfl (hb hby at_180) ?_
    refine XS.iload X154.here hx rfl (hb hby at_181) rfl ?_
    refine XS.iload X154.here hx rfl (hb hby at_183) rfl ?_
    refine XS.iload X154.here hx rfl (hb hby at_185) rfl ?_
    refine XS.iload X154.here hx rfl (hb hby at_187) rfl ?_
    refine XS.iload X154.here hx rfl (hb hby at_189) rfl ?_
    refine st156 _ ?_
    exact κ
  obtain ⟨_, _, ⟨T158, L158, k158, n158⟩, -, X158, ⟨Lc158, hQ158, l158, y158, z158⟩, st158⟩ := Jvm.LawKit.callS X156 hx (y := (⟨"com/example/stateful_search/statefulsearch/session/SearchResultSummaryPinLaw", "ok", "(Ljava/lang/String;IICCCC)Z"⟩ : MethodName)) O142 (mvT Z142 (hw _ (List.mem_of_getElem? (i := 166) rfl))) (mvT Z142 (hw _ (List.mem_of_getElem? (i := 167) rfl))) (mvT Z142 (hw _ (List.mem_of_getElem? (i := 3) rfl))) (mvT Z142 (hw _ (List.mem_of_getElem? (i := 168) rfl))) (by decide) (backOf (W := 0) (rm_ok l Z a0 hw [] a142 t142 kb142 4 tl xl ca cb cc cd ((([] ++ (own_cs tl ca cb)) ++ [(10 : Int32)]) ++ (own_cs xl cc cd)) G1 G3 T142.heap n0 f146 O2 P5 f145 O4 rG3 Ex142 Fc142 Fv142 Vt142 hpr rfl (by decide) d1 d2) Z142 (hw _ (List.mem_of_getElem? (i := 168) rfl)) (hw _ (List.mem_of_getElem? (i := 3) rfl)) (by decide) (by decide)) (g := (mkF m 210 #[.val (.int p0), .val (.int p1), .val (.int p2), .val (.int p3), .val (.int p4), .val (.int p5), .val (.int tl), .val (.int xl), .val (.int ca), .val (.int cb), .val (.int cc), .val (.int cd), .val (.ref a113), .val (.ref a117), .val (.ref b119), .val (.ref a142)] [(.int cd), (.int cc), (.int cb), (.int ca), (.int tl), (.int (4 : Int32)), (.ref a142)])) rfl (by rw [hml]; rfl) (argsL := [(.ref a142), (.int (4 : Int32)), (.int tl), (.int ca), (.int cb), (.int cc), (.int cd)]) (rest := []) (lenOf pdo_22 rfl) rfl (by show 2 * 0 + _ ≤ _; exact Nat.le_of_eq rfl) (hb hby at_210) (fun _ _ => ⟨rfl, eq156, (by decide : 17 + 0 ≤ _), (by decide : 76 + 0 ≤ _)⟩)
  dsimp only [Pt.U, Pt.locs, Pt.cells, Pt.slots] at X158 l158 y158 z158 st158 hQ158
  subst l158 y158 z158
  obtain ⟨rfl, Nq158, eq158⟩ := hQ158
  have N158 := Fr.app N156 Nq158
  have pq159 : ∀ τ, Steps pP.tables e below (T158.setTop (mkF m 213 #[.val (.int p0), .val (.int p1), .val (.int p2), .val (.int p3), .val (.int p4), .val (.int p5), .val (.int tl), .val (.int xl), .val (.int ca), .val (.int cb), .val (.int cc), .val (.int cd), .val (.ref a113), .val (.ref a117), .val (.ref b119), .val (.ref a142)] [(.int (1 : Int32))])) τ → Steps pP.tables e below A0 τ := by
    intro τ κ
    refine pq157 τ ?_
    refine XS.ifNo X156.here hx rfl (hb hby at_194) rfl ((if0 _ _).trans (feq (by decide : ¬ ((1 : Int32) = (0 : Int32)))).1) ?_
    refine XS.aload X156.here hx rfl (hb hby at_197) rfl rfl ?_
    refine XS.iconst X156.here hx rfl (hb hby at_199) ?_
    refine XS.iload X156.here hx rfl (hb hby at_200) rfl ?_
    refine XS.iload X156.here hx rfl (hb hby at_202) rfl ?_
    refine XS.iload X156.here hx rfl (hb hby at_204) rfl ?_
    refine XS.iload X156.here hx rfl (hb hby at_206) rfl ?_
    refine XS.iload X156.here hx rfl (hb hby at_208) rfl ?_
    refine st158 _ ?_
    exact κ
  have SKe := Nat.le_trans SK142 (Nat.le_of_eq (congrArg (fun z : Heap => Array.size z) (Eq.symm eq158)))
  obtain ⟨fs, hrE, hrun, hended, hEnd⟩ := X158.leaveW SI142 SKe (v := some (.int (1 : Int32))) (fun h => by rw [Bd.returns] at h; cases h)
  have CHe := CHr.trans CR142 (CHv.at X158 Z142 hEW CH142)
  have pqE := pq159
  rw [hA0] at pqE
  refine ⟨_, _, pqE _ ?_, hrun, hended, _, _, rfl, ?_, ?_, hEnd.1, hEnd.2.1, hEnd.2.2.1, hEnd.2.2.2.mono (by decide) (by decide)⟩
  · refine XS.ifNo X158.here hx rfl (hb hby at_213) rfl ((if0 _ _).trans (feq (by decide : ¬ ((1 : Int32) = (0 : Int32)))).1) ?_
    refine XS.iconst X158.here hx rfl (hb hby at_216) ?_
    refine XS.goto X158.here hx rfl (pc0 := 217) (pc' := 221) rfl (hb hby at_217) (by decide) (by decide) ?_
    show Steps pP.tables e below (T158.setTop (mkF m 221 #[.val (.int p0), .val (.int p1), .val (.int p2), .val (.int p3), .val (.int p4), .val (.int p5), .val (.int tl), .val (.int xl), .val (.int ca), .val (.int cb), .val (.int cc), .val (.int cd), .val (.ref a113), .val (.ref a117), .val (.ref b119), .val (.ref a142)] [(.int (1 : Int32))])) _
    exact retN X158 hx (t := .boolean) Bd.returns (by simp) (hb hby at_221) hrE
  · show Q_law n0 _ T158.heap _
    rw [eq158]
    exact ⟨rfl, N158⟩
  · show CHr Z consts_1 s.vm s.heap T158.vm T158.heap
    first | (rw [hh, eq158]; exact CHe) | (rw [hh]; exact CHe)
set_option maxRecDepth 65536 in
set_option maxHeartbeats 3000000 in
theorem comes_1 {Post : Tables → Env → Array Value → State → Outcome → State → Prop} (hpost : ∀ tb e args s v u, (limb_1_1.after args s (.returned v) u = true ∧ limb_1_2.after args s (.returned v) u = true ∧ True) → ReturnedEndW s (.returned v) u (Jvm.fieldLocs frame_1_writes args s ++ Jvm.arrayLocs frame_1_arrays args s ++ Jvm.staticLocs frame_1_statics s) 40 3264 → Post tb e args s (.returned v) u) :
    ArmFor flags0 classFile x code maxLocals ret World_1 tables_1 room_1 Calls_1 rest_1 Pre_1 Post := by
  intro l hfl _ _ p e ha hc hk s m args below hf hA hF happ hP
  obtain ⟨hcalls, hrest, hpre⟩ := hP
  obtain ⟨-, -, -, hnamed, -, -, -, hat⟩ := (Spec.applies_iff hf).mp happ
  obtain ⟨hg, hn⟩ := and_e (Cond.before_iff.mp (show (Jvm.Cond.and given_1 narrow_1).before args s = true from hpre))
  obtain ⟨gc, g0⟩ := and_e hg
  obtain ⟨ga0, g1⟩ := and_e g0
  obtain ⟨ga1, g2⟩ := and_e g1
  obtain ⟨ga2, g3⟩ := and_e g2
  obtain ⟨ga3, g4⟩ := and_e g3
  obtain ⟨ga4, g5⟩ := and_e g4
  obtain ⟨w0, w1, w2, w3, w4, w5, rfl⟩ : ∃ w0 w1 w2 w3 w4 w5 : Value, args = #[w0, w1, w2, w3, w4, w5] := by
    have hs : args.size = 6 := by simpa [Cond.value, given_1] using gc
    obtain ⟨L⟩ := args
    match L, hs with
    | [w0, w1, w2, w3, w4, w5], _ => exact ⟨w0, w1, w2, w3, w4, w5, rfl⟩
  have hw := fun d (hd : d ∈ tables_1) => atoms_spec (ws := Jvm.Cond.code x code maxLocals ret :: tables_1) hat d (List.mem_cons_of_mem _ hd)
  have hfit : Fit s := fun {y c} hc i hi => by
    obtain ⟨ha, rfl⟩ := Array.getElem?_eq_some_iff.mp hc
    have q := List.all_eq_true.mp ((Array.all_eq_true_iff_forall_mem.mp hF) _ (Array.getElem_mem ha)) i (List.mem_range.mpr hi)
    simpa [Array.getElem?_eq_getElem hi] using q
  obtain ⟨hsets, hown0⟩ := atoms_of _ (rest_1_c_eq ▸ (show rest_1_c.before _ s = true from hrest))
  have hr0 := Cond.before_iff.mp hown0
  have nz := not_v (Cond.before_iff.mp (hsets _ (List.mem_of_getElem? (i := 2) rfl)))
  obtain ⟨G1, eG1⟩ := is_v (Cond.before_iff.mp (hsets _ (List.mem_of_getElem? (i := 1) rfl)))
  have O2 : Sta s s.heap "java/lang/String" "COMPACT_STRINGS" "Z" (.int G1) := Sta.start eG1 (Or.inl (hsets _ (List.mem_of_getElem? (i := 0) rfl)))
  have P5 : ¬ (G1 = (0 : Int32)) := gotF (Cond.eq_ints eG1 (Term.int_eval (0))) nz
  obtain ⟨G3, eG3, rG3⟩ := isR_v (Cond.before_iff.mp (hsets _ (List.mem_of_getElem? (i := 8) rfl)))
  have O4 : Sta s s.heap "jdk/internal/util/Preconditions" "SIOOBE_FORMATTER" "Ljava/util/function/BiFunction;" G3 := Sta.start eG3 (Or.inl (hsets _ (List.mem_of_getElem? (i := 7) rfl)))
  obtain ⟨i0, ei0⟩ := is_v ga0
  obtain rfl : w0 = (.int i0) := Option.some.inj ei0
  obtain ⟨i1, ei1⟩ := is_v ga1
  obtain rfl : w1 = (.int i1) := Option.some.inj ei1
  obtain ⟨i2, ei2⟩ := is_v ga2
  obtain rfl : w2 = (.int i2) := Option.some.inj ei2
  obtain ⟨i3, ei3⟩ := is_v ga3
  obtain rfl : w3 = (.int i3) := Option.some.inj ei3
  obtain ⟨i4, ei4⟩ := is_v ga4
  obtain rfl : w4 = (.int i4) := Option.some.inj ei4
  obtain ⟨i5, ei5⟩ := is_v g5
  obtain rfl : w5 = (.int i5) := Option.some.inj ei5
  have hEW : EW s _ consts_1 := (EW.cons (hw _ (List.mem_of_getElem? (i := 119) rfl)) (by decide) (EW.cons (hw _ (List.mem_of_getElem? (i := 30) rfl)) (by decide) (EW.cons (hw _ (List.mem_of_getElem? (i := 19) rfl)) (by decide) EW.nil)))
  have hCH : CHv s consts_1 s.vm s.heap := CHv.start hEW (fun p hp => hcalls.1 p hp) (hsets _ (List.mem_of_getElem? (i := 2) rfl)) (hw _ (List.mem_of_getElem? (i := 20) rfl)) (hw _ (List.mem_of_getElem? (i := 6) rfl))
  obtain ⟨n, o, h1, h2, h3, _, L, rfl, ⟨rfl, N⟩, hC, hq⟩ := rm_law l s _ hw hEW tables_1 i0 i1 i2 i3 i4 i5 G1 G3 s.heap s.heap.size (Nat.le_refl _) O2 P5 (Old.start s) O4 rG3 p e ha hc hk s m _ below hf ((Spec.applies_iff_loose hf).mp happ).1 ⟨rfl, State.Warmed39.refl s, rfl, hCH⟩ trivial
  refine ⟨n, _, h1, h2, h3, hpost _ _ _ _ _ _ ⟨Cond.after_iff.mpr rfl, Cond.after_iff.mpr (eq_i res_at (Term.int_eval (1)) rfl), trivial⟩ ⟨hq.1, hq.2.1, hq.2.2.1, (hq.2.2.2.sift fun y hy => Or.inr (N y hy)).mono (by decide) (by decide)⟩⟩
theorem main_1_1 : Claimed_1_1 := comes_1 fun _ _ _ _ _ _ h hF => ⟨h.1, hF⟩
theorem main_1_2 : Claimed_1_2 := comes_1 fun _ _ _ _ _ _ h hF => ⟨h.2.1, hF⟩
end Jvm.Pilot.@@N@@
namespace Jvm.Pilot.@@N@@
open Jvm Jvm.ClassFile Sem Op Lib Jvm.Free Jvm.Stand Jvm.Pilot.@@N@@.Jvm.D
/-! MADE BY PROGRAM (witnessworld.py) out of the Statement's table words and the real class files: 27 classes; the members and pool entries that the words name. The judged class is class 1, her method 3. -/
namespace start1
open Jvm.ClassFile
def u (s : String) : CpInfo := .utf8 (stringToUtf16 s)
/-- a pool by its gaps: so many unusable entries, then the entry; so many at the end -/
def gap : Nat → List CpInfo → List CpInfo
  | 0, r => r
  | n + 1, r => .unusable :: gap n r
def poolList (es : List (Nat × CpInfo)) (last : Nat) : List CpInfo := es.foldr (fun e r => gap e.1 (e.2 :: r)) (gap last [])
def pool (es : List (Nat × CpInfo)) (last : Nat) : Array CpInfo := ⟨poolList es last⟩
def fileOf (pool : Array CpInfo) (this : Nat) (attrs : Array Attribute := #[]) (ms : Array MethodInfo := #[]) (fl : Nat := 33) (sup : Nat := 0) (ifs : Array Nat := #[]) (fds : Array FieldInfo := #[]) : ClassFile where
  minorVersion := 0
  majorVersion := 65
  constantPool := pool
  accessFlags := fl
  thisClass := this
  superClass := sup
  interfaces := ifs
  fields := fds
  methods := ms
  attributes := attrs
def plain (name : String) (sup : Option ClassId) : Class where
  name := name
  kind := .ordinary
  loader := none
  accessFlags := 33
  super := sup
  interfaces := #[]
  cf := none
  fields := #[]
  methods := #[]
  instanceTypes := #[]
  staticTypes := #[]
  resolved := #[]
  callSites := []
  init := .initialized
  statics := none
  mirror := none

def pool0 : Array CpInfo := pool [(5, u "<init>"), (0, u "()V"), (1, .class_ 10), (1, u "java/lang/Object")] 113

def k0c0 : Code := { maxStack := 0, maxLocals := 1, code := object_method_1_code, exceptionTable := #[], attributes := #[] }
def k0m0 : Method := { name := "<init>", desc := "()V", sig := { parameters := [], returnType := none }, accessFlags := 1, code := some k0c0 }
/-- java/lang/Object -/
def k0 : Class := { plain "java/lang/Object" none with
  accessFlags := 33
  interfaces := #[]
  cf := some (fileOf pool0 8 #[] #[{ accessFlags := 1, nameIndex := 5, descriptorIndex := 6, attributes := #[] }] 33 0 #[] #[])
  fields := #[]
  methods := #[k0m0]
  instanceTypes := #[]
  staticTypes := #[]
  resolved := Array.replicate 124 none
  statics := none }

def pool1 : Array CpInfo := pool [(2, .class_ 4), (1, u "java/lang/Object"), (0, u "<init>"), (0, u "()V"), (0, .class_ 8), (0, u "java/lang/String"), (0, .methodref 7 10), (0, .nameAndType 5 11), (0, u "([C)V"), (0, .methodref 7 13), (0, .nameAndType 14 15), (0, u "length"), (0, u "()I"), (0, .methodref 7 17), (0, .nameAndType 18 19), (0, u "charAt"), (0, u "(I)C"), (0, .integer 2147483647), (0, .methodref 22 23), (0, .class_ 24), (0, .nameAndType 25 26), (0, u "com/example/stateful_search/statefulsearch/session/SearchResultSummaryPinLaw"), (0, u "mk"), (0, u "(ICC)Ljava/lang/String;"), (0, .class_ 28), (0, u "com/example/stateful_search/statefulsearch/session/SearchResult"), (0, .string 30), (0, u "d"), (0, .methodref 27 32), (0, .nameAndType 5 33), (0, u "(ILjava/lang/String;Ljava/lang/String;Ljava/lang/String;)V"), (0, .methodref 27 35), (0, .nameAndType 36 37), (0, u "summary"), (0, u "()Ljava/lang/String;"), (0, .methodref 22 39), (0, .nameAndType 40 41), (0, u "ok"), (0, u "(Ljava/lang/String;IICCCC)Z"), (3, u "law"), (0, u "(IIIIII)Z")] 2

def k1m0 : Method := { name := "<init>", desc := "()V", sig := { parameters := [], returnType := none }, accessFlags := 1, code := none }
def k1c1 : Code := { maxStack := 6, maxLocals := 3, code := method_2_code, exceptionTable := #[], attributes := #[] }
def k1m1 : Method := { name := "mk", desc := "(ICC)Ljava/lang/String;", sig := { parameters := [.int, .char, .char], returnType := some (.object "java/lang/String") }, accessFlags := 10, code := some k1c1 }
def k1c2 : Code := { maxStack := 2, maxLocals := 8, code := method_3_code, exceptionTable := #[], attributes := #[] }
def k1m2 : Method := { name := "ok", desc := "(Ljava/lang/String;IICCCC)Z", sig := { parameters := [(.object "java/lang/String"), .int, .int, .char, .char, .char, .char], returnType := some .boolean }, accessFlags := 10, code := some k1c2 }
def k1c3 : Code := { maxStack := 7, maxLocals := 16, code := code, exceptionTable := #[], attributes := #[] }
def k1m3 : Method := { name := "law", desc := "(IIIIII)Z", sig := { parameters := [.int, .int, .int, .int, .int, .int], returnType := some .boolean }, accessFlags := 9, code := some k1c3 }
/-- com/example/stateful_search/statefulsearch/session/SearchResultSummaryPinLaw -/
def k1 : Class := { plain "com/example/stateful_search/statefulsearch/session/SearchResultSummaryPinLaw" (some 0) with
  accessFlags := 49
  interfaces := #[]
  cf := some (fileOf pool1 22 #[] #[{ accessFlags := 1, nameIndex := 5, descriptorIndex := 6, attributes := #[] }, { accessFlags := 10, nameIndex := 25, descriptorIndex := 26, attributes := #[] }, { accessFlags := 10, nameIndex := 40, descriptorIndex := 41, attributes := #[] }, { accessFlags := 9, nameIndex := 45, descriptorIndex := 46, attributes := #[] }] 49 2 #[] #[])
  fields := #[]
  methods := #[k1m0, k1m1, k1m2, k1m3]
  instanceTypes := #[]
  staticTypes := #[]
  resolved := Array.replicate 49 none
  statics := none }

def pool2 : Array CpInfo := pool [(1, .class_ 2), (0, u "java/io/Serializable"), (0, .class_ 4), (0, u "java/lang/Object")] 2

/-- java/io/Serializable -/
def k2 : Class := { plain "java/io/Serializable" (some 0) with
  accessFlags := 1537
  interfaces := #[]
  cf := some (fileOf pool2 1 #[] #[] 1537 3 #[] #[])
  fields := #[]
  methods := #[]
  instanceTypes := #[]
  staticTypes := #[]
  resolved := Array.replicate 7 none
  statics := none }

def pool3 : Array CpInfo := pool [(1, .class_ 2), (0, u "java/lang/Comparable"), (0, .class_ 4), (0, u "java/lang/Object")] 7

/-- java/lang/Comparable -/
def k3 : Class := { plain "java/lang/Comparable" (some 0) with
  accessFlags := 1537
  interfaces := #[]
  cf := some (fileOf pool3 1 #[] #[] 1537 3 #[] #[])
  fields := #[]
  methods := #[]
  instanceTypes := #[]
  staticTypes := #[]
  resolved := Array.replicate 12 none
  statics := none }

def pool4 : Array CpInfo := pool [(2, .class_ 4), (1, u "java/lang/CharSequence"), (42, .class_ 48), (0, u "java/lang/CharSequence$1CodePointIterator"), (10, .class_ 60), (0, u "java/lang/CharSequence$1CharIterator"), (5, .class_ 67), (0, u "java/lang/Object")] 63

/-- java/lang/CharSequence -/
def k4 : Class := { plain "java/lang/CharSequence" (some 0) with
  accessFlags := 1537
  interfaces := #[]
  cf := some (fileOf pool4 2 #[.nestMembers #[47, 59]] #[] 1537 66 #[] #[])
  fields := #[]
  methods := #[]
  instanceTypes := #[]
  staticTypes := #[]
  resolved := Array.replicate 131 none
  statics := none }

def pool5 : Array CpInfo := pool [(1, .class_ 2), (0, u "java/lang/constant/Constable"), (0, .class_ 4), (0, u "java/lang/Object")] 6

/-- java/lang/constant/Constable -/
def k5 : Class := { plain "java/lang/constant/Constable" (some 0) with
  accessFlags := 1537
  interfaces := #[]
  cf := some (fileOf pool5 1 #[] #[] 1537 3 #[] #[])
  fields := #[]
  methods := #[]
  instanceTypes := #[]
  staticTypes := #[]
  resolved := Array.replicate 11 none
  statics := none }

def pool6 : Array CpInfo := pool [(1, .class_ 2), (0, u "java/lang/constant/ConstantDesc"), (0, .class_ 4), (0, u "java/lang/Object")] 32

/-- java/lang/constant/ConstantDesc -/
def k6 : Class := { plain "java/lang/constant/ConstantDesc" (some 0) with
  accessFlags := 1537
  interfaces := #[]
  cf := some (fileOf pool6 1 #[] #[] 1537 3 #[] #[])
  fields := #[]
  methods := #[]
  instanceTypes := #[]
  staticTypes := #[]
  resolved := Array.replicate 37 none
  statics := none }

def pool7 : Array CpInfo := pool [(1, .methodref 2 3), (0, .class_ 4), (0, .nameAndType 5 6), (0, u "java/lang/Object"), (0, u "<init>"), (0, u "()V"), (0, .string 8), (0, u ""), (0, .fieldref 10 11), (0, .class_ 12), (0, .nameAndType 13 14), (0, u "java/lang/String"), (0, u "value"), (0, u "[B"), (0, .fieldref 10 16), (0, .nameAndType 17 18), (0, u "coder"), (0, u "B"), (2, u "hash"), (0, u "I"), (2, u "hashIsZero"), (0, u "Z"), (0, .methodref 10 28), (0, .nameAndType 5 29), (0, u "([CIILjava/lang/Void;)V"), (8, .fieldref 10 39), (0, .nameAndType 40 26), (0, u "COMPACT_STRINGS"), (1, .class_ 44), (1, u "java/lang/StringUTF16"), (0, u "compress"), (1, .methodref 42 48), (0, .nameAndType 49 50), (0, u "coderFromArrayLen"), (0, u "([BI)B"), (3, .methodref 55 56), (0, .class_ 57), (0, .nameAndType 58 59), (0, u "java/util/Arrays"), (0, u "copyOfRange"), (0, u "([BII)[B"), (47, .class_ 109), (1, u "java/lang/StringLatin1"), (32, u "()Z"), (34, .methodref 42 178), (0, .nameAndType 45 179), (0, u "([CII)[B"), (13, .class_ 195), (1, u "java/lang/System"), (16, .methodref 193 213), (0, .nameAndType 214 215), (0, u "arraycopy"), (0, u "(Ljava/lang/Object;ILjava/lang/Object;II)V"), (118, u "()I"), (0, .methodref 10 336), (0, .nameAndType 17 337), (0, u "()B"), (2, u "()[B"), (22, u "([BI)C"), (27, u "(II)V"), (35, u "(I)C"), (61, .methodref 10 490), (0, .nameAndType 5 491), (0, u "(Ljava/lang/AbstractStringBuilder;Ljava/lang/Void;)V"), (0, .methodref 10 493), (0, .nameAndType 494 142), (0, u "isLatin1"), (0, .methodref 107 496), (0, .nameAndType 497 363), (0, u "charAt"), (3, u "checkIndex"), (4, .nameAndType 507 334), (0, u "length"), (24, u "getBytes"), (16, .methodref 550 506), (0, .class_ 551), (0, u "java/lang/AbstractStringBuilder"), (0, .methodref 550 553), (0, .nameAndType 554 340), (0, u "getValue"), (20, .class_ 576), (0, u "java/lang/CharSequence"), (22, u "CASE_INSENSITIVE_ORDER"), (0, u "Ljava/util/Comparator;"), (220, u "([BIB)V"), (188, u "([C)V"), (36, .methodref 550 493), (5, .fieldref 1054 1055), (0, .class_ 1056), (0, .nameAndType 1057 1058), (0, u "jdk/internal/util/Preconditions"), (0, u "SIOOBE_FORMATTER"), (0, u "Ljava/util/function/BiFunction;"), (0, .methodref 1054 1060), (0, .nameAndType 501 1061), (0, u "(IILjava/util/function/BiFunction;)I"), (39, u "serialPersistentFields"), (0, u "[Ljava/io/ObjectStreamField;"), (0, .class_ 1104), (0, u "java/lang/String$CaseInsensitiveComparator"), (1, .class_ 1107), (0, u "java/io/Serializable"), (0, .class_ 1109), (0, u "java/lang/Comparable"), (0, .class_ 1111), (0, u "java/lang/constant/Constable"), (0, .class_ 1113), (0, u "java/lang/constant/ConstantDesc"), (2, u "serialVersionUID"), (0, u "J"), (3, u "REPL"), (0, u "C"), (2, u "LATIN1"), (1, u "UTF16"), (105, u "(Ljava/lang/StringBuilder;)V")] 217

def k7m0 : Method := { name := "<init>", desc := "()V", sig := { parameters := [], returnType := none }, accessFlags := 1, code := none }
def k7c1 : Code := { maxStack := 5, maxLocals := 2, code := jdk_42_method_3_code, exceptionTable := #[], attributes := #[] }
def k7m1 : Method := { name := "<init>", desc := "([C)V", sig := { parameters := [(.array .char)], returnType := none }, accessFlags := 1, code := some k7c1 }
def k7c2 : Code := { maxStack := 3, maxLocals := 2, code := jdk_42_method_53_code, exceptionTable := #[], attributes := #[] }
def k7m2 : Method := { name := "<init>", desc := "(Ljava/lang/StringBuilder;)V", sig := { parameters := [(.object "java/lang/StringBuilder")], returnType := none }, accessFlags := 1, code := some k7c2 }
def k7c3 : Code := { maxStack := 2, maxLocals := 1, code := jdk_42_method_54_code, exceptionTable := #[], attributes := #[] }
def k7m3 : Method := { name := "length", desc := "()I", sig := { parameters := [], returnType := some .int }, accessFlags := 1, code := some k7c3 }
def k7c4 : Code := { maxStack := 2, maxLocals := 2, code := jdk_42_method_56_code, exceptionTable := #[], attributes := #[] }
def k7m4 : Method := { name := "charAt", desc := "(I)C", sig := { parameters := [.int], returnType := some .char }, accessFlags := 1, code := some k7c4 }
def k7c5 : Code := { maxStack := 5, maxLocals := 4, code := jdk_42_method_147_code, exceptionTable := #[], attributes := #[] }
def k7m5 : Method := { name := "getBytes", desc := "([BIB)V", sig := { parameters := [(.array .byte), .int, .byte], returnType := none }, accessFlags := 0, code := some k7c5 }
def k7c6 : Code := { maxStack := 4, maxLocals := 6, code := jdk_42_method_149_code, exceptionTable := #[], attributes := #[] }
def k7m6 : Method := { name := "<init>", desc := "([CIILjava/lang/Void;)V", sig := { parameters := [(.array .char), .int, .int, (.object "java/lang/Void")], returnType := none }, accessFlags := 2, code := some k7c6 }
def k7c7 : Code := { maxStack := 5, maxLocals := 5, code := jdk_42_method_150_code, exceptionTable := #[], attributes := #[] }
def k7m7 : Method := { name := "<init>", desc := "(Ljava/lang/AbstractStringBuilder;Ljava/lang/Void;)V", sig := { parameters := [(.object "java/lang/AbstractStringBuilder"), (.object "java/lang/Void")], returnType := none }, accessFlags := 0, code := some k7c7 }
def k7c8 : Code := { maxStack := 1, maxLocals := 1, code := jdk_42_method_152_code, exceptionTable := #[], attributes := #[] }
def k7m8 : Method := { name := "coder", desc := "()B", sig := { parameters := [], returnType := some .byte }, accessFlags := 0, code := some k7c8 }
def k7c9 : Code := { maxStack := 1, maxLocals := 1, code := jdk_42_method_154_code, exceptionTable := #[], attributes := #[] }
def k7m9 : Method := { name := "isLatin1", desc := "()Z", sig := { parameters := [], returnType := some .boolean }, accessFlags := 0, code := some k7c9 }
def k7c10 : Code := { maxStack := 3, maxLocals := 2, code := jdk_42_method_155_code, exceptionTable := #[], attributes := #[] }
def k7m10 : Method := { name := "checkIndex", desc := "(II)V", sig := { parameters := [.int, .int], returnType := none }, accessFlags := 8, code := some k7c10 }
/-- java/lang/String -/
def k7 : Class := { plain "java/lang/String" (some 0) with
  accessFlags := 49
  interfaces := #[2, 3, 4, 5, 6]
  cf := some (fileOf pool7 10 #[.nestMembers #[1103]] #[{ accessFlags := 1, nameIndex := 5, descriptorIndex := 6, attributes := #[] }, { accessFlags := 1, nameIndex := 5, descriptorIndex := 1010, attributes := #[] }, { accessFlags := 1, nameIndex := 5, descriptorIndex := 1233, attributes := #[] }, { accessFlags := 1, nameIndex := 507, descriptorIndex := 334, attributes := #[] }, { accessFlags := 1, nameIndex := 497, descriptorIndex := 427, attributes := #[] }, { accessFlags := 0, nameIndex := 532, descriptorIndex := 821, attributes := #[] }, { accessFlags := 2, nameIndex := 5, descriptorIndex := 29, attributes := #[] }, { accessFlags := 0, nameIndex := 5, descriptorIndex := 491, attributes := #[] }, { accessFlags := 0, nameIndex := 17, descriptorIndex := 337, attributes := #[] }, { accessFlags := 0, nameIndex := 494, descriptorIndex := 142, attributes := #[] }, { accessFlags := 8, nameIndex := 501, descriptorIndex := 391, attributes := #[] }] 49 2 #[1106, 1108, 575, 1110, 1112] #[{ accessFlags := 18, nameIndex := 13, descriptorIndex := 14, attributes := #[] }, { accessFlags := 18, nameIndex := 17, descriptorIndex := 18, attributes := #[] }, { accessFlags := 2, nameIndex := 21, descriptorIndex := 22, attributes := #[] }, { accessFlags := 2, nameIndex := 25, descriptorIndex := 26, attributes := #[] }, { accessFlags := 26, nameIndex := 1116, descriptorIndex := 1117, attributes := #[] }, { accessFlags := 24, nameIndex := 40, descriptorIndex := 26, attributes := #[] }, { accessFlags := 26, nameIndex := 1101, descriptorIndex := 1102, attributes := #[] }, { accessFlags := 26, nameIndex := 1121, descriptorIndex := 1122, attributes := #[] }, { accessFlags := 25, nameIndex := 599, descriptorIndex := 600, attributes := #[] }, { accessFlags := 24, nameIndex := 1125, descriptorIndex := 18, attributes := #[] }, { accessFlags := 24, nameIndex := 1127, descriptorIndex := 18, attributes := #[] }])
  fields := #[{ name := "value", type := (.array .byte), accessFlags := 18, slot := 0, constantValue := 0 }, { name := "coder", type := .byte, accessFlags := 18, slot := 1, constantValue := 0 }, { name := "hash", type := .int, accessFlags := 2, slot := 2, constantValue := 0 }, { name := "hashIsZero", type := .boolean, accessFlags := 2, slot := 3, constantValue := 0 }, { name := "serialVersionUID", type := .long, accessFlags := 26, slot := 0, constantValue := 0 }, { name := "COMPACT_STRINGS", type := .boolean, accessFlags := 24, slot := 1, constantValue := 0 }, { name := "serialPersistentFields", type := (.array (.object "java/io/ObjectStreamField")), accessFlags := 26, slot := 2, constantValue := 0 }, { name := "REPL", type := .char, accessFlags := 26, slot := 3, constantValue := 0 }, { name := "CASE_INSENSITIVE_ORDER", type := (.object "java/util/Comparator"), accessFlags := 25, slot := 4, constantValue := 0 }, { name := "LATIN1", type := .byte, accessFlags := 24, slot := 5, constantValue := 0 }, { name := "UTF16", type := .byte, accessFlags := 24, slot := 6, constantValue := 0 }]
  methods := #[k7m0, k7m1, k7m2, k7m3, k7m4, k7m5, k7m6, k7m7, k7m8, k7m9, k7m10]
  instanceTypes := #[(.array .byte), .byte, .int, .boolean]
  staticTypes := #[.long, .boolean, (.array (.object "java/io/ObjectStreamField")), .char, (.object "java/util/Comparator"), .byte, .byte]
  resolved := Array.replicate 1451 none
  statics := some 0 }

def pool8 : Array CpInfo := pool [(1, .methodref 2 3), (0, .class_ 4), (0, .nameAndType 5 6), (0, u "java/lang/Object"), (0, u "<init>"), (0, u "()V"), (0, .class_ 8), (0, u "java/lang/Record")] 13

def k8c0 : Code := { maxStack := 1, maxLocals := 1, code := jdk_30_method_1_code, exceptionTable := #[], attributes := #[] }
def k8m0 : Method := { name := "<init>", desc := "()V", sig := { parameters := [], returnType := none }, accessFlags := 4, code := some k8c0 }
/-- java/lang/Record -/
def k8 : Class := { plain "java/lang/Record" (some 0) with
  accessFlags := 1057
  interfaces := #[]
  cf := some (fileOf pool8 7 #[] #[{ accessFlags := 4, nameIndex := 5, descriptorIndex := 6, attributes := #[] }] 1057 2 #[] #[])
  fields := #[]
  methods := #[k8m0]
  instanceTypes := #[]
  staticTypes := #[]
  resolved := Array.replicate 22 none
  statics := none }

def pool9 : Array CpInfo := pool [(1, .methodref 2 3), (0, .class_ 4), (0, .nameAndType 5 6), (0, u "java/lang/Record"), (0, u "<init>"), (0, u "()V"), (0, .fieldref 8 9), (0, .class_ 10), (0, .nameAndType 11 12), (0, u "com/example/stateful_search/statefulsearch/session/SearchResult"), (0, u "rank"), (0, u "I"), (0, .fieldref 8 14), (0, .nameAndType 15 16), (0, u "docno"), (0, u "Ljava/lang/String;"), (0, .fieldref 8 18), (0, .nameAndType 19 16), (0, u "title"), (0, .fieldref 8 21), (0, .nameAndType 22 16), (0, u "snippet"), (0, .class_ 24), (0, u "java/lang/StringBuilder"), (0, .methodref 23 3), (0, .methodref 23 27), (0, .nameAndType 28 29), (0, u "append"), (0, u "(Ljava/lang/String;)Ljava/lang/StringBuilder;"), (0, .string 31), (0, u "\n"), (0, .methodref 23 33), (0, .nameAndType 34 35), (0, u "toString"), (0, u "()Ljava/lang/String;"), (43, u "(ILjava/lang/String;Ljava/lang/String;Ljava/lang/String;)V"), (3, u "summary")] 50

def k9c0 : Code := { maxStack := 2, maxLocals := 5, code := prog_31_method_1_code, exceptionTable := #[], attributes := #[] }
def k9m0 : Method := { name := "<init>", desc := "(ILjava/lang/String;Ljava/lang/String;Ljava/lang/String;)V", sig := { parameters := [.int, (.object "java/lang/String"), (.object "java/lang/String"), (.object "java/lang/String")], returnType := none }, accessFlags := 1, code := some k9c0 }
def k9c1 : Code := { maxStack := 2, maxLocals := 1, code := prog_31_method_2_code, exceptionTable := #[], attributes := #[] }
def k9m1 : Method := { name := "summary", desc := "()Ljava/lang/String;", sig := { parameters := [], returnType := some (.object "java/lang/String") }, accessFlags := 1, code := some k9c1 }
/-- com/example/stateful_search/statefulsearch/session/SearchResult -/
def k9 : Class := { plain "com/example/stateful_search/statefulsearch/session/SearchResult" (some 8) with
  accessFlags := 49
  interfaces := #[]
  cf := some (fileOf pool9 8 #[] #[{ accessFlags := 1, nameIndex := 5, descriptorIndex := 79, attributes := #[] }, { accessFlags := 1, nameIndex := 83, descriptorIndex := 35, attributes := #[] }] 49 2 #[] #[{ accessFlags := 18, nameIndex := 11, descriptorIndex := 12, attributes := #[] }, { accessFlags := 18, nameIndex := 15, descriptorIndex := 16, attributes := #[] }, { accessFlags := 18, nameIndex := 19, descriptorIndex := 16, attributes := #[] }, { accessFlags := 18, nameIndex := 22, descriptorIndex := 16, attributes := #[] }])
  fields := #[{ name := "rank", type := .int, accessFlags := 18, slot := 0, constantValue := 0 }, { name := "docno", type := (.object "java/lang/String"), accessFlags := 18, slot := 1, constantValue := 0 }, { name := "title", type := (.object "java/lang/String"), accessFlags := 18, slot := 2, constantValue := 0 }, { name := "snippet", type := (.object "java/lang/String"), accessFlags := 18, slot := 3, constantValue := 0 }]
  methods := #[k9m0, k9m1]
  instanceTypes := #[.int, (.object "java/lang/String"), (.object "java/lang/String"), (.object "java/lang/String")]
  staticTypes := #[]
  resolved := Array.replicate 134 none
  statics := none }

def pool10 : Array CpInfo := pool [(1, .class_ 2), (0, u "java/lang/Appendable"), (0, .class_ 4), (0, u "java/lang/Object")] 9

/-- java/lang/Appendable -/
def k10 : Class := { plain "java/lang/Appendable" (some 0) with
  accessFlags := 1537
  interfaces := #[]
  cf := some (fileOf pool10 1 #[] #[] 1537 3 #[] #[])
  fields := #[]
  methods := #[]
  instanceTypes := #[]
  staticTypes := #[]
  resolved := Array.replicate 14 none
  statics := none }

def pool11 : Array CpInfo := pool [(1, .class_ 2), (0, u "java/lang/String"), (0, .methodref 4 5), (0, .class_ 6), (0, .nameAndType 7 8), (0, u "java/lang/Object"), (0, u "<init>"), (0, u "()V"), (1, .class_ 12), (1, u "java/lang/AbstractStringBuilder"), (0, u "EMPTYVALUE"), (0, u "[B"), (0, .fieldref 10 16), (0, .nameAndType 17 14), (0, u "value"), (0, .fieldref 1 19), (0, .nameAndType 20 21), (0, u "COMPACT_STRINGS"), (0, u "Z"), (0, .fieldref 10 23), (0, .nameAndType 24 25), (0, u "coder"), (0, u "B"), (6, .methodref 1 33), (0, .nameAndType 34 35), (0, u "length"), (0, u "()I"), (4, .methodref 1 41), (0, .nameAndType 24 42), (0, u "()B"), (2, u "append"), (0, u "(Ljava/lang/String;)Ljava/lang/AbstractStringBuilder;"), (1, .class_ 49), (0, u "java/lang/CharSequence"), (19, u "(Ljava/lang/String;)V"), (5, u "maybeLatin1"), (3, .fieldref 10 80), (0, .nameAndType 81 82), (0, u "count"), (0, u "I"), (2, u "isLatin1"), (0, u "()Z"), (13, .methodref 10 101), (0, .nameAndType 102 103), (0, u "ensureCapacityInternal"), (0, u "(I)V"), (104, .methodref 10 209), (0, .nameAndType 210 211), (0, u "putStringAt"), (0, u "(ILjava/lang/String;)V"), (5, u "inflateIfNeededFor"), (2, .nameAndType 221 222), (0, u "getBytes"), (0, u "([BIB)V"), (174, .methodref 10 398), (0, .nameAndType 217 69), (0, .methodref 1 220), (3, u "()[B"), (40, .class_ 445), (0, u "java/lang/Appendable"), (106, u "getValue")] 56

def k11m0 : Method := { name := "<init>", desc := "()V", sig := { parameters := [], returnType := none }, accessFlags := 0, code := none }
def k11c1 : Code := { maxStack := 2, maxLocals := 2, code := jdk_68_method_2_code, exceptionTable := #[], attributes := #[] }
def k11m1 : Method := { name := "<init>", desc := "(I)V", sig := { parameters := [.int], returnType := none }, accessFlags := 0, code := some k11c1 }
def k11c2 : Code := { maxStack := 1, maxLocals := 1, code := jdk_68_method_6_code, exceptionTable := #[], attributes := #[] }
def k11m2 : Method := { name := "length", desc := "()I", sig := { parameters := [], returnType := some .int }, accessFlags := 1, code := some k11c2 }
def k11c3 : Code := { maxStack := 4, maxLocals := 3, code := jdk_68_method_9_code, exceptionTable := #[], attributes := #[] }
def k11m3 : Method := { name := "ensureCapacityInternal", desc := "(I)V", sig := { parameters := [.int], returnType := none }, accessFlags := 2, code := some k11c3 }
def k11c4 : Code := { maxStack := 3, maxLocals := 3, code := jdk_68_method_22_code, exceptionTable := #[], attributes := #[] }
def k11m4 : Method := { name := "append", desc := "(Ljava/lang/String;)Ljava/lang/AbstractStringBuilder;", sig := { parameters := [(.object "java/lang/String")], returnType := some (.object "java/lang/AbstractStringBuilder") }, accessFlags := 1, code := some k11c4 }
def k11c5 : Code := { maxStack := 1, maxLocals := 1, code := jdk_68_method_64_code, exceptionTable := #[], attributes := #[] }
def k11m5 : Method := { name := "getValue", desc := "()[B", sig := { parameters := [], returnType := some (.array .byte) }, accessFlags := 16, code := some k11c5 }
def k11c6 : Code := { maxStack := 1, maxLocals := 1, code := jdk_68_method_68_code, exceptionTable := #[], attributes := #[] }
def k11m6 : Method := { name := "isLatin1", desc := "()Z", sig := { parameters := [], returnType := some .boolean }, accessFlags := 16, code := some k11c6 }
def k11c7 : Code := { maxStack := 2, maxLocals := 2, code := jdk_68_method_71_code, exceptionTable := #[], attributes := #[] }
def k11m7 : Method := { name := "inflateIfNeededFor", desc := "(Ljava/lang/String;)V", sig := { parameters := [(.object "java/lang/String")], returnType := none }, accessFlags := 2, code := some k11c7 }
def k11c8 : Code := { maxStack := 4, maxLocals := 3, code := jdk_68_method_73_code, exceptionTable := #[], attributes := #[] }
def k11m8 : Method := { name := "putStringAt", desc := "(ILjava/lang/String;)V", sig := { parameters := [.int, (.object "java/lang/String")], returnType := none }, accessFlags := 2, code := some k11c8 }
/-- java/lang/AbstractStringBuilder -/
def k11 : Class := { plain "java/lang/AbstractStringBuilder" (some 0) with
  accessFlags := 1056
  interfaces := #[10, 4]
  cf := some (fileOf pool11 10 #[] #[{ accessFlags := 0, nameIndex := 7, descriptorIndex := 8, attributes := #[] }, { accessFlags := 0, nameIndex := 7, descriptorIndex := 103, attributes := #[] }, { accessFlags := 1, nameIndex := 34, descriptorIndex := 35, attributes := #[] }, { accessFlags := 2, nameIndex := 102, descriptorIndex := 103, attributes := #[] }, { accessFlags := 1, nameIndex := 45, descriptorIndex := 46, attributes := #[] }, { accessFlags := 16, nameIndex := 552, descriptorIndex := 403, attributes := #[] }, { accessFlags := 16, nameIndex := 85, descriptorIndex := 86, attributes := #[] }, { accessFlags := 2, nameIndex := 217, descriptorIndex := 69, attributes := #[] }, { accessFlags := 2, nameIndex := 210, descriptorIndex := 211, attributes := #[] }] 1056 4 #[444, 48] #[{ accessFlags := 0, nameIndex := 17, descriptorIndex := 14, attributes := #[] }, { accessFlags := 0, nameIndex := 24, descriptorIndex := 25, attributes := #[] }, { accessFlags := 0, nameIndex := 75, descriptorIndex := 21, attributes := #[] }, { accessFlags := 0, nameIndex := 81, descriptorIndex := 82, attributes := #[] }, { accessFlags := 26, nameIndex := 13, descriptorIndex := 14, attributes := #[] }])
  fields := #[{ name := "value", type := (.array .byte), accessFlags := 0, slot := 0, constantValue := 0 }, { name := "coder", type := .byte, accessFlags := 0, slot := 1, constantValue := 0 }, { name := "maybeLatin1", type := .boolean, accessFlags := 0, slot := 2, constantValue := 0 }, { name := "count", type := .int, accessFlags := 0, slot := 3, constantValue := 0 }, { name := "EMPTYVALUE", type := (.array .byte), accessFlags := 26, slot := 0, constantValue := 0 }]
  methods := #[k11m0, k11m1, k11m2, k11m3, k11m4, k11m5, k11m6, k11m7, k11m8]
  instanceTypes := #[(.array .byte), .byte, .boolean, .int]
  staticTypes := #[(.array .byte)]
  resolved := Array.replicate 609 none
  statics := none }

def pool12 : Array CpInfo := pool [(1, .methodref 2 3), (0, .class_ 4), (0, .nameAndType 5 6), (0, u "java/lang/AbstractStringBuilder"), (0, u "<init>"), (0, u "(I)V"), (11, .class_ 20), (1, u "java/lang/String"), (3, .class_ 26), (1, u "java/lang/StringBuilder"), (0, u "append"), (0, u "(Ljava/lang/String;)Ljava/lang/StringBuilder;"), (0, .methodref 2 30), (0, .nameAndType 27 31), (0, u "(Ljava/lang/String;)Ljava/lang/AbstractStringBuilder;"), (105, .methodref 18 138), (0, .nameAndType 5 139), (0, u "(Ljava/lang/StringBuilder;)V"), (5, u "()V"), (10, u "()I"), (186, .methodref 2 344), (0, .nameAndType 345 156), (0, u "length"), (3, .class_ 350), (0, u "java/lang/Appendable"), (0, .class_ 352), (0, u "java/io/Serializable"), (0, .class_ 354), (0, u "java/lang/Comparable"), (0, .class_ 356), (0, u "java/lang/CharSequence"), (0, u "serialVersionUID"), (0, u "J"), (40, u "toString"), (0, u "()Ljava/lang/String;")] 21

def k12c0 : Code := { maxStack := 2, maxLocals := 1, code := jdk_67_method_1_code, exceptionTable := #[], attributes := #[] }
def k12m0 : Method := { name := "<init>", desc := "()V", sig := { parameters := [], returnType := none }, accessFlags := 1, code := some k12c0 }
def k12c1 : Code := { maxStack := 2, maxLocals := 2, code := jdk_67_method_7_code, exceptionTable := #[], attributes := #[] }
def k12m1 : Method := { name := "append", desc := "(Ljava/lang/String;)Ljava/lang/StringBuilder;", sig := { parameters := [(.object "java/lang/String")], returnType := some (.object "java/lang/StringBuilder") }, accessFlags := 1, code := some k12c1 }
def k12c2 : Code := { maxStack := 3, maxLocals := 1, code := jdk_67_method_42_code, exceptionTable := #[], attributes := #[] }
def k12m2 : Method := { name := "toString", desc := "()Ljava/lang/String;", sig := { parameters := [], returnType := some (.object "java/lang/String") }, accessFlags := 1, code := some k12c2 }
def k12c3 : Code := { maxStack := 1, maxLocals := 1, code := jdk_67_method_93_code, exceptionTable := #[], attributes := #[] }
def k12m3 : Method := { name := "length", desc := "()I", sig := { parameters := [], returnType := some .int }, accessFlags := 4161, code := some k12c3 }
/-- java/lang/StringBuilder -/
def k12 : Class := { plain "java/lang/StringBuilder" (some 11) with
  accessFlags := 49
  interfaces := #[10, 2, 3, 4]
  cf := some (fileOf pool12 24 #[] #[{ accessFlags := 1, nameIndex := 5, descriptorIndex := 145, attributes := #[] }, { accessFlags := 1, nameIndex := 27, descriptorIndex := 28, attributes := #[] }, { accessFlags := 1, nameIndex := 399, descriptorIndex := 400, attributes := #[] }, { accessFlags := 4161, nameIndex := 345, descriptorIndex := 156, attributes := #[] }] 49 2 #[349, 351, 353, 355] #[{ accessFlags := 24, nameIndex := 357, descriptorIndex := 358, attributes := #[] }])
  fields := #[{ name := "serialVersionUID", type := .long, accessFlags := 24, slot := 0, constantValue := 0 }]
  methods := #[k12m0, k12m1, k12m2, k12m3]
  instanceTypes := #[(.array .byte), .byte, .boolean, .int]
  staticTypes := #[.long]
  resolved := Array.replicate 422 none
  statics := none }

def pool13 : Array CpInfo := pool [(2, .class_ 4), (1, u "java/lang/Object"), (0, u "<init>"), (0, u "()V"), (1, .class_ 10), (1, u "java/lang/System"), (0, u "allowSecurityManager"), (0, u "I"), (16, u "cons"), (0, u "Ljava/io/Console;"), (77, .class_ 110), (1, u "java/lang/System$CallersHolder"), (43, u "initialErrStream"), (0, u "Ljava/io/PrintStream;"), (19, u "security"), (0, u "Ljava/lang/SecurityManager;"), (31, .class_ 209), (0, u "java/lang/System$1"), (7, u "props"), (0, u "Ljava/util/Properties;"), (2, u "lineSeparator"), (0, u "Ljava/lang/String;"), (96, .class_ 321), (1, u "java/lang/System$LoggerFinder"), (5, .class_ 328), (0, u "java/lang/System$Logger"), (67, u "err"), (2, u "out"), (91, u "notSupportedJnuEncoding"), (15, u "in"), (17, u "initialIn"), (0, u "Ljava/io/InputStream;"), (35, u "bootLayer"), (0, u "Ljava/lang/ModuleLayer;"), (99, .class_ 664), (0, u "java/lang/System$2"), (9, u "NEVER"), (2, u "MAYBE"), (49, u "arraycopy"), (0, u "(Ljava/lang/Object;ILjava/lang/Object;II)V"), (72, .class_ 802), (0, u "java/lang/System$Logger$Level")] 31

def k13m0 : Method := { name := "<init>", desc := "()V", sig := { parameters := [], returnType := none }, accessFlags := 2, code := none }
def k13m1 : Method := { name := "arraycopy", desc := "(Ljava/lang/Object;ILjava/lang/Object;II)V", sig := { parameters := [(.object "java/lang/Object"), .int, (.object "java/lang/Object"), .int, .int], returnType := none }, accessFlags := 265, code := none }
/-- java/lang/System -/
def k13 : Class := { plain "java/lang/System" (some 0) with
  accessFlags := 49
  interfaces := #[]
  cf := some (fileOf pool13 8 #[.nestMembers #[319, 327, 801, 108, 663, 208]] #[{ accessFlags := 2, nameIndex := 5, descriptorIndex := 6, attributes := #[] }, { accessFlags := 265, nameIndex := 727, descriptorIndex := 728, attributes := #[] }] 49 2 #[] #[{ accessFlags := 25, nameIndex := 507, descriptorIndex := 526, attributes := #[] }, { accessFlags := 25, nameIndex := 399, descriptorIndex := 155, attributes := #[] }, { accessFlags := 25, nameIndex := 396, descriptorIndex := 155, attributes := #[] }, { accessFlags := 10, nameIndex := 525, descriptorIndex := 526, attributes := #[] }, { accessFlags := 26, nameIndex := 674, descriptorIndex := 12, attributes := #[] }, { accessFlags := 26, nameIndex := 677, descriptorIndex := 12, attributes := #[] }, { accessFlags := 10, nameIndex := 11, descriptorIndex := 12, attributes := #[] }, { accessFlags := 74, nameIndex := 175, descriptorIndex := 176, attributes := #[] }, { accessFlags := 10, nameIndex := 491, descriptorIndex := 222, attributes := #[] }, { accessFlags := 74, nameIndex := 29, descriptorIndex := 30, attributes := #[] }, { accessFlags := 74, nameIndex := 154, descriptorIndex := 155, attributes := #[] }, { accessFlags := 10, nameIndex := 217, descriptorIndex := 218, attributes := #[] }, { accessFlags := 10, nameIndex := 221, descriptorIndex := 222, attributes := #[] }, { accessFlags := 8, nameIndex := 562, descriptorIndex := 563, attributes := #[] }])
  fields := #[{ name := "in", type := (.object "java/io/InputStream"), accessFlags := 25, slot := 0, constantValue := 0 }, { name := "out", type := (.object "java/io/PrintStream"), accessFlags := 25, slot := 1, constantValue := 0 }, { name := "err", type := (.object "java/io/PrintStream"), accessFlags := 25, slot := 2, constantValue := 0 }, { name := "initialIn", type := (.object "java/io/InputStream"), accessFlags := 10, slot := 3, constantValue := 0 }, { name := "NEVER", type := .int, accessFlags := 26, slot := 4, constantValue := 0 }, { name := "MAYBE", type := .int, accessFlags := 26, slot := 5, constantValue := 0 }, { name := "allowSecurityManager", type := .int, accessFlags := 10, slot := 6, constantValue := 0 }, { name := "security", type := (.object "java/lang/SecurityManager"), accessFlags := 74, slot := 7, constantValue := 0 }, { name := "notSupportedJnuEncoding", type := (.object "java/lang/String"), accessFlags := 10, slot := 8, constantValue := 0 }, { name := "cons", type := (.object "java/io/Console"), accessFlags := 74, slot := 9, constantValue := 0 }, { name := "initialErrStream", type := (.object "java/io/PrintStream"), accessFlags := 74, slot := 10, constantValue := 0 }, { name := "props", type := (.object "java/util/Properties"), accessFlags := 10, slot := 11, constantValue := 0 }, { name := "lineSeparator", type := (.object "java/lang/String"), accessFlags := 10, slot := 12, constantValue := 0 }, { name := "bootLayer", type := (.object "java/lang/ModuleLayer"), accessFlags := 8, slot := 13, constantValue := 0 }]
  methods := #[k13m0, k13m1]
  instanceTypes := #[]
  staticTypes := #[(.object "java/io/InputStream"), (.object "java/io/PrintStream"), (.object "java/io/PrintStream"), (.object "java/io/InputStream"), .int, .int, .int, (.object "java/lang/SecurityManager"), (.object "java/lang/String"), (.object "java/io/Console"), (.object "java/io/PrintStream"), (.object "java/util/Properties"), (.object "java/lang/String"), (.object "java/lang/ModuleLayer")]
  resolved := Array.replicate 834 none
  statics := none }

def pool14 : Array CpInfo := pool [(2, .class_ 4), (1, u "java/lang/Object"), (0, u "<init>"), (0, u "()V"), (7, .class_ 16), (1, u "java/util/Arrays"), (57, .class_ 76), (1, u "java/util/Arrays$NaturalOrder"), (36, .class_ 115), (1, u "java/util/Arrays$LegacyMergeSort"), (1, u "Z"), (21, u "copyOfRange"), (10, .methodref 151 152), (0, .class_ 153), (0, .nameAndType 154 155), (0, u "java/lang/System"), (0, u "arraycopy"), (0, u "(Ljava/lang/Object;ILjava/lang/Object;II)V"), (148, .methodref 305 306), (0, .class_ 307), (0, .nameAndType 308 309), (0, u "java/lang/Math"), (0, u "min"), (0, u "(II)I"), (29, .methodref 14 340), (0, .nameAndType 341 342), (0, u "copyOfRangeByte"), (0, u "([BII)[B"), (0, .methodref 14 344), (0, .nameAndType 345 346), (0, u "checkLength"), (0, u "(II)V"), (28, .class_ 376), (0, u "java/util/Arrays$ArrayList"), (68, u "$assertionsDisabled"), (269, u "MIN_ARRAY_SORT_GRAN"), (0, u "I"), (2, u "INSERTIONSORT_THRESHOLD"), (255, .class_ 976), (0, u "java/util/Arrays$ArrayItr")] 52

def k14m0 : Method := { name := "<init>", desc := "()V", sig := { parameters := [], returnType := none }, accessFlags := 2, code := none }
def k14c1 : Code := { maxStack := 4, maxLocals := 2, code := jdk_65_method_131_code, exceptionTable := #[], attributes := #[] }
def k14m1 : Method := { name := "checkLength", desc := "(II)V", sig := { parameters := [.int, .int], returnType := none }, accessFlags := 10, code := some k14c1 }
def k14c2 : Code := { maxStack := 3, maxLocals := 3, code := jdk_65_method_132_code, exceptionTable := #[], attributes := #[] }
def k14m2 : Method := { name := "copyOfRange", desc := "([BII)[B", sig := { parameters := [(.array .byte), .int, .int], returnType := some (.array .byte) }, accessFlags := 9, code := some k14c2 }
def k14c3 : Code := { maxStack := 6, maxLocals := 5, code := jdk_65_method_133_code, exceptionTable := #[], attributes := #[] }
def k14m3 : Method := { name := "copyOfRangeByte", desc := "([BII)[B", sig := { parameters := [(.array .byte), .int, .int], returnType := some (.array .byte) }, accessFlags := 10, code := some k14c3 }
/-- java/util/Arrays -/
def k14 : Class := { plain "java/util/Arrays" (some 0) with
  accessFlags := 49
  interfaces := #[]
  cf := some (fileOf pool14 14 #[.nestMembers #[975, 375, 113, 74]] #[{ accessFlags := 2, nameIndex := 5, descriptorIndex := 6, attributes := #[] }, { accessFlags := 10, nameIndex := 345, descriptorIndex := 346, attributes := #[] }, { accessFlags := 9, nameIndex := 139, descriptorIndex := 342, attributes := #[] }, { accessFlags := 10, nameIndex := 341, descriptorIndex := 342, attributes := #[] }] 49 2 #[] #[{ accessFlags := 26, nameIndex := 715, descriptorIndex := 716, attributes := #[] }, { accessFlags := 26, nameIndex := 719, descriptorIndex := 716, attributes := #[] }, { accessFlags := 4120, nameIndex := 445, descriptorIndex := 117, attributes := #[] }])
  fields := #[{ name := "MIN_ARRAY_SORT_GRAN", type := .int, accessFlags := 26, slot := 0, constantValue := 0 }, { name := "INSERTIONSORT_THRESHOLD", type := .int, accessFlags := 26, slot := 1, constantValue := 0 }, { name := "$assertionsDisabled", type := .boolean, accessFlags := 4120, slot := 2, constantValue := 0 }]
  methods := #[k14m0, k14m1, k14m2, k14m3]
  instanceTypes := #[]
  staticTypes := #[.int, .int, .boolean]
  resolved := Array.replicate 1029 none
  statics := none }

def pool15 : Array CpInfo := pool [(1, .class_ 2), (0, u "java/lang/Math"), (1, .class_ 6), (1, u "java/lang/Object"), (0, u "<init>"), (0, u "()V"), (89, .class_ 100), (1, u "java/lang/Math$RandomNumberGeneratorHolder"), (71, u "negativeZeroFloatBits"), (0, u "J"), (2, u "negativeZeroDoubleBits"), (24, u "min"), (43, u "$assertionsDisabled"), (0, u "Z"), (88, u "(II)I"), (2, u "twoToTheDoubleScaleDown"), (0, u "D"), (4, u "twoToTheDoubleScaleUp"), (9, u "E"), (3, u "PI"), (2, u "TAU"), (2, u "DEGREES_TO_RADIANS"), (0, u "RADIANS_TO_DEGREES")] 94

def k15m0 : Method := { name := "<init>", desc := "()V", sig := { parameters := [], returnType := none }, accessFlags := 2, code := none }
def k15c1 : Code := { maxStack := 2, maxLocals := 2, code := jdk_29_method_69_code, exceptionTable := #[], attributes := #[] }
def k15m1 : Method := { name := "min", desc := "(II)I", sig := { parameters := [.int, .int], returnType := some .int }, accessFlags := 9, code := some k15c1 }
/-- java/lang/Math -/
def k15 : Class := { plain "java/lang/Math" (some 0) with
  accessFlags := 49
  interfaces := #[]
  cf := some (fileOf pool15 1 #[.nestMembers #[98]] #[{ accessFlags := 2, nameIndex := 7, descriptorIndex := 8, attributes := #[] }, { accessFlags := 9, nameIndex := 201, descriptorIndex := 335, attributes := #[] }] 49 4 #[] #[{ accessFlags := 25, nameIndex := 354, descriptorIndex := 339, attributes := #[] }, { accessFlags := 25, nameIndex := 358, descriptorIndex := 339, attributes := #[] }, { accessFlags := 25, nameIndex := 361, descriptorIndex := 339, attributes := #[] }, { accessFlags := 26, nameIndex := 364, descriptorIndex := 339, attributes := #[] }, { accessFlags := 26, nameIndex := 365, descriptorIndex := 339, attributes := #[] }, { accessFlags := 26, nameIndex := 172, descriptorIndex := 173, attributes := #[] }, { accessFlags := 26, nameIndex := 176, descriptorIndex := 173, attributes := #[] }, { accessFlags := 8, nameIndex := 344, descriptorIndex := 339, attributes := #[] }, { accessFlags := 8, nameIndex := 338, descriptorIndex := 339, attributes := #[] }, { accessFlags := 4120, nameIndex := 245, descriptorIndex := 246, attributes := #[] }])
  fields := #[{ name := "E", type := .double, accessFlags := 25, slot := 0, constantValue := 0 }, { name := "PI", type := .double, accessFlags := 25, slot := 1, constantValue := 0 }, { name := "TAU", type := .double, accessFlags := 25, slot := 2, constantValue := 0 }, { name := "DEGREES_TO_RADIANS", type := .double, accessFlags := 26, slot := 3, constantValue := 0 }, { name := "RADIANS_TO_DEGREES", type := .double, accessFlags := 26, slot := 4, constantValue := 0 }, { name := "negativeZeroFloatBits", type := .long, accessFlags := 26, slot := 5, constantValue := 0 }, { name := "negativeZeroDoubleBits", type := .long, accessFlags := 26, slot := 6, constantValue := 0 }, { name := "twoToTheDoubleScaleUp", type := .double, accessFlags := 8, slot := 7, constantValue := 0 }, { name := "twoToTheDoubleScaleDown", type := .double, accessFlags := 8, slot := 8, constantValue := 0 }, { name := "$assertionsDisabled", type := .boolean, accessFlags := 4120, slot := 9, constantValue := 0 }]
  methods := #[k15m0, k15m1]
  instanceTypes := #[]
  staticTypes := #[.double, .double, .double, .double, .double, .long, .long, .double, .double, .boolean]
  resolved := Array.replicate 460 none
  statics := none }

def pool16 : Array CpInfo := pool [(1, .class_ 2), (0, u "java/lang/String"), (1, .class_ 6), (1, u "java/lang/Object"), (0, u "<init>"), (0, u "()V"), (0, .methodref 1 10), (0, .nameAndType 11 12), (0, u "checkIndex"), (0, u "(II)V"), (1, .class_ 16), (1, u "java/lang/StringLatin1"), (36, u "([BI)C"), (67, u "$assertionsDisabled"), (0, u "Z"), (98, .class_ 223), (1, u "java/lang/StringLatin1$LinesSpliterator"), (28, u "charAt"), (137, .class_ 391), (0, u "java/lang/StringLatin1$CharsSpliterator")] 3

def k16m0 : Method := { name := "<init>", desc := "()V", sig := { parameters := [], returnType := none }, accessFlags := 0, code := none }
def k16c1 : Code := { maxStack := 2, maxLocals := 2, code := jdk_43_method_2_code, exceptionTable := #[], attributes := #[] }
def k16m1 : Method := { name := "charAt", desc := "([BI)C", sig := { parameters := [(.array .byte), .int], returnType := some .char }, accessFlags := 9, code := some k16c1 }
/-- java/lang/StringLatin1 -/
def k16 : Class := { plain "java/lang/StringLatin1" (some 0) with
  accessFlags := 48
  interfaces := #[]
  cf := some (fileOf pool16 14 #[.nestMembers #[390, 221]] #[{ accessFlags := 0, nameIndex := 7, descriptorIndex := 8, attributes := #[] }, { accessFlags := 9, nameIndex := 252, descriptorIndex := 53, attributes := #[] }] 48 4 #[] #[{ accessFlags := 4120, nameIndex := 121, descriptorIndex := 122, attributes := #[] }])
  fields := #[{ name := "$assertionsDisabled", type := .boolean, accessFlags := 4120, slot := 0, constantValue := 0 }]
  methods := #[k16m0, k16m1]
  instanceTypes := #[]
  staticTypes := #[.boolean]
  resolved := Array.replicate 395 none
  statics := none }

def pool17 : Array CpInfo := pool [(2, .class_ 4), (1, u "java/lang/Object"), (0, u "<init>"), (0, u "()V"), (17, .class_ 26), (1, u "jdk/internal/util/Preconditions"), (6, u "checkIndex"), (21, .class_ 56), (0, u "jdk/internal/util/Preconditions$4"), (57, .class_ 115), (0, u "jdk/internal/util/Preconditions$1"), (7, u "SIOOBE_FORMATTER"), (0, u "Ljava/util/function/BiFunction;"), (0, .class_ 126), (0, u "jdk/internal/util/Preconditions$2"), (3, u "AIOOBE_FORMATTER"), (0, .class_ 132), (0, u "jdk/internal/util/Preconditions$3"), (3, u "IOOBE_FORMATTER"), (41, u "(IILjava/util/function/BiFunction;)I")] 15

def k17m0 : Method := { name := "<init>", desc := "()V", sig := { parameters := [], returnType := none }, accessFlags := 1, code := none }
def k17c1 : Code := { maxStack := 3, maxLocals := 3, code := jdk_41_method_11_code, exceptionTable := #[], attributes := #[] }
def k17m1 : Method := { name := "checkIndex", desc := "(IILjava/util/function/BiFunction;)I", sig := { parameters := [.int, .int, (.object "java/util/function/BiFunction")], returnType := some .int }, accessFlags := 9, code := some k17c1 }
/-- jdk/internal/util/Preconditions -/
def k17 : Class := { plain "jdk/internal/util/Preconditions" (some 0) with
  accessFlags := 33
  interfaces := #[]
  cf := some (fileOf pool17 24 #[.nestMembers #[55, 131, 125, 114]] #[{ accessFlags := 1, nameIndex := 5, descriptorIndex := 6, attributes := #[] }, { accessFlags := 9, nameIndex := 33, descriptorIndex := 178, attributes := #[] }] 33 2 #[] #[{ accessFlags := 25, nameIndex := 123, descriptorIndex := 124, attributes := #[] }, { accessFlags := 25, nameIndex := 130, descriptorIndex := 124, attributes := #[] }, { accessFlags := 25, nameIndex := 136, descriptorIndex := 124, attributes := #[] }])
  fields := #[{ name := "SIOOBE_FORMATTER", type := (.object "java/util/function/BiFunction"), accessFlags := 25, slot := 0, constantValue := 0 }, { name := "AIOOBE_FORMATTER", type := (.object "java/util/function/BiFunction"), accessFlags := 25, slot := 1, constantValue := 0 }, { name := "IOOBE_FORMATTER", type := (.object "java/util/function/BiFunction"), accessFlags := 25, slot := 2, constantValue := 0 }]
  methods := #[k17m0, k17m1]
  instanceTypes := #[]
  staticTypes := #[(.object "java/util/function/BiFunction"), (.object "java/util/function/BiFunction"), (.object "java/util/function/BiFunction")]
  resolved := Array.replicate 194 none
  statics := some 1 }

def pool18 : Array CpInfo := pool [(6, .class_ 8), (1, u "java/lang/Object"), (0, u "<init>"), (0, u "()V"), (1, .class_ 14), (1, u "java/lang/StringUTF16"), (31, u "$assertionsDisabled"), (0, u "Z"), (13, u "HI_BYTE_SHIFT"), (0, u "I"), (2, u "LO_BYTE_SHIFT"), (49, .methodref 12 116), (0, .nameAndType 117 118), (0, u "compress"), (0, u "([CI[BII)I"), (3, u "([CII)[B"), (138, u "coderFromArrayLen"), (0, u "([BI)B"), (106, .class_ 371), (1, u "java/lang/StringUTF16$LinesSpliterator"), (58, u "MAX_LENGTH"), (196, .class_ 628), (0, u "java/lang/StringUTF16$CodePointsSpliterator"), (0, .class_ 630), (0, u "java/lang/StringUTF16$CharsSpliterator")] 4

def k18m0 : Method := { name := "<init>", desc := "()V", sig := { parameters := [], returnType := none }, accessFlags := 0, code := none }
def k18c1 : Code := { maxStack := 2, maxLocals := 2, code := jdk_52_method_15_code, exceptionTable := #[], attributes := #[] }
def k18m1 : Method := { name := "coderFromArrayLen", desc := "([BI)B", sig := { parameters := [(.array .byte), .int], returnType := some .byte }, accessFlags := 8, code := some k18c1 }
def k18c2 : Code := { maxStack := 5, maxLocals := 6, code := jdk_52_method_16_code, exceptionTable := #[], attributes := #[] }
def k18m2 : Method := { name := "compress", desc := "([CII)[B", sig := { parameters := [(.array .char), .int, .int], returnType := some (.array .byte) }, accessFlags := 9, code := some k18c2 }
def k18c3 : Code := { maxStack := 3, maxLocals := 7, code := jdk_52_method_21_code, exceptionTable := #[], attributes := #[] }
def k18m3 : Method := { name := "compress", desc := "([CI[BII)I", sig := { parameters := [(.array .char), .int, (.array .byte), .int, .int], returnType := some .int }, accessFlags := 9, code := some k18c3 }
/-- java/lang/StringUTF16 -/
def k18 : Class := { plain "java/lang/StringUTF16" (some 0) with
  accessFlags := 48
  interfaces := #[]
  cf := some (fileOf pool18 12 #[.nestMembers #[627, 629, 369]] #[{ accessFlags := 0, nameIndex := 9, descriptorIndex := 10, attributes := #[] }, { accessFlags := 8, nameIndex := 261, descriptorIndex := 262, attributes := #[] }, { accessFlags := 9, nameIndex := 117, descriptorIndex := 122, attributes := #[] }, { accessFlags := 9, nameIndex := 117, descriptorIndex := 118, attributes := #[] }] 48 6 #[] #[{ accessFlags := 26, nameIndex := 61, descriptorIndex := 62, attributes := #[] }, { accessFlags := 26, nameIndex := 65, descriptorIndex := 62, attributes := #[] }, { accessFlags := 24, nameIndex := 430, descriptorIndex := 62, attributes := #[] }, { accessFlags := 4120, nameIndex := 46, descriptorIndex := 47, attributes := #[] }])
  fields := #[{ name := "HI_BYTE_SHIFT", type := .int, accessFlags := 26, slot := 0, constantValue := 0 }, { name := "LO_BYTE_SHIFT", type := .int, accessFlags := 26, slot := 1, constantValue := 0 }, { name := "MAX_LENGTH", type := .int, accessFlags := 24, slot := 2, constantValue := 0 }, { name := "$assertionsDisabled", type := .boolean, accessFlags := 4120, slot := 3, constantValue := 0 }]
  methods := #[k18m0, k18m1, k18m2, k18m3]
  instanceTypes := #[]
  staticTypes := #[.int, .int, .int, .boolean]
  resolved := Array.replicate 635 none
  statics := none }

def pool19 : Array CpInfo := pool [(9, u "<init>"), (6, .class_ 18), (1, u "java/lang/Object"), (0, u "()V"), (1, .class_ 23), (1, u "jdk/internal/util/ArraysSupport"), (0, u "LOG2_ARRAY_LONG_INDEX_SCALE"), (0, u "I"), (2, u "U"), (0, u "Ljdk/internal/misc/Unsafe;"), (8, u "BIG_ENDIAN"), (0, u "Z"), (8, u "LOG2_BYTE_BIT_SIZE"), (4, u "LOG2_ARRAY_INT_INDEX_SCALE"), (54, u "JLA"), (0, u "Ljdk/internal/access/JavaLangAccess;"), (11, u "LOG2_ARRAY_BOOLEAN_INDEX_SCALE"), (9, u "LOG2_ARRAY_BYTE_INDEX_SCALE"), (5, u "LOG2_ARRAY_CHAR_INDEX_SCALE"), (5, u "LOG2_ARRAY_SHORT_INDEX_SCALE"), (18, u "LOG2_ARRAY_FLOAT_INDEX_SCALE"), (24, u "LOG2_ARRAY_DOUBLE_INDEX_SCALE"), (89, u "T_BOOLEAN"), (2, u "T_CHAR"), (1, u "T_FLOAT"), (1, u "T_DOUBLE"), (1, u "T_BYTE"), (1, u "T_SHORT"), (1, u "T_INT"), (1, u "T_LONG"), (1, u "SOFT_MAX_ARRAY_LENGTH")] 83

def k19m0 : Method := { name := "<init>", desc := "()V", sig := { parameters := [], returnType := none }, accessFlags := 2, code := none }
/-- jdk/internal/util/ArraysSupport -/
def k19 : Class := { plain "jdk/internal/util/ArraysSupport" (some 0) with
  accessFlags := 33
  interfaces := #[]
  cf := some (fileOf pool19 21 #[] #[{ accessFlags := 2, nameIndex := 9, descriptorIndex := 19, attributes := #[] }] 33 16 #[] #[{ accessFlags := 24, nameIndex := 28, descriptorIndex := 29, attributes := #[] }, { accessFlags := 26, nameIndex := 38, descriptorIndex := 39, attributes := #[] }, { accessFlags := 25, nameIndex := 121, descriptorIndex := 25, attributes := #[] }, { accessFlags := 25, nameIndex := 131, descriptorIndex := 25, attributes := #[] }, { accessFlags := 25, nameIndex := 137, descriptorIndex := 25, attributes := #[] }, { accessFlags := 25, nameIndex := 143, descriptorIndex := 25, attributes := #[] }, { accessFlags := 25, nameIndex := 53, descriptorIndex := 25, attributes := #[] }, { accessFlags := 25, nameIndex := 24, descriptorIndex := 25, attributes := #[] }, { accessFlags := 25, nameIndex := 162, descriptorIndex := 25, attributes := #[] }, { accessFlags := 25, nameIndex := 187, descriptorIndex := 25, attributes := #[] }, { accessFlags := 26, nameIndex := 48, descriptorIndex := 25, attributes := #[] }, { accessFlags := 25, nameIndex := 277, descriptorIndex := 25, attributes := #[] }, { accessFlags := 25, nameIndex := 280, descriptorIndex := 25, attributes := #[] }, { accessFlags := 25, nameIndex := 282, descriptorIndex := 25, attributes := #[] }, { accessFlags := 25, nameIndex := 284, descriptorIndex := 25, attributes := #[] }, { accessFlags := 25, nameIndex := 286, descriptorIndex := 25, attributes := #[] }, { accessFlags := 25, nameIndex := 288, descriptorIndex := 25, attributes := #[] }, { accessFlags := 25, nameIndex := 290, descriptorIndex := 25, attributes := #[] }, { accessFlags := 25, nameIndex := 292, descriptorIndex := 25, attributes := #[] }, { accessFlags := 26, nameIndex := 108, descriptorIndex := 109, attributes := #[] }, { accessFlags := 25, nameIndex := 294, descriptorIndex := 25, attributes := #[] }])
  fields := #[{ name := "U", type := (.object "jdk/internal/misc/Unsafe"), accessFlags := 24, slot := 0, constantValue := 0 }, { name := "BIG_ENDIAN", type := .boolean, accessFlags := 26, slot := 1, constantValue := 0 }, { name := "LOG2_ARRAY_BOOLEAN_INDEX_SCALE", type := .int, accessFlags := 25, slot := 2, constantValue := 0 }, { name := "LOG2_ARRAY_BYTE_INDEX_SCALE", type := .int, accessFlags := 25, slot := 3, constantValue := 0 }, { name := "LOG2_ARRAY_CHAR_INDEX_SCALE", type := .int, accessFlags := 25, slot := 4, constantValue := 0 }, { name := "LOG2_ARRAY_SHORT_INDEX_SCALE", type := .int, accessFlags := 25, slot := 5, constantValue := 0 }, { name := "LOG2_ARRAY_INT_INDEX_SCALE", type := .int, accessFlags := 25, slot := 6, constantValue := 0 }, { name := "LOG2_ARRAY_LONG_INDEX_SCALE", type := .int, accessFlags := 25, slot := 7, constantValue := 0 }, { name := "LOG2_ARRAY_FLOAT_INDEX_SCALE", type := .int, accessFlags := 25, slot := 8, constantValue := 0 }, { name := "LOG2_ARRAY_DOUBLE_INDEX_SCALE", type := .int, accessFlags := 25, slot := 9, constantValue := 0 }, { name := "LOG2_BYTE_BIT_SIZE", type := .int, accessFlags := 26, slot := 10, constantValue := 0 }, { name := "T_BOOLEAN", type := .int, accessFlags := 25, slot := 11, constantValue := 0 }, { name := "T_CHAR", type := .int, accessFlags := 25, slot := 12, constantValue := 0 }, { name := "T_FLOAT", type := .int, accessFlags := 25, slot := 13, constantValue := 0 }, { name := "T_DOUBLE", type := .int, accessFlags := 25, slot := 14, constantValue := 0 }, { name := "T_BYTE", type := .int, accessFlags := 25, slot := 15, constantValue := 0 }, { name := "T_SHORT", type := .int, accessFlags := 25, slot := 16, constantValue := 0 }, { name := "T_INT", type := .int, accessFlags := 25, slot := 17, constantValue := 0 }, { name := "T_LONG", type := .int, accessFlags := 25, slot := 18, constantValue := 0 }, { name := "JLA", type := (.object "jdk/internal/access/JavaLangAccess"), accessFlags := 26, slot := 19, constantValue := 0 }, { name := "SOFT_MAX_ARRAY_LENGTH", type := .int, accessFlags := 25, slot := 20, constantValue := 0 }]
  methods := #[k19m0]
  instanceTypes := #[]
  staticTypes := #[(.object "jdk/internal/misc/Unsafe"), .boolean, .int, .int, .int, .int, .int, .int, .int, .int, .int, .int, .int, .int, .int, .int, .int, .int, .int, (.object "jdk/internal/access/JavaLangAccess"), .int]
  resolved := Array.replicate 378 none
  statics := none }

def pool20 : Array CpInfo := pool [(1, u "java/lang/Cloneable"), (0, .class_ 1), (0, u "java/lang/Object"), (0, .class_ 3)] 3

/-- java/lang/Cloneable -/
def k20 : Class := { plain "java/lang/Cloneable" (some 0) with
  accessFlags := 1537
  interfaces := #[]
  cf := some (fileOf pool20 2 #[] #[] 1537 4 #[] #[])
  fields := #[]
  methods := #[]
  instanceTypes := #[]
  staticTypes := #[]
  resolved := Array.replicate 8 none
  statics := none }

/-- the primitive byte -/
def k21 : Class := { plain "byte" none with kind := .primitive 'B', accessFlags := 0x411 }
/-- [B -/
def k22 : Class := { plain "[B" (some 0) with kind := .array 21 .byte, interfaces := #[20, 2], accessFlags := 1041 }

/-- the primitive char -/
def k23 : Class := { plain "char" none with kind := .primitive 'C', accessFlags := 0x411 }
/-- [C -/
def k24 : Class := { plain "[C" (some 0) with kind := .array 23 .char, interfaces := #[20, 2], accessFlags := 1041 }

/-- the primitive int -/
def k25 : Class := { plain "int" none with kind := .primitive 'I', accessFlags := 0x411 }
/-- [I -/
def k26 : Class := { plain "[I" (some 0) with kind := .array 25 .int, interfaces := #[20, 2], accessFlags := 1041 }

def heap : Heap := #[{ cls := 7, slots := #[.long 0, .int 1, .null, .int 0, .null, .int 0, .int 0], vm := .statics 7 },
  { cls := 17, slots := #[.null, .null, .null], vm := .statics 17 }]
def classes : Array Class := #[k0, k1, k2, k3, k4, k5, k6, k7, k8, k9, k10, k11, k12, k13, k14, k15, k16, k17, k18, k19, k20, k21, k22, k23, k24, k25, k26]
def interned : List (Array UInt16 × Addr) := []
def slotsUsed : Nat := 10
def theMethod : MethodId := ⟨1, 3⟩
def args0 : Array Value := #[.int 5, .int 6, .int 7, .int 8, .int 9, .int 10]
def aboutOver (below : List Frame) : State where
  vm := { classes := classes, interned := interned.toArray }
  heap := heap
  slotsUsed := slotsUsed
  threads := #[{ frames := .invoking theMethod args0 :: below }]
def below0 : List Frame := [.native { method := ⟨0, 0⟩, args := #[] }]
def about1 : State := aboutOver below0
def p0 : Program := .bare "" "" ""
def e0 : Env := launch0.env 0 0 0
theorem w_frames : about1.frames = Frame.invoking theMethod args0 :: below0 := rfl
set_option maxRecDepth 65536 in
theorem w_args : argsFit about1.vm theMethod args0 = true := by decide +kernel
set_option maxRecDepth 65536 in
theorem w_heap : heapFits about1 = true := by decide +kernel
set_option maxRecDepth 65536 in
theorem w_runnable : about1.curStatus? = some .runnable := by decide +kernel
set_option maxRecDepth 65536 in
theorem w_alone : about1.alone = true := by decide +kernel
set_option maxRecDepth 65536 in
theorem w_named : about1.methodNamed? x = some theMethod := by decide +kernel
set_option maxRecDepth 65536 in
theorem w_hears : about1.hears theMethod below0 = true := by decide +kernel
set_option maxRecDepth 65536 in
theorem w_ripe : about1.ripe theMethod args0 below0 = true := by decide +kernel
theorem w_running : about1.status = .running := rfl
set_option maxRecDepth 65536 in
theorem w_room : about1.hasRoom e0.platform room_1 = true :=
  launch0.hasRoom_least _ room_1 (by decide +kernel) (by decide +kernel) (by decide +kernel) (by decide +kernel) (by decide +kernel) (by decide +kernel)
theorem allAtoms_all (ts : List Jvm.Cond) (a : Array Jvm.Value) (st : Jvm.State) : (allAtoms ts).before a st = ts.all (fun c => c.before a st) := by
  induction ts with
  | nil => rfl
  | cons c t ih =>
    show (Jvm.Cond.and c (allAtoms t)).before a st = _
    rw [Jvm.Cond.before_and, ih, List.all_cons]
def words1 : List Jvm.Cond := Jvm.Cond.code x code maxLocals ret :: tables_1
/-- a 'code' word, met by the world's own term for the bytes: nothing is compared byte by byte -/
theorem code_word {y : MethodName} {bytes : ByteArray} {mx : Nat} {rt : Option FieldType} {a : Array Value} {s : State} {m : MethodId} {meth : Method} {c : Code} (h1 : s.methodNamed? y = some m) (h2 : s.vm.method? m = some meth) (h3 : meth.code = some c) (h4 : c.code = bytes)
    (h5 : (c.maxLocals == mx && c.exceptionTable.isEmpty && decide (c.maxStack ≤ mostOperands) && decide (meth.sig.returnType = rt) && !meth.locks && decide (parseMethodDescriptor y.desc = some meth.sig)) = true) : (Jvm.Cond.code y bytes mx rt).before a s = true := by
  simp only [Bool.and_eq_true, beq_iff_eq, Bool.not_eq_true', decide_eq_true_eq] at h5
  obtain ⟨⟨⟨⟨⟨g1, g2⟩, g3⟩, g4⟩, g5⟩, g6⟩ := h5
  simp [Cond.before, Cond.holds, Cond.value, h1, h2, h3, h4, g1, g2, g3, g4, g5, g6]
def isCode : Jvm.Cond → Bool
  | .code _ _ _ _ => true
  | _ => false
theorem all_split {L : List Jvm.Cond} {P : Jvm.Cond → Bool} (h1 : L.all (fun c => isCode c || P c) = true) (h2 : ∀ c ∈ L.filter isCode, P c = true) : L.all P = true := by
  refine List.all_eq_true.mpr fun c hc => ?_
  have h := List.all_eq_true.mp h1 c hc
  rcases Bool.eq_false_or_eq_true (isCode c) with hi | hi
  · exact h2 c (List.mem_filter.mpr ⟨hc, hi⟩)
  · simpa [hi] using h
set_option maxRecDepth 65536 in
theorem w_c0 : (Jvm.Cond.code x code maxLocals ret).before args0 about1 = true := code_word (m := ⟨1, 3⟩) (meth := k1m3) (c := k1c3) (by decide +kernel) rfl rfl rfl (by decide +kernel)
set_option maxRecDepth 65536 in
theorem w_c1 : (Jvm.Cond.code ({ cls := "com/example/stateful_search/statefulsearch/session/SearchResultSummaryPinLaw", name := "mk", desc := "(ICC)Ljava/lang/String;" } : Jvm.MethodName) method_2_code (3 : Nat) (Option.some (Jvm.ClassFile.FieldType.object "java/lang/String"))).before args0 about1 = true := code_word (m := ⟨1, 1⟩) (meth := k1m1) (c := k1c1) (by decide +kernel) rfl rfl rfl (by decide +kernel)
set_option maxRecDepth 65536 in
theorem w_c2 : (Jvm.Cond.code ({ cls := "java/lang/String", name := "<init>", desc := "([C)V" } : Jvm.MethodName) jdk_42_method_3_code (2 : Nat) (Option.none : Option Jvm.ClassFile.FieldType)).before args0 about1 = true := code_word (m := ⟨7, 1⟩) (meth := k7m1) (c := k7c1) (by decide +kernel) rfl rfl rfl (by decide +kernel)
set_option maxRecDepth 65536 in
theorem w_c3 : (Jvm.Cond.code ({ cls := "java/lang/String", name := "<init>", desc := "([CIILjava/lang/Void;)V" } : Jvm.MethodName) jdk_42_method_149_code (6 : Nat) (Option.none : Option Jvm.ClassFile.FieldType)).before args0 about1 = true := code_word (m := ⟨7, 6⟩) (meth := k7m6) (c := k7c6) (by decide +kernel) rfl rfl rfl (by decide +kernel)
set_option maxRecDepth 65536 in
theorem w_c4 : (Jvm.Cond.code ({ cls := "java/lang/Object", name := "<init>", desc := "()V" } : Jvm.MethodName) object_method_1_code (1 : Nat) (Option.none : Option Jvm.ClassFile.FieldType)).before args0 about1 = true := code_word (m := ⟨0, 0⟩) (meth := k0m0) (c := k0c0) (by decide +kernel) rfl rfl rfl (by decide +kernel)
set_option maxRecDepth 65536 in
theorem w_c5 : (Jvm.Cond.code ({ cls := "com/example/stateful_search/statefulsearch/session/SearchResult", name := "<init>", desc := "(ILjava/lang/String;Ljava/lang/String;Ljava/lang/String;)V" } : Jvm.MethodName) prog_31_method_1_code (5 : Nat) (Option.none : Option Jvm.ClassFile.FieldType)).before args0 about1 = true := code_word (m := ⟨9, 0⟩) (meth := k9m0) (c := k9c0) (by decide +kernel) rfl rfl rfl (by decide +kernel)
set_option maxRecDepth 65536 in
theorem w_c6 : (Jvm.Cond.code ({ cls := "java/lang/Record", name := "<init>", desc := "()V" } : Jvm.MethodName) jdk_30_method_1_code (1 : Nat) (Option.none : Option Jvm.ClassFile.FieldType)).before args0 about1 = true := code_word (m := ⟨8, 0⟩) (meth := k8m0) (c := k8c0) (by decide +kernel) rfl rfl rfl (by decide +kernel)
set_option maxRecDepth 65536 in
theorem w_c7 : (Jvm.Cond.code ({ cls := "com/example/stateful_search/statefulsearch/session/SearchResult", name := "summary", desc := "()Ljava/lang/String;" } : Jvm.MethodName) prog_31_method_2_code (1 : Nat) (Option.some (Jvm.ClassFile.FieldType.object "java/lang/String"))).before args0 about1 = true := code_word (m := ⟨9, 1⟩) (meth := k9m1) (c := k9c1) (by decide +kernel) rfl rfl rfl (by decide +kernel)
set_option maxRecDepth 65536 in
theorem w_c8 : (Jvm.Cond.code ({ cls := "java/lang/StringBuilder", name := "<init>", desc := "()V" } : Jvm.MethodName) jdk_67_method_1_code (1 : Nat) (Option.none : Option Jvm.ClassFile.FieldType)).before args0 about1 = true := code_word (m := ⟨12, 0⟩) (meth := k12m0) (c := k12c0) (by decide +kernel) rfl rfl rfl (by decide +kernel)
set_option maxRecDepth 65536 in
theorem w_c9 : (Jvm.Cond.code ({ cls := "java/lang/AbstractStringBuilder", name := "<init>", desc := "(I)V" } : Jvm.MethodName) jdk_68_method_2_code (2 : Nat) (Option.none : Option Jvm.ClassFile.FieldType)).before args0 about1 = true := code_word (m := ⟨11, 1⟩) (meth := k11m1) (c := k11c1) (by decide +kernel) rfl rfl rfl (by decide +kernel)
set_option maxRecDepth 65536 in
theorem w_c10 : (Jvm.Cond.code ({ cls := "java/lang/StringBuilder", name := "append", desc := "(Ljava/lang/String;)Ljava/lang/StringBuilder;" } : Jvm.MethodName) jdk_67_method_7_code (2 : Nat) (Option.some (Jvm.ClassFile.FieldType.object "java/lang/StringBuilder"))).before args0 about1 = true := code_word (m := ⟨12, 1⟩) (meth := k12m1) (c := k12c1) (by decide +kernel) rfl rfl rfl (by decide +kernel)
set_option maxRecDepth 65536 in
theorem w_c11 : (Jvm.Cond.code ({ cls := "java/lang/AbstractStringBuilder", name := "append", desc := "(Ljava/lang/String;)Ljava/lang/AbstractStringBuilder;" } : Jvm.MethodName) jdk_68_method_22_code (3 : Nat) (Option.some (Jvm.ClassFile.FieldType.object "java/lang/AbstractStringBuilder"))).before args0 about1 = true := code_word (m := ⟨11, 4⟩) (meth := k11m4) (c := k11c4) (by decide +kernel) rfl rfl rfl (by decide +kernel)
set_option maxRecDepth 65536 in
theorem w_c12 : (Jvm.Cond.code ({ cls := "java/lang/String", name := "length", desc := "()I" } : Jvm.MethodName) jdk_42_method_54_code (1 : Nat) (Option.some Jvm.ClassFile.FieldType.int)).before args0 about1 = true := code_word (m := ⟨7, 3⟩) (meth := k7m3) (c := k7c3) (by decide +kernel) rfl rfl rfl (by decide +kernel)
set_option maxRecDepth 65536 in
theorem w_c13 : (Jvm.Cond.code ({ cls := "java/lang/String", name := "coder", desc := "()B" } : Jvm.MethodName) jdk_42_method_152_code (1 : Nat) (Option.some Jvm.ClassFile.FieldType.byte)).before args0 about1 = true := code_word (m := ⟨7, 8⟩) (meth := k7m8) (c := k7c8) (by decide +kernel) rfl rfl rfl (by decide +kernel)
set_option maxRecDepth 65536 in
theorem w_c14 : (Jvm.Cond.code ({ cls := "java/lang/AbstractStringBuilder", name := "ensureCapacityInternal", desc := "(I)V" } : Jvm.MethodName) jdk_68_method_9_code (3 : Nat) (Option.none : Option Jvm.ClassFile.FieldType)).before args0 about1 = true := code_word (m := ⟨11, 3⟩) (meth := k11m3) (c := k11c3) (by decide +kernel) rfl rfl rfl (by decide +kernel)
set_option maxRecDepth 65536 in
theorem w_c15 : (Jvm.Cond.code ({ cls := "java/lang/AbstractStringBuilder", name := "putStringAt", desc := "(ILjava/lang/String;)V" } : Jvm.MethodName) jdk_68_method_73_code (3 : Nat) (Option.none : Option Jvm.ClassFile.FieldType)).before args0 about1 = true := code_word (m := ⟨11, 8⟩) (meth := k11m8) (c := k11c8) (by decide +kernel) rfl rfl rfl (by decide +kernel)
set_option maxRecDepth 65536 in
theorem w_c16 : (Jvm.Cond.code ({ cls := "java/lang/AbstractStringBuilder", name := "inflateIfNeededFor", desc := "(Ljava/lang/String;)V" } : Jvm.MethodName) jdk_68_method_71_code (2 : Nat) (Option.none : Option Jvm.ClassFile.FieldType)).before args0 about1 = true := code_word (m := ⟨11, 7⟩) (meth := k11m7) (c := k11c7) (by decide +kernel) rfl rfl rfl (by decide +kernel)
set_option maxRecDepth 65536 in
theorem w_c17 : (Jvm.Cond.code ({ cls := "java/lang/String", name := "getBytes", desc := "([BIB)V" } : Jvm.MethodName) jdk_42_method_147_code (4 : Nat) (Option.none : Option Jvm.ClassFile.FieldType)).before args0 about1 = true := code_word (m := ⟨7, 5⟩) (meth := k7m5) (c := k7c5) (by decide +kernel) rfl rfl rfl (by decide +kernel)
set_option maxRecDepth 65536 in
theorem w_c18 : (Jvm.Cond.code ({ cls := "java/lang/StringBuilder", name := "toString", desc := "()Ljava/lang/String;" } : Jvm.MethodName) jdk_67_method_42_code (1 : Nat) (Option.some (Jvm.ClassFile.FieldType.object "java/lang/String"))).before args0 about1 = true := code_word (m := ⟨12, 2⟩) (meth := k12m2) (c := k12c2) (by decide +kernel) rfl rfl rfl (by decide +kernel)
set_option maxRecDepth 65536 in
theorem w_c19 : (Jvm.Cond.code ({ cls := "java/lang/String", name := "<init>", desc := "(Ljava/lang/StringBuilder;)V" } : Jvm.MethodName) jdk_42_method_53_code (2 : Nat) (Option.none : Option Jvm.ClassFile.FieldType)).before args0 about1 = true := code_word (m := ⟨7, 2⟩) (meth := k7m2) (c := k7c2) (by decide +kernel) rfl rfl rfl (by decide +kernel)
set_option maxRecDepth 65536 in
theorem w_c20 : (Jvm.Cond.code ({ cls := "java/lang/String", name := "<init>", desc := "(Ljava/lang/AbstractStringBuilder;Ljava/lang/Void;)V" } : Jvm.MethodName) jdk_42_method_150_code (5 : Nat) (Option.none : Option Jvm.ClassFile.FieldType)).before args0 about1 = true := code_word (m := ⟨7, 7⟩) (meth := k7m7) (c := k7c7) (by decide +kernel) rfl rfl rfl (by decide +kernel)
set_option maxRecDepth 65536 in
theorem w_c21 : (Jvm.Cond.code ({ cls := "java/lang/AbstractStringBuilder", name := "getValue", desc := "()[B" } : Jvm.MethodName) jdk_68_method_64_code (1 : Nat) (Option.some (Jvm.ClassFile.FieldType.array Jvm.ClassFile.FieldType.byte))).before args0 about1 = true := code_word (m := ⟨11, 5⟩) (meth := k11m5) (c := k11c5) (by decide +kernel) rfl rfl rfl (by decide +kernel)
set_option maxRecDepth 65536 in
theorem w_c22 : (Jvm.Cond.code ({ cls := "java/lang/StringBuilder", name := "length", desc := "()I" } : Jvm.MethodName) jdk_67_method_93_code (1 : Nat) (Option.some Jvm.ClassFile.FieldType.int)).before args0 about1 = true := code_word (m := ⟨12, 3⟩) (meth := k12m3) (c := k12c3) (by decide +kernel) rfl rfl rfl (by decide +kernel)
set_option maxRecDepth 65536 in
theorem w_c23 : (Jvm.Cond.code ({ cls := "java/lang/AbstractStringBuilder", name := "length", desc := "()I" } : Jvm.MethodName) jdk_68_method_6_code (1 : Nat) (Option.some Jvm.ClassFile.FieldType.int)).before args0 about1 = true := code_word (m := ⟨11, 2⟩) (meth := k11m2) (c := k11c2) (by decide +kernel) rfl rfl rfl (by decide +kernel)
set_option maxRecDepth 65536 in
theorem w_c24 : (Jvm.Cond.code ({ cls := "java/lang/AbstractStringBuilder", name := "isLatin1", desc := "()Z" } : Jvm.MethodName) jdk_68_method_68_code (1 : Nat) (Option.some Jvm.ClassFile.FieldType.boolean)).before args0 about1 = true := code_word (m := ⟨11, 6⟩) (meth := k11m6) (c := k11c6) (by decide +kernel) rfl rfl rfl (by decide +kernel)
set_option maxRecDepth 65536 in
theorem w_c25 : (Jvm.Cond.code ({ cls := "java/util/Arrays", name := "copyOfRange", desc := "([BII)[B" } : Jvm.MethodName) jdk_65_method_132_code (3 : Nat) (Option.some (Jvm.ClassFile.FieldType.array Jvm.ClassFile.FieldType.byte))).before args0 about1 = true := code_word (m := ⟨14, 2⟩) (meth := k14m2) (c := k14c2) (by decide +kernel) rfl rfl rfl (by decide +kernel)
set_option maxRecDepth 65536 in
theorem w_c26 : (Jvm.Cond.code ({ cls := "java/util/Arrays", name := "copyOfRangeByte", desc := "([BII)[B" } : Jvm.MethodName) jdk_65_method_133_code (5 : Nat) (Option.some (Jvm.ClassFile.FieldType.array Jvm.ClassFile.FieldType.byte))).before args0 about1 = true := code_word (m := ⟨14, 3⟩) (meth := k14m3) (c := k14c3) (by decide +kernel) rfl rfl rfl (by decide +kernel)
set_option maxRecDepth 65536 in
theorem w_c27 : (Jvm.Cond.code ({ cls := "java/util/Arrays", name := "checkLength", desc := "(II)V" } : Jvm.MethodName) jdk_65_method_131_code (2 : Nat) (Option.none : Option Jvm.ClassFile.FieldType)).before args0 about1 = true := code_word (m := ⟨14, 1⟩) (meth := k14m1) (c := k14c1) (by decide +kernel) rfl rfl rfl (by decide +kernel)
set_option maxRecDepth 65536 in
theorem w_c28 : (Jvm.Cond.code ({ cls := "java/lang/Math", name := "min", desc := "(II)I" } : Jvm.MethodName) jdk_29_method_69_code (2 : Nat) (Option.some Jvm.ClassFile.FieldType.int)).before args0 about1 = true := code_word (m := ⟨15, 1⟩) (meth := k15m1) (c := k15c1) (by decide +kernel) rfl rfl rfl (by decide +kernel)
set_option maxRecDepth 65536 in
theorem w_c29 : (Jvm.Cond.code ({ cls := "com/example/stateful_search/statefulsearch/session/SearchResultSummaryPinLaw", name := "ok", desc := "(Ljava/lang/String;IICCCC)Z" } : Jvm.MethodName) method_3_code (8 : Nat) (Option.some Jvm.ClassFile.FieldType.boolean)).before args0 about1 = true := code_word (m := ⟨1, 2⟩) (meth := k1m2) (c := k1c2) (by decide +kernel) rfl rfl rfl (by decide +kernel)
set_option maxRecDepth 65536 in
theorem w_c30 : (Jvm.Cond.code ({ cls := "java/lang/String", name := "charAt", desc := "(I)C" } : Jvm.MethodName) jdk_42_method_56_code (2 : Nat) (Option.some Jvm.ClassFile.FieldType.char)).before args0 about1 = true := code_word (m := ⟨7, 4⟩) (meth := k7m4) (c := k7c4) (by decide +kernel) rfl rfl rfl (by decide +kernel)
set_option maxRecDepth 65536 in
theorem w_c31 : (Jvm.Cond.code ({ cls := "java/lang/String", name := "isLatin1", desc := "()Z" } : Jvm.MethodName) jdk_42_method_154_code (1 : Nat) (Option.some Jvm.ClassFile.FieldType.boolean)).before args0 about1 = true := code_word (m := ⟨7, 9⟩) (meth := k7m9) (c := k7c9) (by decide +kernel) rfl rfl rfl (by decide +kernel)
set_option maxRecDepth 65536 in
theorem w_c32 : (Jvm.Cond.code ({ cls := "java/lang/StringLatin1", name := "charAt", desc := "([BI)C" } : Jvm.MethodName) jdk_43_method_2_code (2 : Nat) (Option.some Jvm.ClassFile.FieldType.char)).before args0 about1 = true := code_word (m := ⟨16, 1⟩) (meth := k16m1) (c := k16c1) (by decide +kernel) rfl rfl rfl (by decide +kernel)
set_option maxRecDepth 65536 in
theorem w_c33 : (Jvm.Cond.code ({ cls := "java/lang/String", name := "checkIndex", desc := "(II)V" } : Jvm.MethodName) jdk_42_method_155_code (2 : Nat) (Option.none : Option Jvm.ClassFile.FieldType)).before args0 about1 = true := code_word (m := ⟨7, 10⟩) (meth := k7m10) (c := k7c10) (by decide +kernel) rfl rfl rfl (by decide +kernel)
set_option maxRecDepth 65536 in
theorem w_c34 : (Jvm.Cond.code ({ cls := "jdk/internal/util/Preconditions", name := "checkIndex", desc := "(IILjava/util/function/BiFunction;)I" } : Jvm.MethodName) jdk_41_method_11_code (3 : Nat) (Option.some Jvm.ClassFile.FieldType.int)).before args0 about1 = true := code_word (m := ⟨17, 1⟩) (meth := k17m1) (c := k17c1) (by decide +kernel) rfl rfl rfl (by decide +kernel)
set_option maxRecDepth 65536 in
theorem w_c35 : (Jvm.Cond.code ({ cls := "java/lang/StringUTF16", name := "compress", desc := "([CII)[B" } : Jvm.MethodName) jdk_52_method_16_code (6 : Nat) (Option.some (Jvm.ClassFile.FieldType.array Jvm.ClassFile.FieldType.byte))).before args0 about1 = true := code_word (m := ⟨18, 2⟩) (meth := k18m2) (c := k18c2) (by decide +kernel) rfl rfl rfl (by decide +kernel)
set_option maxRecDepth 65536 in
theorem w_c36 : (Jvm.Cond.code ({ cls := "java/lang/StringUTF16", name := "compress", desc := "([CI[BII)I" } : Jvm.MethodName) jdk_52_method_21_code (7 : Nat) (Option.some Jvm.ClassFile.FieldType.int)).before args0 about1 = true := code_word (m := ⟨18, 3⟩) (meth := k18m3) (c := k18c3) (by decide +kernel) rfl rfl rfl (by decide +kernel)
set_option maxRecDepth 65536 in
theorem w_c37 : (Jvm.Cond.code ({ cls := "java/lang/StringUTF16", name := "coderFromArrayLen", desc := "([BI)B" } : Jvm.MethodName) jdk_52_method_15_code (2 : Nat) (Option.some Jvm.ClassFile.FieldType.byte)).before args0 about1 = true := code_word (m := ⟨18, 1⟩) (meth := k18m1) (c := k18c1) (by decide +kernel) rfl rfl rfl (by decide +kernel)
def codes1 : List Jvm.Cond := [Jvm.Cond.code x code maxLocals ret, Jvm.Cond.code ({ cls := "com/example/stateful_search/statefulsearch/session/SearchResultSummaryPinLaw", name := "mk", desc := "(ICC)Ljava/lang/String;" } : Jvm.MethodName) method_2_code (3 : Nat) (Option.some (Jvm.ClassFile.FieldType.object "java/lang/String")), Jvm.Cond.code ({ cls := "java/lang/String", name := "<init>", desc := "([C)V" } : Jvm.MethodName) jdk_42_method_3_code (2 : Nat) (Option.none : Option Jvm.ClassFile.FieldType), Jvm.Cond.code ({ cls := "java/lang/String", name := "<init>", desc := "([CIILjava/lang/Void;)V" } : Jvm.MethodName) jdk_42_method_149_code (6 : Nat) (Option.none : Option Jvm.ClassFile.FieldType), Jvm.Cond.code ({ cls := "java/lang/Object", name := "<init>", desc := "()V" } : Jvm.MethodName) object_method_1_code (1 : Nat) (Option.none : Option Jvm.ClassFile.FieldType), Jvm.Cond.code ({ cls := "com/example/stateful_search/statefulsearch/session/SearchResult", name := "<init>", desc := "(ILjava/lang/String;Ljava/lang/String;Ljava/lang/String;)V" } : Jvm.MethodName) prog_31_method_1_code (5 : Nat) (Option.none : Option Jvm.ClassFile.FieldType), Jvm.Cond.code ({ cls := "java/lang/Record", name := "<init>", desc := "()V" } : Jvm.MethodName) jdk_30_method_1_code (1 : Nat) (Option.none : Option Jvm.ClassFile.FieldType), Jvm.Cond.code ({ cls := "com/example/stateful_search/statefulsearch/session/SearchResult", name := "summary", desc := "()Ljava/lang/String;" } : Jvm.MethodName) prog_31_method_2_code (1 : Nat) (Option.some (Jvm.ClassFile.FieldType.object "java/lang/String")), Jvm.Cond.code ({ cls := "java/lang/StringBuilder", name := "<init>", desc := "()V" } : Jvm.MethodName) jdk_67_method_1_code (1 : Nat) (Option.none : Option Jvm.ClassFile.FieldType), Jvm.Cond.code ({ cls := "java/lang/AbstractStringBuilder", name := "<init>", desc := "(I)V" } : Jvm.MethodName) jdk_68_method_2_code (2 : Nat) (Option.none : Option Jvm.ClassFile.FieldType), Jvm.Cond.code ({ cls := "java/lang/StringBuilder", name := "append", desc := "(Ljava/lang/String;)Ljava/lang/StringBuilder;" } : Jvm.MethodName) jdk_67_method_7_code (2 : Nat) (Option.some (Jvm.ClassFile.FieldType.object "java/lang/StringBuilder")), Jvm.Cond.code ({ cls := "java/lang/AbstractStringBuilder", name := "append", desc := "(Ljava/lang/String;)Ljava/lang/AbstractStringBuilder;" } : Jvm.MethodName) jdk_68_method_22_code (3 : Nat) (Option.some (Jvm.ClassFile.FieldType.object "java/lang/AbstractStringBuilder")), Jvm.Cond.code ({ cls := "java/lang/String", name := "length", desc := "()I" } : Jvm.MethodName) jdk_42_method_54_code (1 : Nat) (Option.some Jvm.ClassFile.FieldType.int), Jvm.Cond.code ({ cls := "java/lang/String", name := "coder", desc := "()B" } : Jvm.MethodName) jdk_42_method_152_code (1 : Nat) (Option.some Jvm.ClassFile.FieldType.byte), Jvm.Cond.code ({ cls := "java/lang/AbstractStringBuilder", name := "ensureCapacityInternal", desc := "(I)V" } : Jvm.MethodName) jdk_68_method_9_code (3 : Nat) (Option.none : Option Jvm.ClassFile.FieldType), Jvm.Cond.code ({ cls := "java/lang/AbstractStringBuilder", name := "putStringAt", desc := "(ILjava/lang/String;)V" } : Jvm.MethodName) jdk_68_method_73_code (3 : Nat) (Option.none : Option Jvm.ClassFile.FieldType), Jvm.Cond.code ({ cls := "java/lang/AbstractStringBuilder", name := "inflateIfNeededFor", desc := "(Ljava/lang/String;)V" } : Jvm.MethodName) jdk_68_method_71_code (2 : Nat) (Option.none : Option Jvm.ClassFile.FieldType), Jvm.Cond.code ({ cls := "java/lang/String", name := "getBytes", desc := "([BIB)V" } : Jvm.MethodName) jdk_42_method_147_code (4 : Nat) (Option.none : Option Jvm.ClassFile.FieldType), Jvm.Cond.code ({ cls := "java/lang/StringBuilder", name := "toString", desc := "()Ljava/lang/String;" } : Jvm.MethodName) jdk_67_method_42_code (1 : Nat) (Option.some (Jvm.ClassFile.FieldType.object "java/lang/String")), Jvm.Cond.code ({ cls := "java/lang/String", name := "<init>", desc := "(Ljava/lang/StringBuilder;)V" } : Jvm.MethodName) jdk_42_method_53_code (2 : Nat) (Option.none : Option Jvm.ClassFile.FieldType), Jvm.Cond.code ({ cls := "java/lang/String", name := "<init>", desc := "(Ljava/lang/AbstractStringBuilder;Ljava/lang/Void;)V" } : Jvm.MethodName) jdk_42_method_150_code (5 : Nat) (Option.none : Option Jvm.ClassFile.FieldType), Jvm.Cond.code ({ cls := "java/lang/AbstractStringBuilder", name := "getValue", desc := "()[B" } : Jvm.MethodName) jdk_68_method_64_code (1 : Nat) (Option.some (Jvm.ClassFile.FieldType.array Jvm.ClassFile.FieldType.byte)), Jvm.Cond.code ({ cls := "java/lang/StringBuilder", name := "length", desc := "()I" } : Jvm.MethodName) jdk_67_method_93_code (1 : Nat) (Option.some Jvm.ClassFile.FieldType.int), Jvm.Cond.code ({ cls := "java/lang/AbstractStringBuilder", name := "length", desc := "()I" } : Jvm.MethodName) jdk_68_method_6_code (1 : Nat) (Option.some Jvm.ClassFile.FieldType.int), Jvm.Cond.code ({ cls := "java/lang/AbstractStringBuilder", name := "isLatin1", desc := "()Z" } : Jvm.MethodName) jdk_68_method_68_code (1 : Nat) (Option.some Jvm.ClassFile.FieldType.boolean), Jvm.Cond.code ({ cls := "java/util/Arrays", name := "copyOfRange", desc := "([BII)[B" } : Jvm.MethodName) jdk_65_method_132_code (3 : Nat) (Option.some (Jvm.ClassFile.FieldType.array Jvm.ClassFile.FieldType.byte)), Jvm.Cond.code ({ cls := "java/util/Arrays", name := "copyOfRangeByte", desc := "([BII)[B" } : Jvm.MethodName) jdk_65_method_133_code (5 : Nat) (Option.some (Jvm.ClassFile.FieldType.array Jvm.ClassFile.FieldType.byte)), Jvm.Cond.code ({ cls := "java/util/Arrays", name := "checkLength", desc := "(II)V" } : Jvm.MethodName) jdk_65_method_131_code (2 : Nat) (Option.none : Option Jvm.ClassFile.FieldType), Jvm.Cond.code ({ cls := "java/lang/Math", name := "min", desc := "(II)I" } : Jvm.MethodName) jdk_29_method_69_code (2 : Nat) (Option.some Jvm.ClassFile.FieldType.int), Jvm.Cond.code ({ cls := "com/example/stateful_search/statefulsearch/session/SearchResultSummaryPinLaw", name := "ok", desc := "(Ljava/lang/String;IICCCC)Z" } : Jvm.MethodName) method_3_code (8 : Nat) (Option.some Jvm.ClassFile.FieldType.boolean), Jvm.Cond.code ({ cls := "java/lang/String", name := "charAt", desc := "(I)C" } : Jvm.MethodName) jdk_42_method_56_code (2 : Nat) (Option.some Jvm.ClassFile.FieldType.char), Jvm.Cond.code ({ cls := "java/lang/String", name := "isLatin1", desc := "()Z" } : Jvm.MethodName) jdk_42_method_154_code (1 : Nat) (Option.some Jvm.ClassFile.FieldType.boolean), Jvm.Cond.code ({ cls := "java/lang/StringLatin1", name := "charAt", desc := "([BI)C" } : Jvm.MethodName) jdk_43_method_2_code (2 : Nat) (Option.some Jvm.ClassFile.FieldType.char), Jvm.Cond.code ({ cls := "java/lang/String", name := "checkIndex", desc := "(II)V" } : Jvm.MethodName) jdk_42_method_155_code (2 : Nat) (Option.none : Option Jvm.ClassFile.FieldType), Jvm.Cond.code ({ cls := "jdk/internal/util/Preconditions", name := "checkIndex", desc := "(IILjava/util/function/BiFunction;)I" } : Jvm.MethodName) jdk_41_method_11_code (3 : Nat) (Option.some Jvm.ClassFile.FieldType.int), Jvm.Cond.code ({ cls := "java/lang/StringUTF16", name := "compress", desc := "([CII)[B" } : Jvm.MethodName) jdk_52_method_16_code (6 : Nat) (Option.some (Jvm.ClassFile.FieldType.array Jvm.ClassFile.FieldType.byte)), Jvm.Cond.code ({ cls := "java/lang/StringUTF16", name := "compress", desc := "([CI[BII)I" } : Jvm.MethodName) jdk_52_method_21_code (7 : Nat) (Option.some Jvm.ClassFile.FieldType.int), Jvm.Cond.code ({ cls := "java/lang/StringUTF16", name := "coderFromArrayLen", desc := "([BI)B" } : Jvm.MethodName) jdk_52_method_15_code (2 : Nat) (Option.some Jvm.ClassFile.FieldType.byte)]
set_option maxRecDepth 65536 in
theorem codes_eq : words1.filter isCode = codes1 := rfl
theorem w_codes : ∀ c ∈ words1.filter isCode, c.before args0 about1 = true := by
  rw [codes_eq]
  intro c hc
  simp only [codes1, List.mem_cons, List.not_mem_nil, or_false] at hc
  rcases hc with rfl | rfl | rfl | rfl | rfl | rfl | rfl | rfl | rfl | rfl | rfl | rfl | rfl | rfl | rfl | rfl | rfl | rfl | rfl | rfl | rfl | rfl | rfl | rfl | rfl | rfl | rfl | rfl | rfl | rfl | rfl | rfl | rfl | rfl | rfl | rfl | rfl | rfl
  · exact w_c0
  · exact w_c1
  · exact w_c2
  · exact w_c3
  · exact w_c4
  · exact w_c5
  · exact w_c6
  · exact w_c7
  · exact w_c8
  · exact w_c9
  · exact w_c10
  · exact w_c11
  · exact w_c12
  · exact w_c13
  · exact w_c14
  · exact w_c15
  · exact w_c16
  · exact w_c17
  · exact w_c18
  · exact w_c19
  · exact w_c20
  · exact w_c21
  · exact w_c22
  · exact w_c23
  · exact w_c24
  · exact w_c25
  · exact w_c26
  · exact w_c27
  · exact w_c28
  · exact w_c29
  · exact w_c30
  · exact w_c31
  · exact w_c32
  · exact w_c33
  · exact w_c34
  · exact w_c35
  · exact w_c36
  · exact w_c37
set_option maxRecDepth 65536 in
theorem w_t1 : (words1.take 24).all (fun c => isCode c || c.before args0 about1) = true := by decide +kernel
set_option maxRecDepth 65536 in
theorem w_t2 : ((words1.drop 24).take 24).all (fun c => isCode c || c.before args0 about1) = true := by decide +kernel
set_option maxRecDepth 65536 in
theorem w_t3 : (((words1.drop 24).drop 24).take 24).all (fun c => isCode c || c.before args0 about1) = true := by decide +kernel
set_option maxRecDepth 65536 in
theorem w_t4 : ((((words1.drop 24).drop 24).drop 24).take 24).all (fun c => isCode c || c.before args0 about1) = true := by decide +kernel
set_option maxRecDepth 65536 in
theorem w_t5 : (((((words1.drop 24).drop 24).drop 24).drop 24).take 24).all (fun c => isCode c || c.before args0 about1) = true := by decide +kernel
set_option maxRecDepth 65536 in
theorem w_t6 : ((((((words1.drop 24).drop 24).drop 24).drop 24).drop 24).take 24).all (fun c => isCode c || c.before args0 about1) = true := by decide +kernel
set_option maxRecDepth 65536 in
theorem w_t7 : (((((((words1.drop 24).drop 24).drop 24).drop 24).drop 24).drop 24).take 24).all (fun c => isCode c || c.before args0 about1) = true := by decide +kernel
set_option maxRecDepth 65536 in
theorem w_t8 : ((((((((words1.drop 24).drop 24).drop 24).drop 24).drop 24).drop 24).drop 24).take 24).all (fun c => isCode c || c.before args0 about1) = true := by decide +kernel
set_option maxRecDepth 65536 in
theorem w_t9 : ((((((((words1.drop 24).drop 24).drop 24).drop 24).drop 24).drop 24).drop 24).drop 24).all (fun c => isCode c || c.before args0 about1) = true := by decide +kernel
theorem w_tables : (allAtoms (Jvm.Cond.code x code maxLocals ret :: tables_1)).before args0 about1 = true := by
  rw [allAtoms_all]
  show words1.all (fun c => c.before args0 about1) = true
  refine all_split ?_ w_codes
  rw [← List.take_append_drop 24 words1, List.all_append, w_t1, ← List.take_append_drop 24 (words1.drop 24), List.all_append, w_t2, ← List.take_append_drop 24 ((words1.drop 24).drop 24), List.all_append, w_t3, ← List.take_append_drop 24 (((words1.drop 24).drop 24).drop 24), List.all_append, w_t4, ← List.take_append_drop 24 ((((words1.drop 24).drop 24).drop 24).drop 24), List.all_append, w_t5, ← List.take_append_drop 24 (((((words1.drop 24).drop 24).drop 24).drop 24).drop 24), List.all_append, w_t6, ← List.take_append_drop 24 ((((((words1.drop 24).drop 24).drop 24).drop 24).drop 24).drop 24), List.all_append, w_t7, ← List.take_append_drop 24 (((((((words1.drop 24).drop 24).drop 24).drop 24).drop 24).drop 24).drop 24), List.all_append, w_t8, w_t9]
  rfl
set_option maxRecDepth 65536 in
theorem w_rest : rest_1_c.before args0 about1 = true := by decide +kernel
set_option maxRecDepth 65536 in
theorem w_case : (Jvm.Cond.and given_1 narrow_1).before args0 about1 = true := by decide +kernel
set_option maxRecDepth 65536 in
theorem w_consts : constsHeld consts_1 about1 := Jvm.Lit.constsHeldB_iff.mp (by decide +kernel)
theorem w_applies : (headSpec (Jvm.Cond.code x code maxLocals ret :: tables_1) room_1).applies x e0.platform about1 = true :=
  (Spec.applies_iff w_frames).mpr ⟨w_running, w_runnable, w_alone, w_named, w_hears, w_ripe, w_room, w_tables⟩
theorem atStart : AtStart classFile x code maxLocals ret World_1 tables_1 room_1 Calls_1 rest_1 Pre_1 launch0 p0 e0 about1 theMethod args0 below0 :=
  ⟨lists_1, trivial, launch0.admits_env _ _ _, launch0.least_env, fairChoices_fair.cas, fairChoices_fair.clock, w_frames, w_args, w_heap, w_applies, ⟨w_consts, trivial⟩, w_rest, w_case⟩
end start1
theorem witness_1 : WitnessClaimed_1 := ⟨start1.p0, start1.e0, start1.about1, start1.theMethod, start1.args0, start1.below0, start1.atStart⟩
end Jvm.Pilot.@@N@@
