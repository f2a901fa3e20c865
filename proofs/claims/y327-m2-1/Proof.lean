import JvmDerived
import JvmDerived.Pilot.@@N@@Statement
import JvmDerived.Pilot.@@N@@Code
set_option linter.unusedVariables false
set_option linter.unusedSimpArgs false
/- laws to paste: Road.backV, Road.eqW, Road.lenW, Road.chN, Road.codOf (cut by pick.py; bodies as the Statement names them) -/
namespace Jvm.Pilot.@@N@@
namespace StrChars
open Jvm Sem ClassFile Op Lib Jvm.Stand Jvm.Free.XT Jvm.Free.ALB Jvm.Free.JM Jvm.Free
open Jvm.Lib.Cold (StaticIs)
/-- a char array whose places are chars -/
def Ch (a : Addr) (A : Cell) (U : State) : Prop := Arr .char a A U ∧ Typed .char A
theorem Ch.mv {a : Addr} {A : Cell} {U U' : State} (h : Ch a A U) (hal : U.vm.Alike U'.vm) (hh : U'.heap = U.heap) : Ch a A U' := ⟨h.1.mv hal hh, h.2⟩
theorem Ch.keep {a : Addr} {A : Cell} {U U' : State} (h : Ch a A U) (hal : U.vm.Alike U'.vm) (hk : U'.heap[a]? = some A) : Ch a A U' := ⟨h.1.keep hal hk, h.2⟩
/-- what place i of a char[]'s cell holds -/
def cv (A : Cell) (i : Nat) : Int32 := match A.slots[i]? with | some (.int x) => x | _ => 0
theorem Ch.get {a : Addr} {A : Cell} {U : State} (h : Ch a A U) {i : Nat} (hi : i < A.slots.size) : A.slots[i]? = some (.int (cv A i)) := by
  have e := Array.getElem?_eq_getElem hi
  have f := h.2 i _ e
  unfold cv; rw [e]
  generalize A.slots[i] = v at f
  cases v <;> simp [fits] at f ⊢
/-- the byte that i2b leaves of a char -/
def lo8 (x : Int32) : Int32 := x.toInt8.toInt32
theorem fits_lo8 (y : Int32) : fits .byte (.int (lo8 y)) = true := by
  have h1 := y.toInt8.le_toInt
  have h2 := y.toInt8.toInt_lt
  simp only [lo8, fits, Bool.and_eq_true, decide_eq_true_eq, Int32.le_iff_toInt_le, Int8.toInt_toInt32, show (-128 : Int32).toInt = -128 from by decide, show (127 : Int32).toInt = 127 from by decide]
  omega
/-- A' is A but that each place j of lo .. hi - 1 holds f j -/
def Laid (A A' : Cell) (lo hi : Nat) (f : Nat → Value) : Prop := A'.cls = A.cls ∧ A'.vm = A.vm ∧ A'.slots.size = A.slots.size ∧ ∀ i, A'.slots[i]? = if lo ≤ i ∧ i < hi then some (f i) else A.slots[i]?
theorem Laid.zero (A : Cell) (lo : Nat) (f : Nat → Value) : Laid A A lo (lo + 0) f := ⟨rfl, rfl, rfl, fun i => by rw [if_neg (by omega)]⟩
theorem Laid.step {A Ak : Cell} {lo k : Nat} {f : Nat → Value} {v : Value} (h : Laid A Ak lo k f) (hlo : lo ≤ k) (hk : k < Ak.slots.size) (hv : v = f k) : Laid A (Ak.setSlot k v) lo (k + 1) f := by
  refine ⟨h.1, h.2.1, by simpa [Cell.setSlot] using h.2.2.1, fun i => ?_⟩
  by_cases e : k = i
  · subst e; rw [Cell.slots_setSlot_self v hk, if_pos (by omega), hv]
  · rw [Cell.slots_setSlot_ne v e, h.2.2.2 i]
    by_cases q : lo ≤ i ∧ i < k
    · rw [if_pos q, if_pos (by omega)]
    · rw [if_neg q, if_neg (by omega)]
def U16 : String := "java/lang/StringUTF16"
namespace Cmp5
def yN : MethodName := ⟨"java/lang/StringUTF16", "compress", "([CI[BII)I"⟩
abbrev yB : ByteArray := jdk_52_method_21_code
theorem d0 : decode yB 0 = .ok (.iconst 0, 1) := by decide +kernel
theorem d1 : decode yB 1 = .ok (.istore 5, 2) := by decide +kernel
theorem d3 : decode yB 3 = .ok (.iload 5, 2) := by decide +kernel
theorem d5 : decode yB 5 = .ok (.iload 4, 2) := by decide +kernel
theorem d7 : decode yB 7 = .ok (.if_icmp (.ge) 37, 3) := by decide +kernel
theorem d10 : decode yB 10 = .ok (.aload_n 0, 1) := by decide +kernel
theorem d11 : decode yB 11 = .ok (.iload_n 1, 1) := by decide +kernel
theorem d12 : decode yB 12 = .ok (.caload, 1) := by decide +kernel
theorem d13 : decode yB 13 = .ok (.istore 6, 2) := by decide +kernel
theorem d15 : decode yB 15 = .ok (.iload 6, 2) := by decide +kernel
theorem d17 : decode yB 17 = .ok (.sipush 255, 3) := by decide +kernel
theorem d20 : decode yB 20 = .ok (.if_icmp (.le) 6, 3) := by decide +kernel
theorem d26 : decode yB 26 = .ok (.aload_n 2, 1) := by decide +kernel
theorem d27 : decode yB 27 = .ok (.iload_n 3, 1) := by decide +kernel
theorem d28 : decode yB 28 = .ok (.iload 6, 2) := by decide +kernel
theorem d30 : decode yB 30 = .ok (.i2b, 1) := by decide +kernel
theorem d31 : decode yB 31 = .ok (.bastore, 1) := by decide +kernel
theorem d32 : decode yB 32 = .ok (.iinc 1 1, 3) := by decide +kernel
theorem d35 : decode yB 35 = .ok (.iinc 3 1, 3) := by decide +kernel
theorem d38 : decode yB 38 = .ok (.iinc 5 1, 3) := by decide +kernel
theorem d41 : decode yB 41 = .ok (.goto (-38), 3) := by decide +kernel
theorem d44 : decode yB 44 = .ok (.iload 4, 2) := by decide +kernel
theorem d46 : decode yB 46 = .ok (.ireturn, 1) := by decide +kernel
def site : List Cond := []
def tab : Cond := tabOf yN yB 7 (some .int) site
def P (b : Addr) (A : Cell) (d : Addr) (B : Cell) (o q len : Nat) (args : Array Value) (s : State) : Prop := args = #[.ref b, .int (Int32.ofNat o), .ref d, .int (Int32.ofNat q), .int (Int32.ofNat len)] ∧ Ch b A s ∧ Arr .byte d B s ∧ b ≠ d ∧ o + len ≤ A.slots.size ∧ q + len ≤ B.slots.size ∧ ∀ i, i < len → ¬ 255 < cv A (o + i)
def E (b : Addr) (A : Cell) (d : Addr) (B : Cell) (o q len : Nat) (r : Option Value) (s u : State) : Prop := r = some (.int (Int32.ofNat len)) ∧ ∃ B', Put d B' s u ∧ Laid B B' q (q + len) (fun j => Value.int (lo8 (cv A (o + (j - q)))))
/-- no char of the range above 255: len; the places written hold each char's low byte -/
theorem law (l : Launch) (b : Addr) (A : Cell) (d : Addr) (B : Cell) (o q len : Nat) : Law l yN 5 5 0 0 yB 7 (some .int) site (P b A d B o q len) (E b A d B o q len) (copyLocs d q len) 0 0 := by
  refine Law.of_walk (plainFor_of_name (by decide +kernel)) (by decide +kernel) (by decide +kernel) (by decide) (fun _ _ h => by rw [h.1]; rfl) (fun _ U U' hal hh h => ⟨h.1, h.2.1.mv hal hh, h.2.2.1.mv hal hh, h.2.2.2⟩) (fun r U U' V V' h1 hal h2 h => ⟨h.1, h.2.elim fun B' q => ⟨B', q.1.mv h1 h2, q.2⟩⟩) ?_
  intro p e s m args below meth c s₁ X0 hexec hbytes hml hret hlk hnm hown hh0 W hP
  obtain ⟨rfl, hA, hB, hne, l1, l2, hp⟩ := hP
  have c1 : Steps p.tables e below (s₁.setTop (entryFrame m #[.ref b, .int (Int32.ofNat o), .ref d, .int (Int32.ofNat q), .int (Int32.ofNat len)] 7)) (s₁.setTop (mkF m 0 #[.val (.ref b), .val (.int (Int32.ofNat o)), .val (.ref d), .val (.int (Int32.ofNat q)), .val (.int (Int32.ofNat len)), .unset, .unset] [])) := entry rfl
  have hA0 := hA.1.mv X0.warmed.alike hh0
  have hB0 := hB.mv X0.warmed.alike hh0
  have a31 := hA.1.2.2.2
  have c2 : Steps p.tables e below (s₁.setTop (entryFrame m #[.ref b, .int (Int32.ofNat o), .ref d, .int (Int32.ofNat q), .int (Int32.ofNat len)] 7)) (s₁.setTop (mkF m 3 #[.val (.ref b), .val (.int (Int32.ofNat o)), .val (.ref d), .val (.int (Int32.ofNat q)), .val (.int (Int32.ofNat len)), .val (.int 0), .unset] [])) := c1.trans (by
    refine iconstV X0.here hexec rfl 0 (hb hbytes d0) (by decide) ?_
    refine XS.istore X0.here hexec rfl (hb hbytes d1) rfl rfl ?_
    exact Steps.refl _)
  have loop : ∀ (r i : Nat), i + r = len → ∀ (z : Slot), (z = .unset ∨ ∃ w, z = .val w ∧ w.category = 1) → ∀ (Tl : State) (Bk : Cell), Stand p l e { frames := 0, locals := 0, cells := 0, slots := 0 } s m #[.ref b, .int (Int32.ofNat o), .ref d, .int (Int32.ofNat q), .int (Int32.ofNat len)] below meth c Tl ([] ++ copyLocs d q i) 0 0 → Put d Bk s₁ Tl → Laid B Bk q (q + i) (fun j => Value.int (lo8 (cv A (o + (j - q))))) →
      Steps p.tables e below (s₁.setTop (entryFrame m #[.ref b, .int (Int32.ofNat o), .ref d, .int (Int32.ofNat q), .int (Int32.ofNat len)] 7)) (Tl.setTop (mkF m 3 #[.val (.ref b), .val (.int (Int32.ofNat (o + i))), .val (.ref d), .val (.int (Int32.ofNat (q + i))), .val (.int (Int32.ofNat len)), .val (.int (Int32.ofNat i)), z] [])) → ∃ (T' : State) (B' : Cell) (z' : Slot), Stand p l e { frames := 0, locals := 0, cells := 0, slots := 0 } s m #[.ref b, .int (Int32.ofNat o), .ref d, .int (Int32.ofNat q), .int (Int32.ofNat len)] below meth c T' ([] ++ copyLocs d q len) 0 0 ∧ Put d B' s₁ T' ∧ Laid B B' q (q + len) (fun j => Value.int (lo8 (cv A (o + (j - q))))) ∧
      Steps p.tables e below (s₁.setTop (entryFrame m #[.ref b, .int (Int32.ofNat o), .ref d, .int (Int32.ofNat q), .int (Int32.ofNat len)] 7)) (T'.setTop (mkF m 3 #[.val (.ref b), .val (.int (Int32.ofNat (o + len))), .val (.ref d), .val (.int (Int32.ofNat (q + len))), .val (.int (Int32.ofNat len)), .val (.int (Int32.ofNat len)), z'] [])) := by
    intro r
    induction r with
    | zero =>
      intro i hi z hz Tl Bk Xl pl fl cl
      have hil : i = len := by omega
      rw [hil] at Xl fl cl
      exact ⟨Tl, Bk, z, Xl, pl, fl, cl⟩
    | succ r ih =>
      intro i hi z hz Tl Bk Xl pl fl cl
      have all := X0.warmed.alike.symm.trans Xl.warmed.alike
      have hAl := hA0.keep all (pl.other hne hA0.1)
      have hBk := hB0.like all pl.1 fl.1 fl.2.1 fl.2.2.1
      have hlt : q + i < Bk.slots.size := by rw [fl.2.2.1]; omega
      have c3 : Steps p.tables e below (s₁.setTop (entryFrame m #[.ref b, .int (Int32.ofNat o), .ref d, .int (Int32.ofNat q), .int (Int32.ofNat len)] 7)) (Tl.setTop (mkF m 12 #[.val (.ref b), .val (.int (Int32.ofNat (o + i))), .val (.ref d), .val (.int (Int32.ofNat (q + i))), .val (.int (Int32.ofNat len)), .val (.int (Int32.ofNat i)), z] [.int (Int32.ofNat (o + i)), .ref b])) := cl.trans (by
        refine XS.iload Xl.here hexec rfl (hb hbytes d3) rfl ?_
        refine XS.iload Xl.here hexec rfl (hb hbytes d5) rfl ?_
        refine XS.icmpNo Xl.here hexec rfl (hb hbytes d7) rfl (ii_ge_f (lt32 (by omega) (by omega))) ?_
        refine XS.aloadN Xl.here hexec rfl (hb hbytes d10) rfl rfl ?_
        refine XS.iloadN Xl.here hexec rfl (hb hbytes d11) rfl ?_
        exact Steps.refl _)
      have c4 : Steps p.tables e below (s₁.setTop (entryFrame m #[.ref b, .int (Int32.ofNat o), .ref d, .int (Int32.ofNat q), .int (Int32.ofNat len)] 7)) (Tl.setTop (mkF m 13 #[.val (.ref b), .val (.int (Int32.ofNat (o + i))), .val (.ref d), .val (.int (Int32.ofNat (q + i))), .val (.int (Int32.ofNat len)), .val (.int (Int32.ofNat i)), z] [.int (cv A (o + i))])) := c3.trans (by
        refine Xl.aget hexec hAl rfl (hA.get (i := o + i) (by omega)) rfl rfl (hb hbytes d12) ?_
        exact Steps.refl _)
      have c5 : Steps p.tables e below (s₁.setTop (entryFrame m #[.ref b, .int (Int32.ofNat o), .ref d, .int (Int32.ofNat q), .int (Int32.ofNat len)] 7)) (Tl.setTop (mkF m 15 #[.val (.ref b), .val (.int (Int32.ofNat (o + i))), .val (.ref d), .val (.int (Int32.ofNat (q + i))), .val (.int (Int32.ofNat len)), .val (.int (Int32.ofNat i)), .val (.int (cv A (o + i)))] [])) := c4.trans (by
        refine XS.istoreS Xl.here hexec rfl (hb hbytes d13) rfl rfl hz ?_
        exact Steps.refl _)
      have c6 : Steps p.tables e below (s₁.setTop (entryFrame m #[.ref b, .int (Int32.ofNat o), .ref d, .int (Int32.ofNat q), .int (Int32.ofNat len)] 7)) (Tl.setTop (mkF m 31 #[.val (.ref b), .val (.int (Int32.ofNat (o + i))), .val (.ref d), .val (.int (Int32.ofNat (q + i))), .val (.int (Int32.ofNat len)), .val (.int (Int32.ofNat i)), .val (.int (cv A (o + i)))] [.int (lo8 (cv A (o + i))), .int (Int32.ofNat (q + i)), .ref d])) := c5.trans (by
        refine XS.iload Xl.here hexec rfl (hb hbytes d15) rfl ?_
        refine sipushV Xl.here hexec rfl 255 (hb hbytes d17) (by decide) ?_
        refine XS.icmpYes Xl.here hexec rfl (pc0 := 20) rfl (hb hbytes d20) rfl (ii_le_t (hp i (by omega))) (by decide) rfl ?_
        refine XS.aloadN Xl.here hexec rfl (hb hbytes d26) rfl rfl ?_
        refine XS.iloadN Xl.here hexec rfl (hb hbytes d27) rfl ?_
        refine XS.iload Xl.here hexec rfl (hb hbytes d28) rfl ?_
        refine i2b Xl.here hexec rfl (hb hbytes d30) rfl ?_
        exact Steps.refl _)
      obtain ⟨T7, X7, p7, st7⟩ := Xl.aput hexec hBk rfl hlt rfl (fits_lo8 (cv A (o + i))) (g := (mkF m 31 #[.val (.ref b), .val (.int (Int32.ofNat (o + i))), .val (.ref d), .val (.int (Int32.ofNat (q + i))), .val (.int (Int32.ofNat len)), .val (.int (Int32.ofNat i)), .val (.int (cv A (o + i)))] [.int (lo8 (cv A (o + i))), .int (Int32.ofNat (q + i)), .ref d])) rfl (rest := []) rfl (hb hbytes d31)
      have c8 : Steps p.tables e below (s₁.setTop (entryFrame m #[.ref b, .int (Int32.ofNat o), .ref d, .int (Int32.ofNat q), .int (Int32.ofNat len)] 7)) (T7.setTop (mkF m 32 #[.val (.ref b), .val (.int (Int32.ofNat (o + i))), .val (.ref d), .val (.int (Int32.ofNat (q + i))), .val (.int (Int32.ofNat len)), .val (.int (Int32.ofNat i)), .val (.int (cv A (o + i)))] [])) := c6.trans (st7 _ (Steps.refl _))
      have c9 : Steps p.tables e below (s₁.setTop (entryFrame m #[.ref b, .int (Int32.ofNat o), .ref d, .int (Int32.ofNat q), .int (Int32.ofNat len)] 7)) (T7.setTop (mkF m 3 #[.val (.ref b), .val (.int (Int32.ofNat (o + i) + 1)), .val (.ref d), .val (.int (Int32.ofNat (q + i) + 1)), .val (.int (Int32.ofNat len)), .val (.int (Int32.ofNat i + 1)), .val (.int (cv A (o + i)))] [])) := c8.trans (by
        refine iincV X7.here hexec rfl 1 (hb hbytes d32) (by decide) rfl rfl ?_
        refine iincV X7.here hexec rfl 1 (hb hbytes d35) (by decide) rfl rfl ?_
        refine iincV X7.here hexec rfl 1 (hb hbytes d38) (by decide) rfl rfl ?_
        refine XS.goto X7.here hexec rfl (pc0 := 41) rfl (hb hbytes d41) (by decide) rfl ?_
        exact Steps.refl _)
      have c10 : Steps p.tables e below (s₁.setTop (entryFrame m #[.ref b, .int (Int32.ofNat o), .ref d, .int (Int32.ofNat q), .int (Int32.ofNat len)] 7)) (T7.setTop (mkF m 3 #[.val (.ref b), .val (.int (Int32.ofNat (o + (i + 1)))), .val (.ref d), .val (.int (Int32.ofNat (q + (i + 1)))), .val (.int (Int32.ofNat len)), .val (.int (Int32.ofNat (i + 1))), .val (.int (cv A (o + i)))] [])) := by
        have := c9
        rw [succ32, succ32, succ32] at this
        exact this
      exact ih (i + 1) (by omega) _ (Or.inr ⟨_, rfl, rfl⟩) T7 _ (by rw [copyLocs_step, ← List.append_assoc]; exact X7) (pl.trans p7) (fl.step (by omega) hlt (by simp)) c10
  obtain ⟨T9, B9, z9, X9, p9, f9, g9⟩ := loop len 0 (by omega) .unset (Or.inl rfl) s₁ B (by simpa [copyLocs] using X0) ⟨hB0.1, fun _ _ => rfl, rfl⟩ (Laid.zero _ _ _) c2
  have c11 : Steps p.tables e below (s₁.setTop (entryFrame m #[.ref b, .int (Int32.ofNat o), .ref d, .int (Int32.ofNat q), .int (Int32.ofNat len)] 7)) (T9.setTop (mkF m 46 #[.val (.ref b), .val (.int (Int32.ofNat (o + len))), .val (.ref d), .val (.int (Int32.ofNat (q + len))), .val (.int (Int32.ofNat len)), .val (.int (Int32.ofNat len)), z9] [.int (Int32.ofNat len)])) := g9.trans (by
    refine XS.iload X9.here hexec rfl (hb hbytes d3) rfl ?_
    refine XS.iload X9.here hexec rfl (hb hbytes d5) rfl ?_
    refine XS.icmpYes X9.here hexec rfl (pc0 := 7) rfl (hb hbytes d7) rfl (ii_ge_t (nlt32 (by omega) (Nat.le_refl _))) (by decide) rfl ?_
    refine XS.iload X9.here hexec rfl (hb hbytes d44) rfl ?_
    exact Steps.refl _)
  exact ⟨T9, some (.int (Int32.ofNat len)), _, _, _, X9, by simp, rfl, rfl, (fun h => by cases h), ⟨rfl, B9, p9.from hh0, f9⟩, fun fs hl => c11.trans (X9.ireturnOut hexec hret rfl (Or.inl rfl) (hb hbytes d46) hl)⟩
end Cmp5
namespace Cmp3
def yN : MethodName := ⟨"java/lang/StringUTF16", "compress", "([CII)[B"⟩
abbrev yB : ByteArray := jdk_52_method_16_code
theorem d0 : decode yB 0 = .ok (.iload_n 2, 1) := by decide +kernel
theorem d1 : decode yB 1 = .ok (.newarray .byte, 2) := by decide +kernel
theorem d3 : decode yB 3 = .ok (.astore_n 3, 1) := by decide +kernel
theorem d4 : decode yB 4 = .ok (.aload_n 0, 1) := by decide +kernel
theorem d5 : decode yB 5 = .ok (.iload_n 1, 1) := by decide +kernel
theorem d6 : decode yB 6 = .ok (.aload_n 3, 1) := by decide +kernel
theorem d7 : decode yB 7 = .ok (.iconst 0, 1) := by decide +kernel
theorem d8 : decode yB 8 = .ok (.iload_n 2, 1) := by decide +kernel
theorem d9 : decode yB 9 = .ok (.invokestatic 115, 3) := by decide +kernel
theorem d12 : decode yB 12 = .ok (.istore 4, 2) := by decide +kernel
theorem d14 : decode yB 14 = .ok (.iload 4, 2) := by decide +kernel
theorem d16 : decode yB 16 = .ok (.iload_n 2, 1) := by decide +kernel
theorem d17 : decode yB 17 = .ok (.if_icmp (.eq) 40, 3) := by decide +kernel
theorem d57 : decode yB 57 = .ok (.aload_n 3, 1) := by decide +kernel
theorem d58 : decode yB 58 = .ok (.areturn, 1) := by decide +kernel
def site : List Cond := [.arrayClass .byte, Cmp5.tab] ++ staticW U16 115 Cmp5.yN
def tab : Cond := tabOf yN yB 6 (some (.array .byte)) site
def P (b : Addr) (A : Cell) (o len : Nat) (args : Array Value) (s : State) : Prop := args = #[.ref b, .int (Int32.ofNat o), .int (Int32.ofNat len)] ∧ Ch b A s ∧ o + len ≤ A.slots.size ∧ len ≤ 536870912 ∧ ∀ i, i < len → ¬ 255 < cv A (o + i)
def E (b : Addr) (A : Cell) (o len : Nat) (r : Option Value) (s u : State) : Prop := NewArr .byte "[B" len (fun j => .int (lo8 (cv A (o + j)))) r s u ∧ u.heap.size = s.heap.size + 1
/-- no char of the range above 255: a new byte[] of their low bytes -/
theorem law (l : Launch) (b : Addr) (A : Cell) (o len : Nat) : Law l yN 3 3 1 18 yB 6 (some (.array .byte)) site (P b A o len) (E b A o len) [] 1 len := by
  refine Law.of_walk (plainFor_of_name (by decide +kernel)) (by decide +kernel) (by decide +kernel) (by decide) (fun _ _ h => by rw [h.1]; rfl) (fun _ U U' hal hh h => ⟨h.1, h.2.1.mv hal hh, h.2.2⟩) (fun r U U' V V' h1 hal h2 h => ⟨NewArr.mv r U U' V V' h1 hal h2 h.1, by rw [h1, h2]; exact h.2⟩) ?_
  intro p e s m args below meth c s₁ X0 hexec hbytes hml hret hlk hnm hown hh0 W hP
  obtain ⟨rfl, hA, l1, l2, hp⟩ := hP
  have a31 := hA.1.2.2.2
  have c1 : Steps p.tables e below (s₁.setTop (entryFrame m #[.ref b, .int (Int32.ofNat o), .int (Int32.ofNat len)] 6)) (s₁.setTop (mkF m 0 #[.val (.ref b), .val (.int (Int32.ofNat o)), .val (.int (Int32.ofNat len)), .unset, .unset, .unset] [])) := entry rfl
  have c2 : Steps p.tables e below (s₁.setTop (entryFrame m #[.ref b, .int (Int32.ofNat o), .int (Int32.ofNat len)] 6)) (s₁.setTop (mkF m 1 #[.val (.ref b), .val (.int (Int32.ofNat o)), .val (.int (Int32.ofNat len)), .unset, .unset, .unset] [.int (Int32.ofNat len)])) := c1.trans (by
    refine XS.iloadN X0.here hexec rfl (hb hbytes d0) rfl ?_
    exact Steps.refl _)
  obtain ⟨T3, B3, X3, ba3, bs3, bv3, bh3, bf3, st3⟩ := X0.anew hexec (atype := .byte) (wk W (.arrayClass .byte)) rfl (by show len * 1 ≤ _; omega) (by omega) (g := (mkF m 1 #[.val (.ref b), .val (.int (Int32.ofNat o)), .val (.int (Int32.ofNat len)), .unset, .unset, .unset] [.int (Int32.ofNat len)])) rfl (hb hbytes d1) (rest := []) rfl (Nat.le_refl _) (by show 0 + len ≤ len; omega)
  rw [hh0] at ba3 st3
  have kp3 : XT.Kept s T3 := (XT.Kept.of_eq hh0).push bh3
  have hA3 := hA.keep X3.warmed.alike (kp3 _ _ hA.1.1)
  have hne : b ≠ s.heap.size := hA.1.ne
  have c4 : Steps p.tables e below (s₁.setTop (entryFrame m #[.ref b, .int (Int32.ofNat o), .int (Int32.ofNat len)] 6)) (T3.setTop (mkF m 3 #[.val (.ref b), .val (.int (Int32.ofNat o)), .val (.int (Int32.ofNat len)), .unset, .unset, .unset] [.ref s.heap.size])) := c2.trans (st3 _ (Steps.refl _))
  have c5 : Steps p.tables e below (s₁.setTop (entryFrame m #[.ref b, .int (Int32.ofNat o), .int (Int32.ofNat len)] 6)) (T3.setTop (mkF m 9 #[.val (.ref b), .val (.int (Int32.ofNat o)), .val (.int (Int32.ofNat len)), .val (.ref s.heap.size), .unset, .unset] [.int (Int32.ofNat len), .int 0, .ref s.heap.size, .int (Int32.ofNat o), .ref b])) := c4.trans (by
    refine XS.astoreN X3.here hexec rfl (hb hbytes d3) rfl rfl rfl ?_
    refine XS.aloadN X3.here hexec rfl (hb hbytes d4) rfl rfl ?_
    refine XS.iloadN X3.here hexec rfl (hb hbytes d5) rfl ?_
    refine XS.aloadN X3.here hexec rfl (hb hbytes d6) rfl rfl ?_
    refine iconstV X3.here hexec rfl 0 (hb hbytes d7) (by decide) ?_
    refine XS.iloadN X3.here hexec rfl (hb hbytes d8) rfl ?_
    exact Steps.refl _)
  obtain ⟨v6, T6, X6, E6, g6⟩ := X3.callS hexec (Cmp5.law l b A s.heap.size B3 o 0 len) hown (wks W (staticW U16 115 Cmp5.yN)) (wk W Cmp5.tab) (W := 0) (Nat.le_of_ble_eq_true rfl) (Nat.le_of_ble_eq_true rfl) (Nat.le_refl _) (by show 0 + len + 0 ≤ len; omega) (g := (mkF m 9 #[.val (.ref b), .val (.int (Int32.ofNat o)), .val (.int (Int32.ofNat len)), .val (.ref s.heap.size), .unset, .unset] [.int (Int32.ofNat len), .int (Int32.ofNat 0), .ref s.heap.size, .int (Int32.ofNat o), .ref b])) rfl (by rw [hml]; rfl) c5 (argsL := [.ref b, .int (Int32.ofNat o), .ref s.heap.size, .int (Int32.ofNat 0), .int (Int32.ofNat len)]) (rest := []) rfl rfl (by show 2 * 0 + 0 ≤ _; decide) (hb hbytes d9) (⟨rfl, hA3, ba3, hne, l1, by rw [bs3]; simp, hp⟩)
  obtain ⟨rfl, B6, p6, f6⟩ := E6
  have c7 : Steps p.tables e below (s₁.setTop (entryFrame m #[.ref b, .int (Int32.ofNat o), .int (Int32.ofNat len)] 6)) (T6.setTop (mkF m 12 #[.val (.ref b), .val (.int (Int32.ofNat o)), .val (.int (Int32.ofNat len)), .val (.ref s.heap.size), .unset, .unset] [.int (Int32.ofNat len)])) := g6
  have c8 : Steps p.tables e below (s₁.setTop (entryFrame m #[.ref b, .int (Int32.ofNat o), .int (Int32.ofNat len)] 6)) (T6.setTop (mkF m 58 #[.val (.ref b), .val (.int (Int32.ofNat o)), .val (.int (Int32.ofNat len)), .val (.ref s.heap.size), .val (.int (Int32.ofNat len)), .unset] [.ref s.heap.size])) := c7.trans (by
    refine XS.istore X6.here hexec rfl (hb hbytes d12) rfl rfl ?_
    refine XS.iload X6.here hexec rfl (hb hbytes d14) rfl ?_
    refine XS.iloadN X6.here hexec rfl (hb hbytes d16) rfl ?_
    refine XS.icmpYes X6.here hexec rfl (pc0 := 17) rfl (hb hbytes d17) rfl (ii_eq_t rfl) (by decide) rfl ?_
    refine XS.aloadN X6.here hexec rfl (hb hbytes d57) rfl rfl ?_
    exact Steps.refl _)
  have X8 := X6.wide (L' := []) (cells' := 1) (slots' := len) (fun x hx hlt => by
    simp only [List.nil_append, copyLocs, List.mem_map, List.mem_range] at hx
    obtain ⟨i, -, rfl⟩ := hx
    exact absurd hlt (Nat.lt_irrefl _)) (Nat.le_refl _) (by omega)
  exact ⟨T6, some (.ref s.heap.size), _, _, _, X8, rfl, rfl, rfl, (fun h => by cases h), ⟨⟨rfl, B6, ba3.like (X3.warmed.alike.symm.trans X6.warmed.alike) p6.1 f6.1 f6.2.1 f6.2.2.1, f6.2.1.trans bv3, by rw [X6.warmed.alike.findClass, f6.1]; exact bf3, by rw [f6.2.2.1, bs3]; simp, fun j hj => by rw [f6.2.2.2 j, if_pos (by omega)]; rfl, kp3.put p6 (Nat.le_refl _)⟩, by rw [p6.2.2, bh3, hh0]; simp⟩, fun fs hl => c8.trans (X8.areturnOut hexec rfl hret rfl (hb hbytes d58) hl)⟩
end Cmp3
namespace CodL
def yN : MethodName := ⟨"java/lang/StringUTF16", "coderFromArrayLen", "([BI)B"⟩
abbrev yB : ByteArray := jdk_52_method_15_code
theorem d0 : decode yB 0 = .ok (.iload_n 1, 1) := by decide +kernel
theorem d1 : decode yB 1 = .ok (.aload_n 0, 1) := by decide +kernel
theorem d2 : decode yB 2 = .ok (.arraylength, 1) := by decide +kernel
theorem d3 : decode yB 3 = .ok (.isub, 1) := by decide +kernel
theorem d4 : decode yB 4 = .ok (.bipush 31, 2) := by decide +kernel
theorem d6 : decode yB 6 = .ok (.iushr, 1) := by decide +kernel
theorem d7 : decode yB 7 = .ok (.i2b, 1) := by decide +kernel
theorem d8 : decode yB 8 = .ok (.ireturn, 1) := by decide +kernel
def site : List Cond := []
def tab : Cond := tabOf yN yB 2 (some .byte) site
def P (d : Addr) (B : Cell) (args : Array Value) (s : State) : Prop := args = #[.ref d, .int (Int32.ofNat B.slots.size)] ∧ Arr .byte d B s
def E (r : Option Value) (s u : State) : Prop := XT.PureE (some (.int 0)) r s u
/-- an array as long as the number of chars: LATIN1 -/
theorem law (l : Launch) (d : Addr) (B : Cell) : Law l yN 2 2 0 0 yB 2 (some .byte) site (P d B) E [] 0 0 := by
  refine Law.of_walk (plainFor_of_name (by decide +kernel)) (by decide +kernel) (by decide +kernel) (by decide) (fun _ _ h => by rw [h.1]; rfl) (fun _ U U' hal hh h => ⟨h.1, h.2.mv hal hh⟩) (fun r U U' V V' h1 hal h2 h => XT.PureE.mv r U U' V V' h1 hal h2 h) ?_
  intro p e s m args below meth c s₁ X0 hexec hbytes hml hret hlk hnm hown hh0 W hP
  obtain ⟨rfl, hB⟩ := hP
  have hB0 := hB.mv X0.warmed.alike hh0
  have c1 : Steps p.tables e below (s₁.setTop (entryFrame m #[.ref d, .int (Int32.ofNat B.slots.size)] 2)) (s₁.setTop (mkF m 0 #[.val (.ref d), .val (.int (Int32.ofNat B.slots.size))] [])) := entry rfl
  have c2 : Steps p.tables e below (s₁.setTop (entryFrame m #[.ref d, .int (Int32.ofNat B.slots.size)] 2)) (s₁.setTop (mkF m 2 #[.val (.ref d), .val (.int (Int32.ofNat B.slots.size))] [.ref d, .int (Int32.ofNat B.slots.size)])) := c1.trans (by
    refine XS.iloadN X0.here hexec rfl (hb hbytes d0) rfl ?_
    refine XS.aloadN X0.here hexec rfl (hb hbytes d1) rfl rfl ?_
    exact Steps.refl _)
  have c3 : Steps p.tables e below (s₁.setTop (entryFrame m #[.ref d, .int (Int32.ofNat B.slots.size)] 2)) (s₁.setTop (mkF m 8 #[.val (.ref d), .val (.int (Int32.ofNat B.slots.size))] [.int (lo8 (ushr (Int32.ofNat B.slots.size - Int32.ofNat B.slots.size) 31))])) := c2.trans (by
    refine X0.alen hexec hB0 rfl rfl (hb hbytes d2) ?_
    refine XS.isub X0.here hexec rfl (hb hbytes d3) rfl ?_
    refine bipushV X0.here hexec rfl 31 (hb hbytes d4) (by decide) ?_
    refine iushr X0.here hexec rfl (hb hbytes d6) rfl ?_
    refine i2b X0.here hexec rfl (hb hbytes d7) rfl ?_
    exact Steps.refl _)
  have e0 : lo8 (ushr (Int32.ofNat B.slots.size - Int32.ofNat B.slots.size) 31) = 0 := by rw [Int32.sub_self]; decide
  rw [e0] at c3
  exact ⟨s₁, some (.int 0), _, _, _, X0, rfl, rfl, rfl, (fun h => by cases h), ⟨rfl, hh0⟩, fun fs hl => c3.trans (X0.ireturnOut hexec hret rfl (Or.inr (Or.inr (Or.inl rfl))) (hb hbytes d8) hl)⟩
end CodL
/-- the String at a is Latin-1 over a new byte[] (the heap's one new cell): the low bytes of the len chars of A from o on; every cell but a is kept -/
def Got (a : Addr) (D : Cell) (fV fC : Field) (A : Cell) (o len : Nat) (r : Option Value) (s u : State) : Prop := r = none ∧ ∃ D' V : Cell, Blank "java/lang/String" a D' u ∧ Same D D' [fV.slot, fC.slot] ∧ D'.slots[fV.slot]? = some (.ref s.heap.size) ∧ D'.slots[fC.slot]? = some (.int 0) ∧ Arr .byte s.heap.size V u ∧ V.vm = .none ∧ u.vm.findClass "[B" = some V.cls ∧ V.slots.size = len ∧ (∀ j, j < len → V.slots[j]? = some (.int (lo8 (cv A (o + j))))) ∧ (∀ (y : Addr) (c : Cell), y ≠ a → s.heap[y]? = some c → u.heap[y]? = some c) ∧ u.heap.size = s.heap.size + 1
theorem Got.mv {a : Addr} {D A : Cell} {fV fC : Field} {o len : Nat} : ∀ r (U U' V V' : State), U'.heap = U.heap → V.vm.Alike V'.vm → V'.heap = V.heap → Got a D fV fC A o len r U V → Got a D fV fC A o len r U' V' :=
  fun r U U' V V' h1 hal h2 ⟨e0, D', X, a1, a2, a3, a4, a5, a6, a7, a8, a9, a10, a11⟩ => ⟨e0, D', X, a1.mv hal h2, a2, by rw [h1]; exact a3, a4, by rw [h1]; exact a5.mv hal h2, a6, by rw [hal.findClass]; exact a7, a8, a9, by rw [h1, h2]; exact a10, by rw [h1, h2]; exact a11⟩
namespace New4
def yN : MethodName := ⟨"java/lang/String", "<init>", "([CIILjava/lang/Void;)V"⟩
abbrev yB : ByteArray := jdk_42_method_149_code
theorem d0 : decode yB 0 = .ok (.aload_n 0, 1) := by decide +kernel
theorem d1 : decode yB 1 = .ok (.invokespecial 1, 3) := by decide +kernel
theorem d4 : decode yB 4 = .ok (.iload_n 3, 1) := by decide +kernel
theorem d5 : decode yB 5 = .ok (.ifCond (.ne) 22, 3) := by decide +kernel
theorem d27 : decode yB 27 = .ok (.getstatic 38, 3) := by decide +kernel
theorem d30 : decode yB 30 = .ok (.ifCond (.eq) 28, 3) := by decide +kernel
theorem d33 : decode yB 33 = .ok (.aload_n 1, 1) := by decide +kernel
theorem d34 : decode yB 34 = .ok (.iload_n 2, 1) := by decide +kernel
theorem d35 : decode yB 35 = .ok (.iload_n 3, 1) := by decide +kernel
theorem d36 : decode yB 36 = .ok (.invokestatic 177, 3) := by decide +kernel
theorem d39 : decode yB 39 = .ok (.astore 5, 2) := by decide +kernel
theorem d41 : decode yB 41 = .ok (.aload_n 0, 1) := by decide +kernel
theorem d42 : decode yB 42 = .ok (.aload 5, 2) := by decide +kernel
theorem d44 : decode yB 44 = .ok (.iload_n 3, 1) := by decide +kernel
theorem d45 : decode yB 45 = .ok (.invokestatic 47, 3) := by decide +kernel
theorem d48 : decode yB 48 = .ok (.putfield 15, 3) := by decide +kernel
theorem d51 : decode yB 51 = .ok (.aload_n 0, 1) := by decide +kernel
theorem d52 : decode yB 52 = .ok (.aload 5, 2) := by decide +kernel
theorem d54 : decode yB 54 = .ok (.putfield 9, 3) := by decide +kernel
theorem d57 : decode yB 57 = .ok (.return_, 1) := by decide +kernel
def site : List Cond := [.fieldLink "java/lang/String" 38 "java/lang/String" "COMPACT_STRINGS" "Z", Cmp3.tab, CodL.tab, .laysFinal "java/lang/String" "java/lang/String" "value" "[B", .fieldLink "java/lang/String" 9 "java/lang/String" "value" "[B", .laysFinal "java/lang/String" "java/lang/String" "coder" "B", .fieldLink "java/lang/String" 15 "java/lang/String" "coder" "B"] ++ objW "java/lang/String" 1 ++ staticW "java/lang/String" 177 Cmp3.yN ++ staticW "java/lang/String" 47 CodL.yN
def tab : Cond := tabOf yN yB 6 none site
def P (a : Addr) (D : Cell) (fV fC : Field) (b : Addr) (A : Cell) (z : Int32) (o len : Nat) (args : Array Value) (s : State) : Prop := args = #[.ref a, .ref b, .int (Int32.ofNat o), .int (Int32.ofNat len), .null] ∧ Blank "java/lang/String" a D s ∧ Found "java/lang/String" "value" "[B" fV s ∧ Found "java/lang/String" "coder" "B" fC s ∧ Ch b A s ∧ StaticIs s "java/lang/String" "COMPACT_STRINGS" "Z" (.int z) ∧ ¬ z = 0 ∧ 0 < len ∧ o + len ≤ A.slots.size ∧ len ≤ 536870912 ∧ ∀ i, i < len → ¬ 255 < cv A (o + i)
def E (a : Addr) (D : Cell) (fV fC : Field) (A : Cell) (o len : Nat) (r : Option Value) (s u : State) : Prop := Got a D fV fC A o len r s u
/-- len > 0, no char of the range above 255: a Latin-1 String of their low bytes -/
theorem law (l : Launch) (a : Addr) (D : Cell) (fV fC : Field) (b : Addr) (A : Cell) (z : Int32) (o len : Nat) : Law l yN 5 4 2 35 yB 6 none site (P a D fV fC b A z o len) (E a D fV fC A o len) [⟨a, fC.slot⟩, ⟨a, fV.slot⟩] 1 len := by
  refine Law.of_walk (plainFor_of_name (by decide +kernel)) (by decide +kernel) (by decide +kernel) (by decide) (fun _ _ h => by rw [h.1]; rfl) (fun _ U U' hal hh h => ⟨h.1, h.2.1.mv hal hh, h.2.2.1.al hal, h.2.2.2.1.al hal, h.2.2.2.2.1.mv hal hh, h.2.2.2.2.2.1.there hal hh, h.2.2.2.2.2.2⟩) (fun r U U' V V' h1 hal h2 h => Got.mv r U U' V V' h1 hal h2 h) ?_
  intro p e s m args below meth c s₁ X0 hexec hbytes hml hret hlk hnm hown hh0 W hP
  obtain ⟨rfl, hB, f1, f2, hA, s1, hz, l0, l1, l2, hp⟩ := hP
  have a31 := hA.1.2.2.2
  have c1 : Steps p.tables e below (s₁.setTop (entryFrame m #[.ref a, .ref b, .int (Int32.ofNat o), .int (Int32.ofNat len), .null] 6)) (s₁.setTop (mkF m 0 #[.val (.ref a), .val (.ref b), .val (.int (Int32.ofNat o)), .val (.int (Int32.ofNat len)), .val .null, .unset] [])) := entry rfl
  have c2 : Steps p.tables e below (s₁.setTop (entryFrame m #[.ref a, .ref b, .int (Int32.ofNat o), .int (Int32.ofNat len), .null] 6)) (s₁.setTop (mkF m 1 #[.val (.ref a), .val (.ref b), .val (.int (Int32.ofNat o)), .val (.int (Int32.ofNat len)), .val .null, .unset] [.ref a])) := c1.trans (by
    refine XS.aloadN X0.here hexec rfl (hb hbytes d0) rfl rfl ?_
    exact Steps.refl _)
  obtain ⟨T3, X3, q3, st3⟩ := X0.oinit hexec hown (wks W (objW "java/lang/String" 1)) (g := (mkF m 1 #[.val (.ref a), .val (.ref b), .val (.int (Int32.ofNat o)), .val (.int (Int32.ofNat len)), .val .null, .unset] [.ref a])) rfl (by rw [hml]; rfl) (rest := []) rfl (hb hbytes d1) (W := 0) (by show 2 * 0 + 0 ≤ _; decide) (Nat.le_of_ble_eq_true rfl) (Nat.le_of_ble_eq_true rfl)
  have hh3 := q3.trans hh0
  have c4 : Steps p.tables e below (s₁.setTop (entryFrame m #[.ref a, .ref b, .int (Int32.ofNat o), .int (Int32.ofNat len), .null] 6)) (T3.setTop (mkF m 27 #[.val (.ref a), .val (.ref b), .val (.int (Int32.ofNat o)), .val (.int (Int32.ofNat len)), .val .null, .unset] [])) := (c2.trans (st3 _ (Steps.refl _))).trans (by
    refine XS.iloadN X3.here hexec rfl (hb hbytes d4) rfl ?_
    refine XS.ifYes X3.here hexec rfl (pc0 := 5) rfl (hb hbytes d5) rfl (i0_ne_t (nz32 (by omega) l0)) (by decide) rfl ?_
    exact Steps.refl _)
  obtain ⟨T5, X5, q5, st5⟩ := X3.sget hexec hown (wk W (.fieldLink "java/lang/String" 38 "java/lang/String" "COMPACT_STRINGS" "Z")) s1 (fun _ _ h => by rw [hh3]; exact h) (g := (mkF m 27 #[.val (.ref a), .val (.ref b), .val (.int (Int32.ofNat o)), .val (.int (Int32.ofNat len)), .val .null, .unset] [])) rfl (hb hbytes d27)
  have hh5 := q5.trans hh3
  have c6 : Steps p.tables e below (s₁.setTop (entryFrame m #[.ref a, .ref b, .int (Int32.ofNat o), .int (Int32.ofNat len), .null] 6)) (T5.setTop (mkF m 30 #[.val (.ref a), .val (.ref b), .val (.int (Int32.ofNat o)), .val (.int (Int32.ofNat len)), .val .null, .unset] [.int z])) := c4.trans (st5 _ (Steps.refl _))
  have c7 : Steps p.tables e below (s₁.setTop (entryFrame m #[.ref a, .ref b, .int (Int32.ofNat o), .int (Int32.ofNat len), .null] 6)) (T5.setTop (mkF m 36 #[.val (.ref a), .val (.ref b), .val (.int (Int32.ofNat o)), .val (.int (Int32.ofNat len)), .val .null, .unset] [.int (Int32.ofNat len), .int (Int32.ofNat o), .ref b])) := c6.trans (by
    refine XS.ifNo X5.here hexec rfl (hb hbytes d30) rfl (i0_eq_f hz) ?_
    refine XS.aloadN X5.here hexec rfl (hb hbytes d33) rfl rfl ?_
    refine XS.iloadN X5.here hexec rfl (hb hbytes d34) rfl ?_
    refine XS.iloadN X5.here hexec rfl (hb hbytes d35) rfl ?_
    exact Steps.refl _)
  obtain ⟨v8, T8, X8, E8, g8⟩ := X5.callS hexec (Cmp3.law l b A o len) hown (wks W (staticW "java/lang/String" 177 Cmp3.yN)) (wk W Cmp3.tab) (W := 0) (Nat.le_of_ble_eq_true rfl) (Nat.le_of_ble_eq_true rfl) (Nat.le_refl _) (by show 0 + len ≤ len; omega) (g := (mkF m 36 #[.val (.ref a), .val (.ref b), .val (.int (Int32.ofNat o)), .val (.int (Int32.ofNat len)), .val .null, .unset] [.int (Int32.ofNat len), .int (Int32.ofNat o), .ref b])) rfl (by rw [hml]; rfl) c7 (argsL := [.ref b, .int (Int32.ofNat o), .int (Int32.ofNat len)]) (rest := []) rfl rfl (by show 2 * 0 + 0 ≤ _; decide) (hb hbytes d36) (⟨rfl, hA.mv X5.warmed.alike hh5, l1, l2, hp⟩)
  obtain ⟨e8, z8⟩ := E8
  obtain ⟨rfl, N, n1, n2, n3, n4, n5, n6⟩ := NewArr.mv _ T5 s _ _ hh5.symm (Vm.Alike.refl _) rfl e8
  rw [hh5] at z8
  have hB1 := hB.keep X8.warmed.alike (n6 _ _ hB.1)
  have hne : s.heap.size ≠ a := (Nat.ne_of_lt (Array.getElem?_eq_some_iff.mp hB.1).1).symm
  have c9 : Steps p.tables e below (s₁.setTop (entryFrame m #[.ref a, .ref b, .int (Int32.ofNat o), .int (Int32.ofNat len), .null] 6)) (T8.setTop (mkF m 39 #[.val (.ref a), .val (.ref b), .val (.int (Int32.ofNat o)), .val (.int (Int32.ofNat len)), .val .null, .unset] [.ref s.heap.size])) := g8
  have c10 : Steps p.tables e below (s₁.setTop (entryFrame m #[.ref a, .ref b, .int (Int32.ofNat o), .int (Int32.ofNat len), .null] 6)) (T8.setTop (mkF m 45 #[.val (.ref a), .val (.ref b), .val (.int (Int32.ofNat o)), .val (.int (Int32.ofNat len)), .val .null, .val (.ref s.heap.size)] [.int (Int32.ofNat N.slots.size), .ref s.heap.size, .ref a])) := by
    have hc : Steps p.tables e below (s₁.setTop (entryFrame m #[.ref a, .ref b, .int (Int32.ofNat o), .int (Int32.ofNat len), .null] 6)) (T8.setTop (mkF m 45 #[.val (.ref a), .val (.ref b), .val (.int (Int32.ofNat o)), .val (.int (Int32.ofNat len)), .val .null, .val (.ref s.heap.size)] [.int (Int32.ofNat len), .ref s.heap.size, .ref a])) := c9.trans (by
      refine XS.astore X8.here hexec rfl (hb hbytes d39) rfl rfl rfl ?_
      refine XS.aloadN X8.here hexec rfl (hb hbytes d41) rfl rfl ?_
      refine XS.aload X8.here hexec rfl (hb hbytes d42) rfl rfl ?_
      refine XS.iloadN X8.here hexec rfl (hb hbytes d44) rfl ?_
      exact Steps.refl _)
    rw [n4]; exact hc
  obtain ⟨v11, T11, X11, E11, g11⟩ := X8.callS hexec (CodL.law l s.heap.size N) hown (wks W (staticW "java/lang/String" 47 CodL.yN)) (wk W CodL.tab) (W := 1) (Nat.le_of_ble_eq_true rfl) (Nat.le_of_ble_eq_true rfl) (Nat.le_refl _) (by show 0 + len + 0 ≤ len; omega) (g := (mkF m 45 #[.val (.ref a), .val (.ref b), .val (.int (Int32.ofNat o)), .val (.int (Int32.ofNat len)), .val .null, .val (.ref s.heap.size)] [.int (Int32.ofNat N.slots.size), .ref s.heap.size, .ref a])) rfl (by rw [hml]; rfl) c10 (argsL := [.ref s.heap.size, .int (Int32.ofNat N.slots.size)]) (rest := [.ref a]) rfl rfl (by show 2 * 0 + (1 + 0) ≤ _; decide) (hb hbytes d45) (⟨rfl, n1⟩)
  obtain ⟨rfl, q11⟩ := E11
  have hB11 := hB1.mv (X8.warmed.alike.symm.trans X11.warmed.alike) q11
  have c12 : Steps p.tables e below (s₁.setTop (entryFrame m #[.ref a, .ref b, .int (Int32.ofNat o), .int (Int32.ofNat len), .null] 6)) (T11.setTop (mkF m 48 #[.val (.ref a), .val (.ref b), .val (.int (Int32.ofNat o)), .val (.int (Int32.ofNat len)), .val .null, .val (.ref s.heap.size)] [.int 0, .ref a])) := g11
  obtain ⟨T13, X13, p13, bl13, sl13, st13⟩ := X11.finit hexec hown (wk W (.fieldLink "java/lang/String" 15 "java/lang/String" "coder" "B")) (Or.inr ⟨_, (wk W (.laysFinal "java/lang/String" "java/lang/String" "coder" "B"))⟩) (Or.inl ⟨rfl, hnm⟩) f2 (Or.inl rfl) hB11 (t := .byte) (by decide +kernel) rfl (g := (mkF m 48 #[.val (.ref a), .val (.ref b), .val (.int (Int32.ofNat o)), .val (.int (Int32.ofNat len)), .val .null, .val (.ref s.heap.size)] [.int 0, .ref a])) rfl (rest := []) rfl (hb hbytes d48)
  have c14 : Steps p.tables e below (s₁.setTop (entryFrame m #[.ref a, .ref b, .int (Int32.ofNat o), .int (Int32.ofNat len), .null] 6)) (T13.setTop (mkF m 54 #[.val (.ref a), .val (.ref b), .val (.int (Int32.ofNat o)), .val (.int (Int32.ofNat len)), .val .null, .val (.ref s.heap.size)] [.ref s.heap.size, .ref a])) := (c12.trans (st13 _ (Steps.refl _))).trans (by
    refine XS.aloadN X13.here hexec rfl (hb hbytes d51) rfl rfl ?_
    refine XS.aload X13.here hexec rfl (hb hbytes d52) rfl rfl ?_
    exact Steps.refl _)
  obtain ⟨T15, X15, p15, bl15, sl15, st15⟩ := X13.finit hexec hown (wk W (.fieldLink "java/lang/String" 9 "java/lang/String" "value" "[B")) (Or.inr ⟨_, (wk W (.laysFinal "java/lang/String" "java/lang/String" "value" "[B"))⟩) (Or.inl ⟨rfl, hnm⟩) f1 (Or.inl rfl) bl13 (t := (.array .byte)) (by decide +kernel) rfl (g := (mkF m 54 #[.val (.ref a), .val (.ref b), .val (.int (Int32.ofNat o)), .val (.int (Int32.ofNat len)), .val .null, .val (.ref s.heap.size)] [.ref s.heap.size, .ref a])) rfl (rest := []) rfl (hb hbytes d54)
  have c16 : Steps p.tables e below (s₁.setTop (entryFrame m #[.ref a, .ref b, .int (Int32.ofNat o), .int (Int32.ofNat len), .null] 6)) (T15.setTop (mkF m 57 #[.val (.ref a), .val (.ref b), .val (.int (Int32.ofNat o)), .val (.int (Int32.ofNat len)), .val .null, .val (.ref s.heap.size)] [])) := c14.trans (st15 _ (Steps.refl _))
  have ap := apart (Or.inr ⟨_, (wk W (.laysFinal "java/lang/String" "java/lang/String" "value" "[B"))⟩) (Or.inr ⟨_, (wk W (.laysFinal "java/lang/String" "java/lang/String" "coder" "B"))⟩) f1 f2 (t₁ := .array .byte) (t₂ := .byte) (by decide +kernel) (by decide +kernel) (by decide)
  have al := X8.warmed.alike.symm.trans X15.warmed.alike
  have n7 : T11.heap[s.heap.size]? = some N := by rw [q11]; exact n1.1
  exact ⟨T15, none, _, _, _, X15, by simp, rfl, by omega, (fun _ => rfl), ⟨rfl, _, N, bl15, ((Same.refl D _).set _ (by simp)).set _ (by simp), sl15, (Cell.slots_setSlot_ne _ ap).trans sl13, n1.keep al (p15.other hne (p13.other hne n7)), n2, by rw [al.findClass]; exact n3, n4, n5, fun y c h1 h2 => p15.other h1 (p13.other h1 (by rw [q11]; exact n6 y c h2)), by rw [p15.2.2, p13.2.2, q11]; exact z8⟩, fun fs hl => c16.trans (X15.returnOut hexec hret (hb hbytes d57) hl)⟩
end New4
namespace New1
def yN : MethodName := ⟨"java/lang/String", "<init>", "([C)V"⟩
abbrev yB : ByteArray := jdk_42_method_3_code
theorem d0 : decode yB 0 = .ok (.aload_n 0, 1) := by decide +kernel
theorem d1 : decode yB 1 = .ok (.aload_n 1, 1) := by decide +kernel
theorem d2 : decode yB 2 = .ok (.iconst 0, 1) := by decide +kernel
theorem d3 : decode yB 3 = .ok (.aload_n 1, 1) := by decide +kernel
theorem d4 : decode yB 4 = .ok (.arraylength, 1) := by decide +kernel
theorem d5 : decode yB 5 = .ok (.aconst_null, 1) := by decide +kernel
theorem d6 : decode yB 6 = .ok (.invokespecial 27, 3) := by decide +kernel
theorem d9 : decode yB 9 = .ok (.return_, 1) := by decide +kernel
def site : List Cond := [New4.tab] ++ initW "java/lang/String" 27 New4.yN
def tab : Cond := tabOf yN yB 2 none site
def P (a : Addr) (D : Cell) (fV fC : Field) (b : Addr) (A : Cell) (z : Int32) (args : Array Value) (s : State) : Prop := args = #[.ref a, .ref b] ∧ Blank "java/lang/String" a D s ∧ Found "java/lang/String" "value" "[B" fV s ∧ Found "java/lang/String" "coder" "B" fC s ∧ Ch b A s ∧ StaticIs s "java/lang/String" "COMPACT_STRINGS" "Z" (.int z) ∧ ¬ z = 0 ∧ 0 < A.slots.size ∧ A.slots.size ≤ 536870912 ∧ ∀ i, i < A.slots.size → ¬ 255 < cv A i
def E (a : Addr) (D : Cell) (fV fC : Field) (A : Cell) (r : Option Value) (s u : State) : Prop := Got a D fV fC A 0 A.slots.size r s u
/-- new String(chars), not empty, no char above 255: a Latin-1 String of their low bytes -/
theorem law (l : Launch) (a : Addr) (D : Cell) (fV fC : Field) (b : Addr) (A : Cell) (z : Int32) : Law l yN 2 1 3 52 yB 2 none site (P a D fV fC b A z) (E a D fV fC A) [⟨a, fC.slot⟩, ⟨a, fV.slot⟩] 1 A.slots.size := by
  refine Law.of_walk (plainFor_of_name (by decide +kernel)) (by decide +kernel) (by decide +kernel) (by decide) (fun _ _ h => by rw [h.1]; rfl) (fun _ U U' hal hh h => ⟨h.1, h.2.1.mv hal hh, h.2.2.1.al hal, h.2.2.2.1.al hal, h.2.2.2.2.1.mv hal hh, h.2.2.2.2.2.1.there hal hh, h.2.2.2.2.2.2⟩) (fun r U U' V V' h1 hal h2 h => Got.mv r U U' V V' h1 hal h2 h) ?_
  intro p e s m args below meth c s₁ X0 hexec hbytes hml hret hlk hnm hown hh0 W hP
  obtain ⟨rfl, hB, f1, f2, hA, s1, hz, l0, l2, hp⟩ := hP
  have c1 : Steps p.tables e below (s₁.setTop (entryFrame m #[.ref a, .ref b] 2)) (s₁.setTop (mkF m 0 #[.val (.ref a), .val (.ref b)] [])) := entry rfl
  have c2 : Steps p.tables e below (s₁.setTop (entryFrame m #[.ref a, .ref b] 2)) (s₁.setTop (mkF m 6 #[.val (.ref a), .val (.ref b)] [.null, .int (Int32.ofNat A.slots.size), .int 0, .ref b, .ref a])) := c1.trans (by
    refine XS.aloadN X0.here hexec rfl (hb hbytes d0) rfl rfl ?_
    refine XS.aloadN X0.here hexec rfl (hb hbytes d1) rfl rfl ?_
    refine iconstV X0.here hexec rfl 0 (hb hbytes d2) (by decide) ?_
    refine XS.aloadN X0.here hexec rfl (hb hbytes d3) rfl rfl ?_
    refine X0.alen hexec (hA.1.mv X0.warmed.alike hh0) rfl rfl (hb hbytes d4) ?_
    refine XS.aconstNull X0.here hexec rfl (hb hbytes d5) ?_
    exact Steps.refl _)
  obtain ⟨v3, T3, X3, E3, g3⟩ := X0.callN hexec (New4.law l a D fV fC b A z 0 A.slots.size) rfl hown (wks W (initW "java/lang/String" 27 New4.yN)) (W New4.tab (by simp only [site, List.mem_cons, List.mem_append, true_or, or_true])) (W := 0) (Nat.le_of_ble_eq_true rfl) (Nat.le_of_ble_eq_true rfl) (Nat.le_refl _) (by show 0 + A.slots.size ≤ A.slots.size; omega) (g := (mkF m 6 #[.val (.ref a), .val (.ref b)] [.null, .int (Int32.ofNat A.slots.size), .int (Int32.ofNat 0), .ref b, .ref a])) rfl (by rw [hml]; rfl) c2 (argsL := [.ref b, .int (Int32.ofNat 0), .int (Int32.ofNat A.slots.size), .null]) (rest := []) rfl rfl (by show 2 * 0 + 0 ≤ _; decide) (hb hbytes d6) (⟨rfl, hB.mv X0.warmed.alike hh0, f1.al X0.warmed.alike, f2.al X0.warmed.alike, hA.mv X0.warmed.alike hh0, s1.there X0.warmed.alike hh0, hz, l0, by omega, l2, fun i hi => by rw [Nat.zero_add]; exact hp i hi⟩)
  have e0 := Got.mv _ s₁ s _ _ hh0.symm (Vm.Alike.refl _) rfl E3
  obtain rfl := e0.1
  have c4 : Steps p.tables e below (s₁.setTop (entryFrame m #[.ref a, .ref b] 2)) (T3.setTop (mkF m 9 #[.val (.ref a), .val (.ref b)] [])) := g3
  exact ⟨T3, none, _, _, _, X3, by simp, rfl, by omega, (fun _ => rfl), e0, fun fs hl => c4.trans (X3.returnOut hexec hret (hb hbytes d9) hl)⟩
theorem pays {l : Launch} {R : Room} {p : Program} {e : Env} {below : List Frame} {s : State} {sargs : Array Value} {len W : Nat} (a : Addr) (D : Cell) (fV fC : Field) (b : Addr) (A : Cell) (z : Int32) (htab : tab.before sargs s = true) (hfr : 4 ≤ R.frames) (hlo : W + 65 ≤ R.locals) :
    Back l R p e below s sargs yN len W (fun A₁ a₁ => A₁.cells + 1 ≤ R.cells ∧ A₁.slots + A.slots.size ≤ R.slots ∧ P a D fV fC b A z a₁ A₁.U) (fun A₁ _ v₁ B₁ => E a D fV fC A v₁ A₁.U B₁.U ∧ B₁.locs = A₁.locs ++ [⟨a, fC.slot⟩, ⟨a, fV.slot⟩] ∧ B₁.cells = A₁.cells + 1 ∧ B₁.slots = A₁.slots + A.slots.size) :=
  (law l a D fV fC b A z).pays htab hfr (by omega)
end New1
/-- the byte, read back as charAt reads it, is the char -/
theorem lo8_mask {x : Int32} (h0 : ¬ x < 0) (h1 : ¬ 255 < x) : lo8 x &&& 255 = x := by
  have t : ∀ k : Fin 256, lo8 (Int32.ofNat k.val) &&& 255 = Int32.ofNat k.val := by decide +kernel
  rw [Int32.lt_iff_toInt_lt] at h0 h1
  have e0 : (0 : Int32).toInt = 0 := rfl
  have e1 : (255 : Int32).toInt = 255 := rfl
  obtain ⟨k, hk⟩ : ∃ k : Nat, x.toInt = k := ⟨x.toInt.toNat, by omega⟩
  have hx : x = Int32.ofNat k := Int32.toInt_inj.mp (by rw [hk, Int32.toInt_ofNat_small (by omega)])
  rw [hx]
  exact t ⟨k, by omega⟩
end StrChars
namespace StrChars.Road
open Jvm Sem ClassFile Op Lib Jvm.Stand Jvm.Free Jvm.Free.XT
open Jvm.Lib.Cold (StaticIs)
abbrev ST : String := "java/lang/String"
/-- every table word that New1's law asks, flat -/
abbrev words : List Jvm.Cond := [.code New1.yN New1.yB 2 none, .initialized ST, .methodLink ST 27 New4.yN, .instanceMethod New4.yN,
  .code New4.yN New4.yB 6 none, .fieldLink ST 38 ST "COMPACT_STRINGS" "Z", .laysFinal ST ST "value" "[B", .fieldLink ST 9 ST "value" "[B", .laysFinal ST ST "coder" "B", .fieldLink ST 15 ST "coder" "B",
  .methodLink ST 1 Lib.objectInit, .instanceMethod Lib.objectInit, .code Lib.objectInit ⟨#[0xb1]⟩ 1 none, .methodLink ST 177 Cmp3.yN, .static Cmp3.yN, .methodLink ST 47 CodL.yN, .static CodL.yN,
  .code Cmp3.yN Cmp3.yB 6 (some (.array .byte)), .initialized U16, .arrayClass .byte, .methodLink U16 115 Cmp5.yN, .static Cmp5.yN, .code Cmp5.yN Cmp5.yB 7 (some .int), .code CodL.yN CodL.yB 2 (some .byte)]
theorem tab_of {a : Array Value} {s : State} (h : ∀ w ∈ words, w.before a s = true) : New1.tab.before a s = true := by
  have h5 : Cmp5.tab.before a s = true := unparts (wk h (.code Cmp5.yN Cmp5.yB 7 (some .int))) (wks h (.initialized Cmp5.yN.cls :: Cmp5.site))
  have hc : CodL.tab.before a s = true := unparts (wk h (.code CodL.yN CodL.yB 2 (some .byte))) (wks h (.initialized CodL.yN.cls :: CodL.site))
  have q5 : ∀ w ∈ Cmp5.tab :: words, w.before a s = true := fun w hw => (List.mem_cons.mp hw).elim (fun e => e ▸ h5) (h w)
  have h3 : Cmp3.tab.before a s = true := unparts (wk q5 (.code Cmp3.yN Cmp3.yB 6 (some (.array .byte)))) (wks q5 (.initialized Cmp3.yN.cls :: Cmp3.site))
  have q3 : ∀ w ∈ Cmp3.tab :: CodL.tab :: words, w.before a s = true := fun w hw => (List.mem_cons.mp hw).elim (fun e => e ▸ h3) fun hw => (List.mem_cons.mp hw).elim (fun e => e ▸ hc) (h w)
  have h4 : New4.tab.before a s = true := unparts (wk q3 (.code New4.yN New4.yB 6 none)) (wks q3 (.initialized New4.yN.cls :: New4.site))
  have q4 : ∀ w ∈ New4.tab :: words, w.before a s = true := fun w hw => (List.mem_cons.mp hw).elim (fun e => e ▸ h4) (h w)
  exact unparts (wk q4 (.code New1.yN New1.yB 2 none)) (wks q4 (.initialized New1.yN.cls :: New1.site))
/-- the words ride from the start Z to the walk's own state -/
theorem moved {Z s : State} {a0 args : Array Value} (hZ : Z.Warmed39 s.vm) (hw : ∀ d ∈ words, d.before a0 Z = true) : ∀ d ∈ words, d.before args s = true := fun d hd => by
  have q := hw d hd
  have t : ∀ d ∈ words, d = .arrayClass .byte ∨ (d.onTables && d.keepsFace) = true := by decide +kernel
  rcases t d hd with rfl | t
  · exact RoadKit.mvA hZ q
  · exact RoadKit.mv hZ q t
/-- WHAT COMES BACK, over the tables of the start Z: h the heap at the call, h' behind it -/
def Q (Z : State) (x : Addr) (A : Cell) (h : Heap) (v : Option Value) (h' : Heap) (L : List Loc) : Prop := v = none ∧ (∀ y ∈ L, y.base = x) ∧ RoadKit.Keep h h' [x] ∧ h'.size = h.size + 1 ∧ RoadKit.Exa Z h' x ST ∧ RoadKit.Fld Z h' x ST "value" "[B" (.ref h.size) ∧ RoadKit.Fld Z h' x ST "coder" "B" (.int 0) ∧
  (∃ V : Cell, RoadKit.Arr Z h' h.size V .byte ∧ V.vm = .none ∧ Z.vm.findClass "[B" = some V.cls ∧ V.slots.size = A.slots.size ∧ ∀ j, j < A.slots.size → V.slots[j]? = some (.int (lo8 (cv A j)))) ∧
  ∀ (O n d : String) (w : Value), RoadKit.Fld Z h x O n d w → RoadKit.slotOf Z O n d ≠ RoadKit.slotOf Z ST "value" "[B" → RoadKit.slotOf Z O n d ≠ RoadKit.slotOf Z ST "coder" "B" → RoadKit.Fld Z h' x O n d w
/-- **new String(chars) AT A CALL, IN THE ROAD'S FORM**: for specialBack behind newO: x the fresh String, b the char[] with the cell A -/
theorem back {p : Program} {l : Launch} {e : Env} {R : Room} {s : State} {args : Array Value} {below : List Frame} {len W : Nat} {Z : State} {a0 : Array Value} {h : Heap} (hZ : Z.Warmed39 s.vm) (hw : ∀ d ∈ words, d.before a0 Z = true) {kI : Nat} (wi : (Jvm.Cond.instantiable ST kI).before a0 Z = true)
    {x b : Addr} {A : Cell} {z : Int32} {v0 c0 : Value} (E : RoadKit.Exa Z h x ST) (V : RoadKit.Fld Z h x ST "value" "[B" v0) (C : RoadKit.Fld Z h x ST "coder" "B" c0) (K : RoadKit.Arr Z h b A .char) (hty : Typed .char A) (S : RoadKit.Sta Z h ST "COMPACT_STRINGS" "Z" (.int z)) (hz : ¬ z = 0)
    (l0 : 0 < A.slots.size) (l2 : A.slots.size ≤ 536870912) (hp : ∀ i, i < A.slots.size → ¬ 255 < cv A i) (hfr : 4 ≤ R.frames) (hlo : W + 65 ≤ R.locals) :
    Back l R p e below s args New1.yN len W (fun P a => a = #[.ref x, .ref b] ∧ P.U.heap = h ∧ P.cells + 1 ≤ R.cells ∧ P.slots + A.slots.size ≤ R.slots)
      (fun P _ v B => ∃ L, Q Z x A h v B.U.heap L ∧ B.locs = P.locs ++ L ∧ B.cells = P.cells + 1 ∧ B.slots = P.slots + A.slots.size) := by
  intro m meth c P g ig mk a X hg hsize hdg hW hn hp'
  obtain ⟨rfl, rfl, r1, r2⟩ := hp'
  have al : Z.vm.Alike P.U.vm := hZ.alike.trans X.warmed.alike
  obtain ⟨D, cfV, kV, iV, fV, hD, gV, stV, knV, obV, asV, slV⟩ := id V
  obtain ⟨D', cfC, kC, iC, fC, hD', gC, stC, -, -, asC, slC⟩ := id C
  cases hD.symm.trans hD'
  obtain ⟨D2, kD, e1, e2, e3, e4, e5⟩ := id E
  cases hD.symm.trans e1
  obtain ⟨c2, k2, i1, i2, i3, -⟩ := Cond.instantiable_spec wi
  cases e2.symm.trans i1
  cases e3.symm.trans i2
  obtain ⟨kU, u1, u2⟩ := al.2.2 _ _ e3
  have hB : Blank ST x D P.U := ⟨hD, ⟨knV, fun q hq => by rw [hq] at obV; cases obV⟩, by rw [al.findClass]; exact e2, kU, u1, by rw [u2]; exact i3, by rw [u2]; exact e5 i3⟩
  have F1 : Found ST "value" "[B" fV P.U := ⟨SBG.found_only al ⟨cfV, kV, iV, gV⟩, stV⟩
  have F2 : Found ST "coder" "B" fC P.U := ⟨SBG.found_only al ⟨cfC, kC, iC, gC⟩, stC⟩
  have hA : Ch b A P.U := ⟨⟨K.1, State.isArrayOf_alike al K.2.1, K.2.2, by omega⟩, hty⟩
  have hS : StaticIs P.U ST "COMPACT_STRINGS" "Z" (.int z) := by
    obtain ⟨cfS, iS, kS, fS, st, cS, t1, t2, t3, t4, t5, t6, t7⟩ := S
    exact StaticIs.there (s := { Z with heap := P.U.heap }) ⟨cfS, iS, kS, fS, st, cS, t1, t2, t3, t4, t5, (fun q => by rw [q] at t6; cases t6), t7⟩ al rfl
  obtain ⟨v, B, X', ⟨⟨hv, E', V', q1, q2, q3, q4, q5, q6, q7, q8, q9, q10, q11⟩, hl, hc, hs⟩, st⟩ := New1.pays x D fV fC b A z (tab_of (moved hZ hw)) hfr hlo m meth c P g ig mk _ X hg hsize hdg hW hn ⟨r1, r2, rfl, hB, F1, F2, hA, hS, hz, l0, l2, hp⟩
  have al' : Z.vm.Alike B.U.vm := hZ.alike.trans X'.warmed.alike
  have hsz : E'.slots.size = D.slots.size := by
    obtain ⟨-, -, -, kB, w1, w2, w3⟩ := q1
    obtain ⟨kB', y1, y2⟩ := al'.2.2 _ _ e3
    rw [q2.2.1] at w1
    cases w1.symm.trans y1
    rw [w3, e5 i3, y2]
  refine ⟨v, B, X', ⟨_, ⟨hv, ?_, ⟨by omega, fun y cy hy hn' => q10 y cy (by simpa using hn') hy, fun y cy hy => ?_⟩, q11, ⟨E', _, q1.1, by rw [q2.2.1]; exact e2, by rw [q2.2.1]; exact e3, by rw [q2.1]; exact obV, fun _ => by rw [hsz]; exact e5 i3⟩,
    ⟨E', cfV, kV, iV, fV, q1.1, gV, stV, by rw [q2.1]; exact knV, by rw [q2.1]; exact obV, by rw [q2.2.1]; exact asV, q3⟩, ⟨E', cfC, kC, iC, fC, q1.1, gC, stC, by rw [q2.1]; exact knV, by rw [q2.1]; exact obV, by rw [q2.2.1]; exact asC, q4⟩,
    ⟨V', ⟨q5.1, State.isArrayOf_alike al'.symm q5.2.1, q5.2.2.1⟩, q6, by rw [← al'.findClass]; exact q7, q8, fun j hj => by have := q9 j hj; rwa [Nat.zero_add] at this⟩, fun O n d w F n1 n2 => ?_⟩, hl, hc, hs⟩, st⟩
  · intro y hy
    simp only [List.mem_cons, List.not_mem_nil, or_false] at hy
    rcases hy with rfl | rfl <;> rfl
  · by_cases q : y = x
    · subst q
      cases hD.symm.trans hy
      exact ⟨E', q1.1, q2.2.1, q2.1, hsz⟩
    · exact ⟨cy, q10 y cy q hy, rfl, rfl, rfl⟩
  · obtain ⟨D3, cf, k, i, f, g1, g2, g3, g4, g5, g6, g7⟩ := F
    cases hD.symm.trans g1
    simp only [RoadKit.slotOf, g2, gV, gC, Option.map_some, Option.getD_some] at n1 n2
    exact ⟨E', cf, k, i, f, q1.1, g2, g3, by rw [q2.1]; exact g4, by rw [q2.1]; exact g5, by rw [q2.2.1]; exact g6, by rw [q2.2.2 f.slot (by simp [n1, n2])]; exact g7⟩
end StrChars.Road
namespace StrChars.Road
open Jvm Sem ClassFile Op Lib Jvm.Stand Jvm.Free Jvm.Free.XT
/-- WHAT COMES BACK, the byte[] as a list of values -/
def QA (Z : State) (x : Addr) (zn : Int32) (cs : List Int32) (h : Heap) (v : Option Value) (h' : Heap) (L : List Loc) : Prop := v = none ∧ (∀ y ∈ L, y.base = x) ∧ RoadKit.Keep h h' [x] ∧ h'.size = h.size + 1 ∧ RoadKit.Exa Z h' x ST ∧ RoadKit.Fld Z h' x ST "value" "[B" (.ref h.size) ∧ RoadKit.Fld Z h' x ST "coder" "B" (.int 0) ∧
  (∃ kb, Z.vm.findClass "[B" = some kb ∧ RoadKit.Arv Z h' h.size kb .byte zn (cs.map fun c => .int (lo8 c)) (.int 0)) ∧
  ∀ (O n d : String) (w : Value), RoadKit.Fld Z h x O n d w → RoadKit.slotOf Z O n d ≠ RoadKit.slotOf Z ST "value" "[B" → RoadKit.slotOf Z O n d ≠ RoadKit.slotOf Z ST "coder" "B" → RoadKit.Fld Z h' x O n d w
/-- **new String(chars) AT A CALL, THE ARRAYS AS LISTS**: the char[] at b holds cs, not empty, no char above 255 -/
theorem backArv {p : Program} {l : Launch} {e : Env} {R : Room} {s : State} {args : Array Value} {below : List Frame} {len W : Nat} {Z : State} {a0 : Array Value} {h : Heap} (hZ : Z.Warmed39 s.vm) (hw : ∀ d ∈ words, d.before a0 Z = true) {kI : Nat} (wi : (Jvm.Cond.instantiable ST kI).before a0 Z = true)
    {x b : Addr} {k : ClassId} {zn z : Int32} {cs : List Int32} {dv v0 c0 : Value} (E : RoadKit.Exa Z h x ST) (V : RoadKit.Fld Z h x ST "value" "[B" v0) (C : RoadKit.Fld Z h x ST "coder" "B" c0) (K : RoadKit.Arv Z h b k .char zn (cs.map Value.int) dv) (S : RoadKit.Sta Z h ST "COMPACT_STRINGS" "Z" (.int z)) (hz : ¬ z = 0)
    (hlen : zn.toNatClampNeg = cs.length) (h0 : 0 < cs.length) (hbig : cs.length ≤ 536870912) (hall : ∀ c ∈ cs, ¬ 255 < c) (hfr : 4 ≤ R.frames) (hlo : W + 65 ≤ R.locals) :
    Back l R p e below s args New1.yN len W (fun P a => a = #[.ref x, .ref b] ∧ P.U.heap = h ∧ P.cells + 1 ≤ R.cells ∧ P.slots + cs.length ≤ R.slots)
      (fun P _ v B => ∃ L, QA Z x zn cs h v B.U.heap L ∧ B.locs = P.locs ++ L ∧ B.cells = P.cells + 1 ∧ B.slots = P.slots + cs.length) := by
  obtain ⟨A, K1, K2, K3, K4, K5, K6⟩ := K
  have e : A.slots.size = cs.length := K3.trans hlen
  have hat : ∀ (i : Nat) (hi : i < cs.length), A.slots[i]? = some (.int cs[i]) := fun i hi => by rw [K5 i (by omega)]; simp [List.getD_eq_getElem?_getD, hi]
  have hcv : ∀ (i : Nat) (hi : i < cs.length), cv A i = cs[i] := fun i hi => by unfold cv; rw [hat i hi]
  have hty : Typed .char A := fun i v hv => by
    have hi : i < A.slots.size := (Array.getElem?_eq_some_iff.mp hv).1
    have q := K5 i hi
    rw [hv] at q
    rw [Option.some.inj q]
    exact K6 i hi
  refine Back.mono (back hZ hw wi E V C K1 hty S hz (by omega) (by omega) (fun i hi => by rw [hcv i (by omega)]; exact hall _ (List.getElem_mem _)) hfr hlo) (fun P a hp => ⟨hp.1, hp.2.1, hp.2.2.1, by rw [e]; exact hp.2.2.2⟩) (fun P a v B hp hq => ?_)
  obtain ⟨L, ⟨q1, q2, q3, q4, q5, q6, q7, ⟨V', v1, v2, v3, v4, v5⟩, q9⟩, hl, hc, hs⟩ := hq
  refine ⟨L, ⟨q1, q2, q3, q4, q5, q6, q7, ⟨V'.cls, v3, V', v1, rfl, by rw [v4, e, hlen], K4, fun i hi => ?_, fun i hi => ?_⟩, q9⟩, hl, hc, by rw [hs, e]⟩
  · have hi' : i < cs.length := by omega
    rw [v5 i (by omega), hcv i hi']; simp [List.getD_eq_getElem?_getD, hi']
  · have hi' : i < cs.length := by omega
    simp only [List.getD_eq_getElem?_getD, List.getElem?_map, List.getElem?_eq_getElem hi', Option.map_some, Option.getD_some]
    exact fits_lo8 _
end StrChars.Road
namespace StrChars.Road
open Jvm Sem ClassFile Op Lib Jvm.Stand Jvm.Free Jvm.Free.XT
/-- WHAT COMES BACK, in the writer's own shape -/
def QV (Z : State) (x : Addr) (N : Int32) (bs : List Int32) (h : Heap) (n0 : Nat) (v : Option Value) (h' : Heap) (L : List Loc) : Prop := v = none ∧ RoadKit.Fr n0 L ∧ RoadKit.Keep h h' [x] ∧ RoadKit.Exa Z h' x ST ∧ RoadKit.Fld Z h' x ST "coder" "B" (.int 0) ∧
  ∃ (t : Addr) (kb : ClassId), n0 ≤ t ∧ h.size ≤ t ∧ ¬ t = x ∧ RoadKit.Fld Z h' x ST "value" "[B" (.ref t) ∧ RoadKit.Arv Z h' t kb .byte N (bs.map Value.int) (.int 0)
/-- **new String(chars) AT A CALL, FOR THE WRITER**: a char[] of n known ints, each 0 to 255 -/
theorem backV {p : Program} {l : Launch} {e : Env} {R : Room} {s : State} {args : Array Value} {below : List Frame} {len W : Nat} {Z : State} {a0 : Array Value} {h : Heap} (hZ : Z.Warmed39 s.vm) (hw : ∀ d ∈ words, d.before a0 Z = true) {kI : Nat} (wi : (Jvm.Cond.instantiable ST kI).before a0 Z = true)
    {x b : Addr} {kC : ClassId} {cs bs : List Int32} {d v0 c0 : Value} {z N : Int32} {n n0 : Nat} (hx0 : n0 ≤ x) (hh0 : n0 ≤ h.size) (E : RoadKit.Exa Z h x ST) (V : RoadKit.Fld Z h x ST "value" "[B" v0) (C : RoadKit.Fld Z h x ST "coder" "B" c0) (K : RoadKit.Arv Z h b kC .char N (cs.map Value.int) d) (S : RoadKit.Sta Z h ST "COMPACT_STRINGS" "Z" (.int z)) (hz : ¬ z = 0)
    (hn : cs.length = n) (hN : N = Int32.ofNat n) (l0 : 0 < n) (l2 : n ≤ 4000) (hp : ∀ c ∈ cs, ¬ c < 0 ∧ ¬ (255 : Int32) < c) (hb : bs = cs.map (fun c => c.toInt8.toInt32)) (hfr : 4 ≤ R.frames) (hlo : W + 65 ≤ R.locals) :
    Back l R p e below s args (⟨"java/lang/String", "<init>", "([C)V"⟩ : MethodName) len W (fun P a => a = #[.ref x, .ref b] ∧ P.U.heap = h ∧ P.cells + 1 ≤ R.cells ∧ P.slots + n ≤ R.slots)
      (fun P _ v B => ∃ L, QV Z x N bs h n0 v B.U.heap L ∧ B.locs = P.locs ++ L ∧ B.cells = P.cells + 1 ∧ B.slots = P.slots + n) := by
  subst hn hN hb
  refine Back.mono (backArv hZ hw wi E V C K S hz (n32 (by omega)) l0 (by omega) (fun c hc => (hp c hc).2) hfr hlo) (fun P a hp => hp) (fun P a v B hp hq => ?_)
  obtain ⟨L, ⟨q1, q2, q3, q4, q5, q6, q7, ⟨kb, v1, v2⟩, q9⟩, hl, hc, hs⟩ := hq
  exact ⟨L, ⟨q1, fun y hy => by rw [q2 y hy]; exact hx0, q3, q5, q7, h.size, kb, hh0, Nat.le_refl _, Nat.ne_of_gt E.lt, q6, by rw [List.map_map]; exact v2⟩, hl, hc, hs⟩
end StrChars.Road
namespace StrChars
open Jvm Sem ClassFile Op Lib Jvm.Stand Jvm.Free.XT Jvm.Free.ALB Jvm.Free.JM Jvm.Free
open Jvm.Lib.Cold (StaticIs)
def hi8 (x : Int32) : Int32 := lo8 (x >>> ((8 : Int32) &&& 31))
/-- what StringUTF16.getChar makes of two bytes -/
def pairCh (u v : Int32) : Int32 := (((u &&& 255) <<< ((0 : Int32) &&& 31)) ||| ((v &&& 255) <<< ((8 : Int32) &&& 31))).toUInt32.toUInt16.toUInt32.toInt32
theorem shr0 (c : Int32) : c >>> ((0 : Int32) &&& 31) = c := by
  have e : ((0 : Int32) &&& 31) = 0 := by decide
  rw [e]
  apply Int32.toBitVec_inj.mp
  rw [Int32.toBitVec_shiftRight]
  have e1 : ((0 : Int32).toBitVec.smod 32) = 0#32 := by decide
  rw [e1, BitVec.sshiftRight_eq']
  exact BitVec.sshiftRight_zero
theorem lo8_and (x : Int32) : (lo8 x &&& 255).toBitVec.toNat = x.toBitVec.toNat % 256 := by
  have h : (lo8 x).toBitVec = (x.toBitVec.signExtend 8).signExtend 32 := by rw [lo8, Int8.toBitVec_toInt32, Int32.toBitVec_toInt8]
  rw [Int32.toBitVec_and, BitVec.toNat_and, h]
  have e : ((x.toBitVec.signExtend 8).signExtend 32).toNat % 256 = x.toBitVec.toNat % 256 := by
    rw [BitVec.toNat_signExtend]
    have hlt := x.toBitVec.isLt
    simp only [BitVec.toNat_setWidth, BitVec.toNat_signExtend]
    split <;> split <;> omega
  rw [← e]
  exact Nat.and_two_pow_sub_one_eq_mod _ 8
theorem pair_says {c : Int32} (h0 : ¬ c < 0) (h1 : ¬ 65535 < c) : pairCh (lo8 c) (hi8 c) = c := by
  rw [Int32.lt_iff_toInt_lt] at h0 h1
  have e0 : (0 : Int32).toInt = 0 := rfl
  have e1 : (65535 : Int32).toInt = 65535 := rfl
  have hc : c.toInt = c.toBitVec.toNat := by
    have := c.toBitVec.isLt
    have e : c.toInt = c.toBitVec.toInt := rfl
    rw [e] at h0 h1
    rw [e]
    rw [BitVec.toInt_eq_toNat_cond] at h0 h1 ⊢
    split at h0 <;> split <;> omega
  have hn : c.toBitVec.toNat < 65536 := by omega
  have a1 := lo8_and c
  have a2 : (hi8 c &&& 255).toBitVec.toNat = c.toBitVec.toNat / 256 := by
    rw [hi8, lo8_and]
    have e : ((8 : Int32) &&& 31) = 8 := by decide
    rw [e, Int32.toBitVec_shiftRight]
    have e2 : ((8 : Int32).toBitVec.smod 32) = 8#32 := by decide
    rw [e2, BitVec.sshiftRight_eq', BitVec.toNat_sshiftRight_of_msb_false (by rw [BitVec.msb_eq_false_iff_two_mul_lt]; omega)]
    show c.toBitVec.toNat >>> 8 % 256 = _
    rw [Nat.shiftRight_eq_div_pow]
    omega
  unfold pairCh
  apply Int32.toBitVec_inj.mp
  apply BitVec.eq_of_toNat_eq
  have f0 : ((0 : Int32) &&& 31) = 0 := by decide
  have f8 : ((8 : Int32) &&& 31) = 8 := by decide
  rw [f0, f8]
  have g : (((lo8 c &&& 255) <<< (0 : Int32)) ||| ((hi8 c &&& 255) <<< (8 : Int32))).toBitVec.toNat = c.toBitVec.toNat := by
    rw [Int32.toBitVec_or, Int32.toBitVec_shiftLeft, Int32.toBitVec_shiftLeft]
    have s0 : ((0 : Int32).toBitVec.smod 32) = 0#32 := by decide
    have s8 : ((8 : Int32).toBitVec.smod 32) = 8#32 := by decide
    rw [s0, s8, BitVec.toNat_or]
    simp only [BitVec.shiftLeft_eq', BitVec.toNat_shiftLeft, a1, a2]
    show (c.toBitVec.toNat % 256) <<< 0 % 2 ^ 32 ||| (c.toBitVec.toNat / 256) <<< 8 % 2 ^ 32 = _
    rw [Nat.shiftLeft_zero, Nat.mod_eq_of_lt (show c.toBitVec.toNat % 256 < 2 ^ 32 by omega), Nat.mod_eq_of_lt (show (c.toBitVec.toNat / 256) <<< 8 < 2 ^ 32 by rw [Nat.shiftLeft_eq]; omega), Nat.or_comm, ← Nat.shiftLeft_add_eq_or_of_lt (by omega), Nat.shiftLeft_eq]
    omega
  show BitVec.toNat (((((lo8 c &&& 255) <<< (0 : Int32)) ||| ((hi8 c &&& 255) <<< (8 : Int32))).toBitVec.setWidth 16).setWidth 32) = _
  rw [BitVec.toNat_setWidth, BitVec.toNat_setWidth, g]
  omega
end StrChars
namespace StrChars
open Jvm Sem ClassFile Op Lib Jvm.Stand Jvm.Free.XT Jvm.Free.ALB Jvm.Free.JM Jvm.Free
open Jvm.Lib.Cold (StaticIs)
theorem shr1 {n : Nat} (h : 2 * n < 2 ^ 31) : Int32.ofNat (2 * n) >>> ((1 : Int32) &&& 31) = Int32.ofNat n := by
  have e : ((1 : Int32) &&& 31) = 1 := by decide
  rw [e]
  apply Int32.toBitVec_inj.mp
  rw [Int32.toBitVec_shiftRight]
  have e1 : ((1 : Int32).toBitVec.smod 32) = 1#32 := by decide
  have hm : (BitVec.ofNat 32 (2 * n)).toNat = 2 * n := by rw [BitVec.toNat_ofNat, Nat.mod_eq_of_lt (by omega)]
  rw [e1, BitVec.sshiftRight_eq']
  apply BitVec.eq_of_toNat_eq
  show ((BitVec.ofNat 32 (2 * n)).sshiftRight 1).toNat = (BitVec.ofNat 32 n).toNat
  rw [BitVec.toNat_sshiftRight_of_msb_false (by rw [BitVec.msb_eq_false_iff_two_mul_lt, hm]; omega), hm, BitVec.toNat_ofNat, Nat.shiftRight_eq_div_pow]
  omega
/-- charAt's cast of a byte read back -/
def chr8 (u : Int32) : Int32 := (u &&& 255).toUInt32.toUInt16.toUInt32.toInt32
theorem chr8_lo8 {c : Int32} (h0 : ¬ c < 0) (h1 : ¬ 255 < c) : chr8 (lo8 c) = c := by
  have t : ∀ k : Fin 256, (Int32.ofNat k.val).toUInt32.toUInt16.toUInt32.toInt32 = Int32.ofNat k.val := by decide +kernel
  unfold chr8
  rw [lo8_mask h0 h1]
  rw [Int32.lt_iff_toInt_lt] at h0 h1
  have e0 : (0 : Int32).toInt = 0 := rfl
  have e1 : (255 : Int32).toInt = 255 := rfl
  obtain ⟨k, hk⟩ : ∃ k : Nat, c.toInt = k := ⟨c.toInt.toNat, by omega⟩
  have hx : c = Int32.ofNat k := Int32.toInt_inj.mp (by rw [hk, Int32.toInt_ofNat_small (by omega)])
  rw [hx]
  exact t ⟨k, by omega⟩
theorem narrow_ch {c : Int32} (h0 : ¬ c < 0) (h1 : ¬ 65535 < c) : narrow .char (.int c) = .int c := by
  have q : narrow .char (.int (pairCh (lo8 c) (hi8 c))) = .int (pairCh (lo8 c) (hi8 c)) := narrow_c _
  rwa [pair_says h0 h1] at q
/-- the array's cell V codes the n chars f 0 .. f (n - 1) by the coder cd, as the JDK does: coder 1 just where some char is above 255 -/
def Cod (cd : Int32) (n : Nat) (f : Nat → Int32) (V : Cell) : Prop := (cd = 0 ∧ V.slots.size = n ∧ ∀ j, j < n → V.slots[j]? = some (.int (lo8 (f j))) ∧ ¬ 255 < f j) ∨ (cd = 1 ∧ V.slots.size = 2 * n ∧ (∀ j, j < n → V.slots[2 * j]? = some (.int (lo8 (f j))) ∧ V.slots[2 * j + 1]? = some (.int (hi8 (f j)))) ∧ ∃ j, j < n ∧ 255 < f j)
theorem Cod.cd {cd : Int32} {n : Nat} {f : Nat → Int32} {V : Cell} (h : Cod cd n f V) : cd = 0 ∨ cd = 1 := h.imp (fun q => q.1) fun q => q.1
theorem Cod.len {cd : Int32} {n : Nat} {f : Nat → Int32} {V : Cell} (h : Cod cd n f V) (hs : V.slots.size < 2 ^ 31) : Int32.ofNat V.slots.size >>> (cd &&& 31) = Int32.ofNat n := by
  rcases h with ⟨rfl, h, -⟩ | ⟨rfl, h, -⟩
  · rw [shr0, h]
  · rw [h, shr1 (by omega)]
/-- **x is a String of the n chars f 0 .. f (n - 1)**, Latin-1 or UTF-16; its array at t has the cell V -/
def Txt (x t : Addr) (V : Cell) (cd : Int32) (n : Nat) (f : Nat → Int32) (U : State) : Prop := Exact "java/lang/String" x U ∧ Has x "java/lang/String" "value" "[B" (.ref t) U ∧ Has x "java/lang/String" "coder" "B" (.int cd) U ∧ XT.Arr .byte t V U ∧ Cod cd n f V ∧ ∀ j, j < n → ¬ f j < 0 ∧ ¬ 65535 < f j
theorem Txt.mv {x t : Addr} {V : Cell} {cd : Int32} {n : Nat} {f : Nat → Int32} {U U' : State} (h : Txt x t V cd n f U) (hal : U.vm.Alike U'.vm) (hh : U'.heap = U.heap) : Txt x t V cd n f U' := ⟨h.1.mv hal hh, h.2.1.mv hal hh, h.2.2.1.mv hal hh, h.2.2.2.1.mv hal hh, h.2.2.2.2⟩
namespace Cdr
def yN : MethodName := ⟨"java/lang/String", "coder", "()B"⟩
abbrev yB : ByteArray := jdk_42_method_152_code
theorem d0 : decode yB 0 = .ok (.getstatic 38, 3) := by decide +kernel
theorem d3 : decode yB 3 = .ok (.ifCond (.eq) 10, 3) := by decide +kernel
theorem d6 : decode yB 6 = .ok (.aload_n 0, 1) := by decide +kernel
theorem d7 : decode yB 7 = .ok (.getfield 15, 3) := by decide +kernel
theorem d10 : decode yB 10 = .ok (.goto 4, 3) := by decide +kernel
theorem d14 : decode yB 14 = .ok (.ireturn, 1) := by decide +kernel
def site : List Cond := [.fieldLink "java/lang/String" 38 "java/lang/String" "COMPACT_STRINGS" "Z", .fieldLink "java/lang/String" 15 "java/lang/String" "coder" "B"]
def tab : Cond := tabOf yN yB 1 (some .byte) site
def P (x : Addr) (cd z : Int32) (args : Array Value) (s : State) : Prop := args = #[.ref x] ∧ Has x "java/lang/String" "coder" "B" (.int cd) s ∧ (cd = 0 ∨ cd = 1) ∧ StaticIs s "java/lang/String" "COMPACT_STRINGS" "Z" (.int z) ∧ ¬ z = 0
def E (cd : Int32) (r : Option Value) (s u : State) : Prop := XT.PureE (some (.int cd)) r s u
theorem law (l : Launch) (x : Addr) (cd z : Int32) : Law l yN 1 0 0 0 yB 1 (some .byte) site (P x cd z) (E cd) [] 0 0 := by
  refine Law.of_walk (plainFor_of_name (by decide +kernel)) (by decide +kernel) (by decide +kernel) (by decide) (fun _ _ h => by rw [h.1]; rfl) (fun _ U U' hal hh h => ⟨h.1, h.2.1.mv hal hh, h.2.2.1, h.2.2.2.1.there hal hh, h.2.2.2.2⟩) (fun r U U' V V' h1 hal h2 h => XT.PureE.mv r U U' V V' h1 hal h2 h) ?_
  intro p e s m args below meth c s₁ X0 hexec hbytes hml hret hlk hnm hown hh0 W hP
  obtain ⟨rfl, hx, hc, s1, hz⟩ := hP
  have c1 : Steps p.tables e below (s₁.setTop (entryFrame m #[.ref x] 1)) (s₁.setTop (mkF m 0 #[.val (.ref x)] [])) := entry rfl
  obtain ⟨T2, X2, q2, st2⟩ := X0.sget hexec hown (wk W (.fieldLink "java/lang/String" 38 "java/lang/String" "COMPACT_STRINGS" "Z")) s1 (fun _ _ h => by rw [hh0]; exact h) (g := (mkF m 0 #[.val (.ref x)] [])) rfl (hb hbytes d0)
  have hh2 := q2.trans hh0
  have c3 : Steps p.tables e below (s₁.setTop (entryFrame m #[.ref x] 1)) (T2.setTop (mkF m 7 #[.val (.ref x)] [.ref x])) := (c1.trans (st2 _ (Steps.refl _))).trans (by
    refine XS.ifNo X2.here hexec rfl (hb hbytes d3) rfl (i0_eq_f hz) ?_
    refine XS.aloadN X2.here hexec rfl (hb hbytes d6) rfl rfl ?_
    exact Steps.refl _)
  obtain ⟨T4, X4, q4, st4⟩ := X2.hget hexec hown (wk W (.fieldLink "java/lang/String" 15 "java/lang/String" "coder" "B")) (hx.mv X2.warmed.alike hh2) (g := (mkF m 7 #[.val (.ref x)] [.ref x])) rfl (rest := []) rfl (hb hbytes d7)
  have c5 : Steps p.tables e below (s₁.setTop (entryFrame m #[.ref x] 1)) (T4.setTop (mkF m 14 #[.val (.ref x)] [.int cd])) := (c3.trans (st4 _ (Steps.refl _))).trans (by
    refine XS.goto X4.here hexec rfl (pc0 := 10) rfl (hb hbytes d10) (by decide) rfl ?_
    exact Steps.refl _)
  exact ⟨T4, some (.int cd), _, _, _, X4, rfl, rfl, rfl, (fun h => by cases h), ⟨rfl, q4.trans hh2⟩, fun fs hl => c5.trans (X4.ireturnOut hexec hret (by rcases hc with rfl | rfl <;> rfl) (Or.inr (Or.inr (Or.inl rfl))) (hb hbytes d14) hl)⟩
end Cdr
namespace Len
def yN : MethodName := ⟨"java/lang/String", "length", "()I"⟩
abbrev yB : ByteArray := jdk_42_method_54_code
theorem d0 : decode yB 0 = .ok (.aload_n 0, 1) := by decide +kernel
theorem d1 : decode yB 1 = .ok (.getfield 9, 3) := by decide +kernel
theorem d4 : decode yB 4 = .ok (.arraylength, 1) := by decide +kernel
theorem d5 : decode yB 5 = .ok (.aload_n 0, 1) := by decide +kernel
theorem d6 : decode yB 6 = .ok (.invokevirtual 335, 3) := by decide +kernel
theorem d9 : decode yB 9 = .ok (.ishr, 1) := by decide +kernel
theorem d10 : decode yB 10 = .ok (.ireturn, 1) := by decide +kernel
def site : List Cond := [.fieldLink "java/lang/String" 9 "java/lang/String" "value" "[B", Cdr.tab] ++ virtW "java/lang/String" 335 "java/lang/String" Cdr.yN Cdr.yN
def tab : Cond := tabOf yN yB 1 (some .int) site
def P (x t : Addr) (V : Cell) (cd : Int32) (n : Nat) (f : Nat → Int32) (z : Int32) (args : Array Value) (s : State) : Prop := args = #[.ref x] ∧ Txt x t V cd n f s ∧ StaticIs s "java/lang/String" "COMPACT_STRINGS" "Z" (.int z) ∧ ¬ z = 0
def E (n : Nat) (r : Option Value) (s u : State) : Prop := XT.PureE (some (.int (Int32.ofNat n))) r s u
/-- length() of a String of n chars, in either coding -/
theorem law (l : Launch) (x t : Addr) (V : Cell) (cd : Int32) (n : Nat) (f : Nat → Int32) (z : Int32) : Law l yN 1 0 1 13 yB 1 (some .int) site (P x t V cd n f z) (E n) [] 0 0 := by
  refine Law.of_walk (plainFor_of_name (by decide +kernel)) (by decide +kernel) (by decide +kernel) (by decide) (fun _ _ h => by rw [h.1]; rfl) (fun _ U U' hal hh h => ⟨h.1, h.2.1.mv hal hh, h.2.2.1.there hal hh, h.2.2.2⟩) (fun r U U' V V' h1 hal h2 h => XT.PureE.mv r U U' V V' h1 hal h2 h) ?_
  intro p e s m args below meth c s₁ X0 hexec hbytes hml hret hlk hnm hown hh0 W hP
  obtain ⟨rfl, hx, s1, hz⟩ := hP
  have v31 := hx.2.2.2.1.2.2.2
  have c1 : Steps p.tables e below (s₁.setTop (entryFrame m #[.ref x] 1)) (s₁.setTop (mkF m 1 #[.val (.ref x)] [.ref x])) := Steps.trans (entry rfl) (by
    show Steps p.tables e below (s₁.setTop (mkF m 0 #[.val (.ref x)] [])) _
    refine XS.aloadN X0.here hexec rfl (hb hbytes d0) rfl rfl ?_
    exact Steps.refl _)
  obtain ⟨T2, X2, q2, st2⟩ := X0.hget hexec hown (wk W (.fieldLink "java/lang/String" 9 "java/lang/String" "value" "[B")) (hx.mv X0.warmed.alike hh0).2.1 (g := (mkF m 1 #[.val (.ref x)] [.ref x])) rfl (rest := []) rfl (hb hbytes d1)
  have hh2 := q2.trans hh0
  have hx2 := hx.mv X2.warmed.alike hh2
  have c3 : Steps p.tables e below (s₁.setTop (entryFrame m #[.ref x] 1)) (T2.setTop (mkF m 6 #[.val (.ref x)] [.ref x, .int (Int32.ofNat V.slots.size)])) := (c1.trans (st2 _ (Steps.refl _))).trans (by
    refine X2.alen hexec hx2.2.2.2.1 rfl rfl (hb hbytes d4) ?_
    refine XS.aloadN X2.here hexec rfl (hb hbytes d5) rfl rfl ?_
    exact Steps.refl _)
  obtain ⟨v4, T4, X4, E4, g4⟩ := X2.callV hexec (Cdr.law l x cd z) hown (wks W (virtW "java/lang/String" 335 "java/lang/String" Cdr.yN Cdr.yN)) rfl (by decide) (wk W Cdr.tab) (W := 1) (Nat.le_of_ble_eq_true rfl) (Nat.le_of_ble_eq_true rfl) (Nat.le_refl _) (Nat.le_refl _) (hx2.1.fc X2.warmed.alike) hx2.1.is (g := (mkF m 6 #[.val (.ref x)] [.ref x, .int (Int32.ofNat V.slots.size)])) rfl (by rw [hml]; rfl) c3 (argsL := []) (rest := [.int (Int32.ofNat V.slots.size)]) rfl rfl (by show 2 * 0 + (1 + 0) ≤ _; decide) (hb hbytes d6) (⟨rfl, hx2.2.2.1, hx.2.2.2.2.1.cd, s1.there X2.warmed.alike hh2, hz⟩)
  obtain ⟨rfl, q4⟩ := E4
  have c5 : Steps p.tables e below (s₁.setTop (entryFrame m #[.ref x] 1)) (T4.setTop (mkF m 10 #[.val (.ref x)] [.int (Int32.ofNat V.slots.size >>> (cd &&& 31))])) := Steps.trans g4 (by
    refine ishr X4.here hexec rfl (hb hbytes d9) rfl ?_
    exact Steps.refl _)
  rw [hx.2.2.2.2.1.len v31] at c5
  exact ⟨T4, some (.int (Int32.ofNat n)), _, _, _, X4, rfl, rfl, rfl, (fun h => by cases h), ⟨rfl, q4.trans hh2⟩, fun fs hl => c5.trans (X4.ireturnOut hexec hret rfl (Or.inl rfl) (hb hbytes d10) hl)⟩
theorem pays {l : Launch} {R : Room} {p : Program} {e : Env} {below : List Frame} {s : State} {sargs : Array Value} {len W : Nat} (x t : Addr) (V : Cell) (cd : Int32) (n : Nat) (f : Nat → Int32) (z : Int32) (htab : tab.before sargs s = true) (hfr : 2 ≤ R.frames) (hlo : W + 25 ≤ R.locals) :
    Back l R p e below s sargs yN len W (fun A₁ a₁ => A₁.cells + 0 ≤ R.cells ∧ A₁.slots + 0 ≤ R.slots ∧ P x t V cd n f z a₁ A₁.U) (fun A₁ _ v₁ B₁ => E n v₁ A₁.U B₁.U ∧ B₁.locs = A₁.locs ++ [] ∧ B₁.cells = A₁.cells + 0 ∧ B₁.slots = A₁.slots + 0) :=
  (law l x t V cd n f z).pays htab hfr (by omega)
end Len
namespace IsL
def yN : MethodName := ⟨"java/lang/String", "isLatin1", "()Z"⟩
abbrev yB : ByteArray := jdk_42_method_154_code
theorem d0 : decode yB 0 = .ok (.getstatic 38, 3) := by decide +kernel
theorem d3 : decode yB 3 = .ok (.ifCond (.eq) 14, 3) := by decide +kernel
theorem d6 : decode yB 6 = .ok (.aload_n 0, 1) := by decide +kernel
theorem d7 : decode yB 7 = .ok (.getfield 15, 3) := by decide +kernel
theorem d10 : decode yB 10 = .ok (.ifCond (.ne) 7, 3) := by decide +kernel
theorem d13 : decode yB 13 = .ok (.iconst 1, 1) := by decide +kernel
theorem d14 : decode yB 14 = .ok (.goto 4, 3) := by decide +kernel
theorem d17 : decode yB 17 = .ok (.iconst 0, 1) := by decide +kernel
theorem d18 : decode yB 18 = .ok (.ireturn, 1) := by decide +kernel
def site : List Cond := [.fieldLink "java/lang/String" 38 "java/lang/String" "COMPACT_STRINGS" "Z", .fieldLink "java/lang/String" 15 "java/lang/String" "coder" "B"]
def tab : Cond := tabOf yN yB 1 (some .boolean) site
def P (x : Addr) (cd z : Int32) (args : Array Value) (s : State) : Prop := args = #[.ref x] ∧ Has x "java/lang/String" "coder" "B" (.int cd) s ∧ (cd = 0 ∨ cd = 1) ∧ StaticIs s "java/lang/String" "COMPACT_STRINGS" "Z" (.int z) ∧ ¬ z = 0
def E (cd : Int32) (r : Option Value) (s u : State) : Prop := XT.PureE (some (.int (1 - cd))) r s u
theorem law (l : Launch) (x : Addr) (cd z : Int32) : Law l yN 1 0 0 0 yB 1 (some .boolean) site (P x cd z) (E cd) [] 0 0 := by
  refine Law.of_walk (plainFor_of_name (by decide +kernel)) (by decide +kernel) (by decide +kernel) (by decide) (fun _ _ h => by rw [h.1]; rfl) (fun _ U U' hal hh h => ⟨h.1, h.2.1.mv hal hh, h.2.2.1, h.2.2.2.1.there hal hh, h.2.2.2.2⟩) (fun r U U' V V' h1 hal h2 h => XT.PureE.mv r U U' V V' h1 hal h2 h) ?_
  intro p e s m args below meth c s₁ X0 hexec hbytes hml hret hlk hnm hown hh0 W hP
  obtain ⟨rfl, hx, hc, s1, hz⟩ := hP
  have c1 : Steps p.tables e below (s₁.setTop (entryFrame m #[.ref x] 1)) (s₁.setTop (mkF m 0 #[.val (.ref x)] [])) := entry rfl
  obtain ⟨T2, X2, q2, st2⟩ := X0.sget hexec hown (wk W (.fieldLink "java/lang/String" 38 "java/lang/String" "COMPACT_STRINGS" "Z")) s1 (fun _ _ h => by rw [hh0]; exact h) (g := (mkF m 0 #[.val (.ref x)] [])) rfl (hb hbytes d0)
  have hh2 := q2.trans hh0
  have c3 : Steps p.tables e below (s₁.setTop (entryFrame m #[.ref x] 1)) (T2.setTop (mkF m 7 #[.val (.ref x)] [.ref x])) := (c1.trans (st2 _ (Steps.refl _))).trans (by
    refine XS.ifNo X2.here hexec rfl (hb hbytes d3) rfl (i0_eq_f hz) ?_
    refine XS.aloadN X2.here hexec rfl (hb hbytes d6) rfl rfl ?_
    exact Steps.refl _)
  obtain ⟨T4, X4, q4, st4⟩ := X2.hget hexec hown (wk W (.fieldLink "java/lang/String" 15 "java/lang/String" "coder" "B")) (hx.mv X2.warmed.alike hh2) (g := (mkF m 7 #[.val (.ref x)] [.ref x])) rfl (rest := []) rfl (hb hbytes d7)
  have c5 : Steps p.tables e below (s₁.setTop (entryFrame m #[.ref x] 1)) (T4.setTop (mkF m 10 #[.val (.ref x)] [.int cd])) := c3.trans (st4 _ (Steps.refl _))
  have c6 : Steps p.tables e below (s₁.setTop (entryFrame m #[.ref x] 1)) (T4.setTop (mkF m 18 #[.val (.ref x)] [.int (1 - cd)])) := by
    rcases hc with rfl | rfl
    · exact c5.trans (by
        refine XS.ifNo X4.here hexec rfl (hb hbytes d10) rfl (i0_ne_f rfl) ?_
        refine iconstV X4.here hexec rfl 1 (hb hbytes d13) (by decide) ?_
        refine XS.goto X4.here hexec rfl (pc0 := 14) rfl (hb hbytes d14) (by decide) rfl ?_
        exact Steps.refl _)
    · exact c5.trans (by
        refine XS.ifYes X4.here hexec rfl (pc0 := 10) rfl (hb hbytes d10) rfl (i0_ne_t (by decide)) (by decide) rfl ?_
        refine iconstV X4.here hexec rfl 0 (hb hbytes d17) (by decide) ?_
        exact Steps.refl _)
  exact ⟨T4, some (.int (1 - cd)), _, _, _, X4, rfl, rfl, rfl, (fun h => by cases h), ⟨rfl, q4.trans hh2⟩, fun fs hl => c6.trans (X4.ireturnOut hexec hret (by rcases hc with rfl | rfl <;> rfl) (Or.inr (Or.inl rfl)) (hb hbytes d18) hl)⟩
end IsL
namespace LChA
def yN : MethodName := ⟨"java/lang/StringLatin1", "charAt", "([BI)C"⟩
abbrev yB : ByteArray := jdk_43_method_2_code
theorem d0 : decode yB 0 = .ok (.iload_n 1, 1) := by decide +kernel
theorem d1 : decode yB 1 = .ok (.aload_n 0, 1) := by decide +kernel
theorem d2 : decode yB 2 = .ok (.arraylength, 1) := by decide +kernel
theorem d3 : decode yB 3 = .ok (.invokestatic 9, 3) := by decide +kernel
theorem d6 : decode yB 6 = .ok (.aload_n 0, 1) := by decide +kernel
theorem d7 : decode yB 7 = .ok (.iload_n 1, 1) := by decide +kernel
theorem d8 : decode yB 8 = .ok (.baload, 1) := by decide +kernel
theorem d9 : decode yB 9 = .ok (.sipush 255, 3) := by decide +kernel
theorem d12 : decode yB 12 = .ok (.iand, 1) := by decide +kernel
theorem d13 : decode yB 13 = .ok (.i2c, 1) := by decide +kernel
theorem d14 : decode yB 14 = .ok (.ireturn, 1) := by decide +kernel
def site : List Cond := [JO.Str_checkIndex.tab] ++ staticW "java/lang/StringLatin1" 9 JO.Str_checkIndex.yN
def tab : Cond := tabOf yN yB 2 (some .char) site
def P (t : Addr) (V : Cell) (i : Nat) (u : Int32) (fm : Value) (args : Array Value) (s : State) : Prop := args = #[.ref t, .int (Int32.ofNat i)] ∧ XT.Arr .byte t V s ∧ V.slots[i]? = some (.int u) ∧ (StaticIs s "jdk/internal/util/Preconditions" "SIOOBE_FORMATTER" "Ljava/util/function/BiFunction;" fm ∧ fm.isRef = true)
def E (u : Int32) (r : Option Value) (s w : State) : Prop := XT.PureE (some (.int (chr8 u))) r s w
theorem law (l : Launch) (t : Addr) (V : Cell) (i : Nat) (u : Int32) (fm : Value) : Law l yN 2 2 2 27 yB 2 (some .char) site (P t V i u fm) (E u) [] 0 0 := by
  refine Law.of_walk (plainFor_of_name (by decide +kernel)) (by decide +kernel) (by decide +kernel) (by decide) (fun _ _ h => by rw [h.1]; rfl) (fun _ U U' hal hh h => ⟨h.1, h.2.1.mv hal hh, h.2.2.1, h.2.2.2.1.there hal hh, h.2.2.2.2⟩) (fun r U U' V V' h1 hal h2 h => XT.PureE.mv r U U' V V' h1 hal h2 h) ?_
  intro p e s m args below meth c s₁ X0 hexec hbytes hml hret hlk hnm hown hh0 W hP
  obtain ⟨rfl, hV, hu, s1, rf⟩ := hP
  have v31 := hV.2.2.2
  have hi : i < V.slots.size := (Array.getElem?_eq_some_iff.mp hu).1
  have c1 : Steps p.tables e below (s₁.setTop (entryFrame m #[.ref t, .int (Int32.ofNat i)] 2)) (s₁.setTop (mkF m 0 #[.val (.ref t), .val (.int (Int32.ofNat i))] [])) := entry rfl
  have c2 : Steps p.tables e below (s₁.setTop (entryFrame m #[.ref t, .int (Int32.ofNat i)] 2)) (s₁.setTop (mkF m 3 #[.val (.ref t), .val (.int (Int32.ofNat i))] [.int (Int32.ofNat V.slots.size), .int (Int32.ofNat i)])) := c1.trans (by
    refine XS.iloadN X0.here hexec rfl (hb hbytes d0) rfl ?_
    refine XS.aloadN X0.here hexec rfl (hb hbytes d1) rfl rfl ?_
    refine X0.alen hexec (hV.mv X0.warmed.alike hh0) rfl rfl (hb hbytes d2) ?_
    exact Steps.refl _)
  obtain ⟨v3, T3, X3, E3, g3⟩ := X0.callS hexec (JO.Str_checkIndex.law l (Int32.ofNat i) (Int32.ofNat V.slots.size) fm) hown (wks W (staticW "java/lang/StringLatin1" 9 JO.Str_checkIndex.yN)) (wk W JO.Str_checkIndex.tab) (W := 0) (Nat.le_of_ble_eq_true rfl) (Nat.le_of_ble_eq_true rfl) (Nat.le_refl _) (Nat.le_refl _) (g := (mkF m 3 #[.val (.ref t), .val (.int (Int32.ofNat i))] [.int (Int32.ofNat V.slots.size), .int (Int32.ofNat i)])) rfl (by rw [hml]; rfl) c2 (argsL := [.int (Int32.ofNat i), .int (Int32.ofNat V.slots.size)]) (rest := []) rfl rfl (by show 2 * 0 + 0 ≤ _; decide) (hb hbytes d3) (⟨rfl, rf, s1.there X0.warmed.alike hh0, Int32.ofNat_not_neg (by omega), lt32 v31 hi⟩)
  obtain ⟨rfl, q3⟩ := E3
  have hh3 := q3.trans hh0
  have c4 : Steps p.tables e below (s₁.setTop (entryFrame m #[.ref t, .int (Int32.ofNat i)] 2)) (T3.setTop (mkF m 14 #[.val (.ref t), .val (.int (Int32.ofNat i))] [.int (chr8 u)])) := Steps.trans g3 (by
    refine XS.aloadN X3.here hexec rfl (hb hbytes d6) rfl rfl ?_
    refine XS.iloadN X3.here hexec rfl (hb hbytes d7) rfl ?_
    refine X3.aget hexec (hV.mv X3.warmed.alike hh3) rfl hu rfl rfl (hb hbytes d8) ?_
    refine sipushV X3.here hexec rfl 255 (hb hbytes d9) (by decide) ?_
    refine XS.iand X3.here hexec rfl (hb hbytes d12) rfl ?_
    refine i2c X3.here hexec rfl (hb hbytes d13) rfl ?_
    exact Steps.refl _)
  exact ⟨T3, some (.int (chr8 u)), _, _, _, X3, rfl, rfl, rfl, (fun h => by cases h), ⟨rfl, hh3⟩, fun fs hl => c4.trans (X3.ireturnOut hexec hret (narrow_c _) (Or.inr (Or.inr (Or.inr (Or.inl rfl)))) (hb hbytes d14) hl)⟩
end LChA
end StrChars
namespace StrChars.Road
open Jvm Sem ClassFile Op Lib Jvm.Stand Jvm.Free Jvm.Free.XT
open Jvm.Lib.Cold (StaticIs)
theorem consq {a : Array Value} {s : State} {c : Jvm.Cond} {L : List Jvm.Cond} (h0 : c.before a s = true) (h : ∀ w ∈ L, w.before a s = true) : ∀ w ∈ c :: L, w.before a s = true := fun w hw => (List.mem_cons.mp hw).elim (fun e => e ▸ h0) (h w)
/-- the words of String.length(), either coding -/
abbrev wordsLen : List Jvm.Cond := [.code Len.yN Len.yB 1 (some .int), .initialized ST, .fieldLink ST 9 ST "value" "[B", .fieldLink ST 38 ST "COMPACT_STRINGS" "Z", .fieldLink ST 15 ST "coder" "B", .code Cdr.yN Cdr.yB 1 (some .byte), .methodLink ST 335 Cdr.yN, .declares Cdr.yN, .selects ST Cdr.yN Cdr.yN, .instanceMethod Cdr.yN]
theorem tabLen_of {a : Array Value} {s : State} (h : ∀ w ∈ wordsLen, w.before a s = true) : Len.tab.before a s = true := by
  have hc : Cdr.tab.before a s = true := unparts (wk h (.code Cdr.yN Cdr.yB 1 (some .byte))) (wks h (.initialized Cdr.yN.cls :: Cdr.site))
  have q := consq hc h
  exact unparts (wk q (.code Len.yN Len.yB 1 (some .int))) (wks q (.initialized Len.yN.cls :: Len.site))
theorem movedLen {Z s : State} {a0 args : Array Value} (hZ : Z.Warmed39 s.vm) (hw : ∀ d ∈ wordsLen, d.before a0 Z = true) : ∀ d ∈ wordsLen, d.before args s = true := fun d hd => by
  have q := hw d hd
  have t : ∀ d ∈ wordsLen, d = .arrayClass .byte ∨ (d.onTables && d.keepsFace) = true := by decide +kernel
  rcases t d hd with rfl | t
  · exact RoadKit.mvA hZ q
  · exact RoadKit.mv hZ q t
/-- the bytes of the chars cs, low before high -/
def wideBytes : List Int32 → List Value
  | [] => []
  | c :: cs => .int (lo8 c) :: .int (hi8 c) :: wideBytes cs
theorem wide_lo (d : Value) : ∀ (cs : List Int32) (j : Nat), j < cs.length → (wideBytes cs).getD (2 * j) d = .int (lo8 (cs.getD j 0))
  | [], j, h => absurd h (Nat.not_lt_zero j)
  | c :: cs, 0, _ => rfl
  | c :: cs, j + 1, h => by
    have q := wide_lo d cs j (by simpa using h)
    rw [show 2 * (j + 1) = 2 * j + 1 + 1 from by omega]
    simpa [wideBytes] using q
theorem wide_hi (d : Value) : ∀ (cs : List Int32) (j : Nat), j < cs.length → (wideBytes cs).getD (2 * j + 1) d = .int (hi8 (cs.getD j 0))
  | [], j, h => absurd h (Nat.not_lt_zero j)
  | c :: cs, 0, _ => rfl
  | c :: cs, j + 1, h => by
    have q := wide_hi d cs j (by simpa using h)
    rw [show 2 * (j + 1) + 1 = 2 * j + 1 + 1 + 1 from by omega]
    simpa [wideBytes] using q
theorem low_at (d : Value) (cs : List Int32) (j : Nat) (h : j < cs.length) : (cs.map fun c => Value.int (lo8 c)).getD j d = .int (lo8 (cs.getD j 0)) := by
  simp [List.getD_eq_getElem?_getD, h]
/-- an array of N2 bytes vs codes the chars cs by the coder cd -/
def CodA (cs : List Int32) (cd N2 : Int32) (vs : List Value) : Prop := (cd = 0 ∧ N2 = Int32.ofNat cs.length ∧ vs = (cs.map fun c => Value.int (lo8 c)) ∧ ∀ c ∈ cs, ¬ 255 < c) ∨ (cd = 1 ∧ N2 = Int32.ofNat (2 * cs.length) ∧ vs = wideBytes cs ∧ ∃ c ∈ cs, 255 < c)
theorem CodA.cod {cs : List Int32} {cd N2 : Int32} {vs : List Value} {V : Cell} (h : CodA cs cd N2 vs) (hn : 2 * cs.length < 2 ^ 31) (hs : V.slots.size = N2.toNatClampNeg) (hv : RoadKit.Has V vs (.int 0)) : Cod cd cs.length (fun j => cs.getD j 0) V := by
  rcases h with ⟨rfl, rfl, rfl, h⟩ | ⟨rfl, rfl, rfl, c, hc, hw⟩
  · rw [n32 (by omega)] at hs
    exact Or.inl ⟨rfl, hs, fun j hj => ⟨by rw [hv j (by omega), low_at _ _ _ hj], by
      have e : cs.getD j 0 = cs[j] := by simp [List.getD_eq_getElem?_getD, hj]
      show ¬ 255 < cs.getD j 0
      rw [e]; exact h _ (List.getElem_mem _)⟩⟩
  · rw [n32 (by omega)] at hs
    obtain ⟨j, hj, rfl⟩ := List.getElem_of_mem hc
    exact Or.inr ⟨rfl, hs, fun j hj => ⟨by rw [hv _ (by omega), wide_lo _ _ _ hj], by rw [hv _ (by omega), wide_hi _ _ _ hj]⟩, j, hj, by
      have e : cs.getD j 0 = cs[j] := by simp [List.getD_eq_getElem?_getD, hj]
      show 255 < cs.getD j 0
      rw [e]; exact hw⟩
/-- an object of exactly java/lang/String, its two fields found: as the laws ask it -/
theorem strObj {Z U : State} {a0 : Array Value} {kI : Nat} (wi : (Jvm.Cond.instantiable ST kI).before a0 Z = true) (al : Z.vm.Alike U.vm) {x : Addr} {v0 c0 : Value} (E : RoadKit.Exa Z U.heap x ST) (V : RoadKit.Fld Z U.heap x ST "value" "[B" v0) (C : RoadKit.Fld Z U.heap x ST "coder" "B" c0) :
    ∃ (D : Cell) (fV fC : Field), Blank ST x D U ∧ Found ST "value" "[B" fV U ∧ Found ST "coder" "B" fC U ∧ D.slots[fV.slot]? = some v0 ∧ D.slots[fC.slot]? = some c0 ∧ RoadKit.slotOf Z ST "value" "[B" = fV.slot ∧ RoadKit.slotOf Z ST "coder" "B" = fC.slot := by
  obtain ⟨D, cfV, kV, iV, fV, hD, gV, stV, knV, obV, asV, slV⟩ := V
  obtain ⟨D', cfC, kC, iC, fC, hD', gC, stC, -, -, asC, slC⟩ := C
  cases hD.symm.trans hD'
  obtain ⟨D2, kD, e1, e2, e3, e4, e5⟩ := E
  cases hD.symm.trans e1
  obtain ⟨c2, k2, i1, i2, i3, -⟩ := Cond.instantiable_spec wi
  cases e2.symm.trans i1
  cases e3.symm.trans i2
  obtain ⟨kU, u1, u2⟩ := al.2.2 _ _ e3
  exact ⟨D, fV, fC, ⟨hD, ⟨knV, fun q hq => by rw [hq] at obV; cases obV⟩, by rw [al.findClass]; exact e2, kU, u1, by rw [u2]; exact i3, by rw [u2]; exact e5 i3⟩, ⟨SBG.found_only al ⟨cfV, kV, iV, gV⟩, stV⟩, ⟨SBG.found_only al ⟨cfC, kC, iC, gC⟩, stC⟩, slV, slC, by simp [RoadKit.slotOf, gV], by simp [RoadKit.slotOf, gC]⟩
theorem sta_is {Z U : State} (al : Z.vm.Alike U.vm) {C n d : String} {v : Value} (S : RoadKit.Sta Z U.heap C n d v) : StaticIs U C n d v := by
  obtain ⟨cfS, iS, kS, fS, st, cS, t1, t2, t3, t4, t5, t6, t7⟩ := S
  exact StaticIs.there (s := { Z with heap := U.heap }) ⟨cfS, iS, kS, fS, st, cS, t1, t2, t3, t4, t5, (fun q => by rw [q] at t6; cases t6), t7⟩ al rfl
/-- **length() OF SUCH A STRING** -/
theorem lenW {p : Program} {l : Launch} {e : Env} {R : Room} {s : State} {args : Array Value} {below : List Frame} {len W : Nat} {Z : State} {a0 : Array Value} {h : Heap} (hZ : Z.Warmed39 s.vm) (hw : ∀ d ∈ wordsLen, d.before a0 Z = true) {kI : Nat} (wi : (Jvm.Cond.instantiable ST kI).before a0 Z = true)
    {x t : Addr} {kb : ClassId} {cs : List Int32} {cd N2 z : Int32} {vs : List Value} (E : RoadKit.Exa Z h x ST) (V : RoadKit.Fld Z h x ST "value" "[B" (.ref t)) (C : RoadKit.Fld Z h x ST "coder" "B" (.int cd)) (K : RoadKit.Arv Z h t kb .byte N2 vs (.int 0)) (hc : CodA cs cd N2 vs) (hb : ∀ c ∈ cs, ¬ c < 0 ∧ ¬ (65535 : Int32) < c)
    (S : RoadKit.Sta Z h ST "COMPACT_STRINGS" "Z" (.int z)) (hz : ¬ z = 0) (l2 : cs.length ≤ 4000) (hfr : 2 ≤ R.frames) (hlo : W + 25 ≤ R.locals) :
    Back l R p e below s args (⟨"java/lang/String", "length", "()I"⟩ : MethodName) len W (fun P a => a = #[.ref x] ∧ P.U.heap = h ∧ P.cells + 0 ≤ R.cells ∧ P.slots + 0 ≤ R.slots)
      (fun P _ v B => ∃ L, (v = some (.int (Int32.ofNat cs.length)) ∧ L = [] ∧ B.U.heap = h) ∧ B.locs = P.locs ++ L ∧ B.cells = P.cells + 0 ∧ B.slots = P.slots + 0) := by
  obtain ⟨A, K1, K2, K3, K4, K5, K6⟩ := K
  have hcod := hc.cod (by omega) K3 K5
  intro m meth c P g ig mk a X hg hsize hdg hW hn hp'
  obtain ⟨rfl, rfl, r1, r2⟩ := hp'
  have al : Z.vm.Alike P.U.vm := hZ.alike.trans X.warmed.alike
  obtain ⟨D, fV, fC, hB, F1, F2, g1, g2, -, -⟩ := strObj wi al E V C
  have hx : Txt x t A cd cs.length (fun j => cs.getD j 0) P.U := ⟨⟨_, hB.2.2.1, D, hB.1, rfl, by cases q : D.vm <;> first | rfl | exact absurd q (hB.2.1.2 _)⟩, Has.of hB F1 g1, Has.of hB F2 g2, ⟨K1.1, State.isArrayOf_alike al K1.2.1, K1.2.2, by rcases hcod with ⟨-, q, -⟩ | ⟨-, q, -⟩ <;> omega⟩, hcod, fun j hj => by
    have e : cs.getD j 0 = cs[j] := by simp [List.getD_eq_getElem?_getD, hj]
    show ¬ cs.getD j 0 < 0 ∧ ¬ 65535 < cs.getD j 0
    rw [e]; exact hb _ (List.getElem_mem _)⟩
  obtain ⟨v, B, X', ⟨⟨hv, hh⟩, hl, hk, hs⟩, st⟩ := Len.pays x t A cd cs.length (fun j => cs.getD j 0) z (tabLen_of (movedLen hZ hw)) hfr hlo m meth c P g ig mk _ X hg hsize hdg hW hn ⟨r1, r2, rfl, hx, sta_is al S, hz⟩
  exact ⟨v, B, X', ⟨[], ⟨hv, rfl, hh⟩, hl, hk, hs⟩, st⟩
end StrChars.Road
namespace StrChars
open Jvm Sem ClassFile Op Lib Jvm.Stand Jvm.Free.XT Jvm.Free.ALB Jvm.Free.JM Jvm.Free
open Jvm.Lib.Cold (StaticIs)
/-- what place i of a byte[]'s cell holds -/
def yv (A : Cell) (i : Nat) : Int32 := match A.slots[i]? with | some (.int x) => x | _ => 0
theorem yv_get {a : Addr} {A : Cell} {U : State} (h : XT.Arr .byte a A U) (ht : Typed .byte A) {i : Nat} (hi : i < A.slots.size) : A.slots[i]? = some (.int (yv A i)) := by
  have e := Array.getElem?_eq_getElem hi
  have f := ht i _ e
  unfold yv; rw [e]
  generalize A.slots[i] = v at f
  cases v <;> simp [fits] at f ⊢
/-- the two arrays are equal, place for place -/
def EqC (A B : Cell) : Prop := A.slots.size = B.slots.size ∧ ∀ i, i < A.slots.size → yv A i = yv B i
/-- a boolean that says whether p -/
def Says01 (q : Prop) (r : Option Value) (s u : State) : Prop := ∃ v : Int32, r = some (.int v) ∧ u.heap = s.heap ∧ ((v = 1 ∧ q) ∨ (v = 0 ∧ ¬ q))
theorem Says01.mv {q : Prop} : ∀ r (U U' V V' : State), U'.heap = U.heap → V.vm.Alike V'.vm → V'.heap = V.heap → Says01 q r U V → Says01 q r U' V' :=
  fun r U U' V V' h1 _ h2 ⟨v, a, b, c⟩ => ⟨v, a, by rw [h1, h2]; exact b, c⟩
namespace LEq
def yN : MethodName := ⟨"java/lang/StringLatin1", "equals", "([B[B)Z"⟩
abbrev yB : ByteArray := jdk_43_method_13_code
theorem d0 : decode yB 0 = .ok (.aload_n 0, 1) := by decide +kernel
theorem d1 : decode yB 1 = .ok (.arraylength, 1) := by decide +kernel
theorem d2 : decode yB 2 = .ok (.aload_n 1, 1) := by decide +kernel
theorem d3 : decode yB 3 = .ok (.arraylength, 1) := by decide +kernel
theorem d4 : decode yB 4 = .ok (.if_icmp (.ne) 30, 3) := by decide +kernel
theorem d7 : decode yB 7 = .ok (.iconst 0, 1) := by decide +kernel
theorem d8 : decode yB 8 = .ok (.istore_n 2, 1) := by decide +kernel
theorem d9 : decode yB 9 = .ok (.iload_n 2, 1) := by decide +kernel
theorem d10 : decode yB 10 = .ok (.aload_n 0, 1) := by decide +kernel
theorem d11 : decode yB 11 = .ok (.arraylength, 1) := by decide +kernel
theorem d12 : decode yB 12 = .ok (.if_icmp (.ge) 20, 3) := by decide +kernel
theorem d15 : decode yB 15 = .ok (.aload_n 0, 1) := by decide +kernel
theorem d16 : decode yB 16 = .ok (.iload_n 2, 1) := by decide +kernel
theorem d17 : decode yB 17 = .ok (.baload, 1) := by decide +kernel
theorem d18 : decode yB 18 = .ok (.aload_n 1, 1) := by decide +kernel
theorem d19 : decode yB 19 = .ok (.iload_n 2, 1) := by decide +kernel
theorem d20 : decode yB 20 = .ok (.baload, 1) := by decide +kernel
theorem d21 : decode yB 21 = .ok (.if_icmp (.eq) 5, 3) := by decide +kernel
theorem d24 : decode yB 24 = .ok (.iconst 0, 1) := by decide +kernel
theorem d25 : decode yB 25 = .ok (.ireturn, 1) := by decide +kernel
theorem d26 : decode yB 26 = .ok (.iinc 2 1, 3) := by decide +kernel
theorem d29 : decode yB 29 = .ok (.goto (-20), 3) := by decide +kernel
theorem d32 : decode yB 32 = .ok (.iconst 1, 1) := by decide +kernel
theorem d33 : decode yB 33 = .ok (.ireturn, 1) := by decide +kernel
theorem d34 : decode yB 34 = .ok (.iconst 0, 1) := by decide +kernel
theorem d35 : decode yB 35 = .ok (.ireturn, 1) := by decide +kernel
def site : List Cond := []
def tab : Cond := tabOf yN yB 3 (some .boolean) site
def P (a : Addr) (A : Cell) (b : Addr) (B : Cell) (args : Array Value) (s : State) : Prop := args = #[.ref a, .ref b] ∧ XT.Arr .byte a A s ∧ Typed .byte A ∧ XT.Arr .byte b B s ∧ Typed .byte B
/-- whether two byte[] are equal, place for place -/
theorem law (l : Launch) (a : Addr) (A : Cell) (b : Addr) (B : Cell) : Law l yN 2 2 0 0 yB 3 (some .boolean) site (P a A b B) (Says01 (EqC A B)) [] 0 0 := by
  refine Law.of_walk (plainFor_of_name (by decide +kernel)) (by decide +kernel) (by decide +kernel) (by decide) (fun _ _ h => by rw [h.1]; rfl) (fun _ U U' hal hh h => ⟨h.1, h.2.1.mv hal hh, h.2.2.1, h.2.2.2.1.mv hal hh, h.2.2.2.2⟩) (fun r U U' V V' h1 hal h2 h => Says01.mv r U U' V V' h1 hal h2 h) ?_
  intro p e s m args below meth c s₁ X0 hexec hbytes hml hret hlk hnm hown hh0 W hP
  obtain ⟨rfl, hA, tA, hB, tB⟩ := hP
  have a31 := hA.2.2.2
  have b31 := hB.2.2.2
  have hA0 := hA.mv X0.warmed.alike hh0
  have hB0 := hB.mv X0.warmed.alike hh0
  have c1 : Steps p.tables e below (s₁.setTop (entryFrame m #[.ref a, .ref b] 3)) (s₁.setTop (mkF m 0 #[.val (.ref a), .val (.ref b), .unset] [])) := entry rfl
  have c2 : Steps p.tables e below (s₁.setTop (entryFrame m #[.ref a, .ref b] 3)) (s₁.setTop (mkF m 4 #[.val (.ref a), .val (.ref b), .unset] [.int (Int32.ofNat B.slots.size), .int (Int32.ofNat A.slots.size)])) := c1.trans (by
    refine XS.aloadN X0.here hexec rfl (hb hbytes d0) rfl rfl ?_
    refine X0.alen hexec hA0 rfl rfl (hb hbytes d1) ?_
    refine XS.aloadN X0.here hexec rfl (hb hbytes d2) rfl rfl ?_
    refine X0.alen hexec hB0 rfl rfl (hb hbytes d3) ?_
    exact Steps.refl _)
  by_cases hs : A.slots.size = B.slots.size
  · have c3 : Steps p.tables e below (s₁.setTop (entryFrame m #[.ref a, .ref b] 3)) (s₁.setTop (mkF m 9 #[.val (.ref a), .val (.ref b), .val (.int 0)] [])) := c2.trans (by
      refine XS.icmpNo X0.here hexec rfl (hb hbytes d4) rfl (ii_ne_f (by rw [hs])) ?_
      refine iconstV X0.here hexec rfl 0 (hb hbytes d7) (by decide) ?_
      refine XS.istoreN X0.here hexec rfl (hb hbytes d8) rfl rfl ?_
      exact Steps.refl _)
    have loop : ∀ (r i : Nat), i + r = A.slots.size → (∀ j, j < i → yv A j = yv B j) → Steps p.tables e below (s₁.setTop (entryFrame m #[.ref a, .ref b] 3)) (s₁.setTop (mkF m 9 #[.val (.ref a), .val (.ref b), .val (.int (Int32.ofNat i))] [])) → ∃ (pc : Nat) (Ls : Array Slot) (v : Int32), (pc = 25 ∨ pc = 33) ∧ ((v = 1 ∧ EqC A B) ∨ (v = 0 ∧ ¬ EqC A B)) ∧ Steps p.tables e below (s₁.setTop (entryFrame m #[.ref a, .ref b] 3)) (s₁.setTop (mkF m pc Ls [.int v])) := by
      intro r
      induction r with
      | zero =>
        intro i hi he cl
        exact ⟨33, _, 1, Or.inr rfl, Or.inl ⟨rfl, hs, fun j hj => he j (by omega)⟩, cl.trans (by
          refine XS.iloadN X0.here hexec rfl (hb hbytes d9) rfl ?_
          refine XS.aloadN X0.here hexec rfl (hb hbytes d10) rfl rfl ?_
          refine X0.alen hexec hA0 rfl rfl (hb hbytes d11) ?_
          refine XS.icmpYes X0.here hexec rfl (pc0 := 12) rfl (hb hbytes d12) rfl (ii_ge_t (nlt32 (by omega) (by omega))) (by decide) rfl ?_
          refine iconstV X0.here hexec rfl 1 (hb hbytes d32) (by decide) ?_
          exact Steps.refl _)⟩
      | succ r ih =>
        intro i hi he cl
        have c4 : Steps p.tables e below (s₁.setTop (entryFrame m #[.ref a, .ref b] 3)) (s₁.setTop (mkF m 21 #[.val (.ref a), .val (.ref b), .val (.int (Int32.ofNat i))] [.int (yv B i), .int (yv A i)])) := cl.trans (by
          refine XS.iloadN X0.here hexec rfl (hb hbytes d9) rfl ?_
          refine XS.aloadN X0.here hexec rfl (hb hbytes d10) rfl rfl ?_
          refine X0.alen hexec hA0 rfl rfl (hb hbytes d11) ?_
          refine XS.icmpNo X0.here hexec rfl (hb hbytes d12) rfl (ii_ge_f (lt32 (by omega) (by omega))) ?_
          refine XS.aloadN X0.here hexec rfl (hb hbytes d15) rfl rfl ?_
          refine XS.iloadN X0.here hexec rfl (hb hbytes d16) rfl ?_
          refine X0.aget hexec hA0 rfl (yv_get hA tA (i := i) (by omega)) rfl rfl (hb hbytes d17) ?_
          refine XS.aloadN X0.here hexec rfl (hb hbytes d18) rfl rfl ?_
          refine XS.iloadN X0.here hexec rfl (hb hbytes d19) rfl ?_
          refine X0.aget hexec hB0 rfl (yv_get hB tB (i := i) (by omega)) rfl rfl (hb hbytes d20) ?_
          exact Steps.refl _)
        by_cases hv : yv A i = yv B i
        · have c5 : Steps p.tables e below (s₁.setTop (entryFrame m #[.ref a, .ref b] 3)) (s₁.setTop (mkF m 9 #[.val (.ref a), .val (.ref b), .val (.int (Int32.ofNat i + 1))] [])) := c4.trans (by
            refine XS.icmpYes X0.here hexec rfl (pc0 := 21) rfl (hb hbytes d21) rfl (ii_eq_t hv) (by decide) rfl ?_
            refine iincV X0.here hexec rfl 1 (hb hbytes d26) (by decide) rfl rfl ?_
            refine XS.goto X0.here hexec rfl (pc0 := 29) rfl (hb hbytes d29) (by decide) rfl ?_
            exact Steps.refl _)
          rw [succ32] at c5
          exact ih (i + 1) (by omega) (fun j hj => by
            by_cases e : j = i
            · rw [e]; exact hv
            · exact he j (by omega)) c5
        · exact ⟨25, _, 0, Or.inl rfl, Or.inr ⟨rfl, fun q => hv (q.2 i (by omega))⟩, c4.trans (by
            refine XS.icmpNo X0.here hexec rfl (hb hbytes d21) rfl (ii_eq_f hv) ?_
            refine iconstV X0.here hexec rfl 0 (hb hbytes d24) (by decide) ?_
            exact Steps.refl _)⟩
    obtain ⟨pc, Ls, v, hpc, hv, cz⟩ := loop A.slots.size 0 (by omega) (fun j hj => absurd hj (Nat.not_lt_zero j)) c3
    have nv : narrow .boolean (.int v) = .int v := by rcases hv with ⟨rfl, -⟩ | ⟨rfl, -⟩ <;> rfl
    rcases hpc with rfl | rfl
    · exact ⟨s₁, some (.int v), _, _, _, X0, rfl, rfl, rfl, (fun h => by cases h), ⟨v, rfl, hh0, hv⟩, fun fs hl => cz.trans (X0.ireturnOut hexec hret nv (Or.inr (Or.inl rfl)) (hb hbytes d25) hl)⟩
    · exact ⟨s₁, some (.int v), _, _, _, X0, rfl, rfl, rfl, (fun h => by cases h), ⟨v, rfl, hh0, hv⟩, fun fs hl => cz.trans (X0.ireturnOut hexec hret nv (Or.inr (Or.inl rfl)) (hb hbytes d33) hl)⟩
  · have c3 : Steps p.tables e below (s₁.setTop (entryFrame m #[.ref a, .ref b] 3)) (s₁.setTop (mkF m 35 #[.val (.ref a), .val (.ref b), .unset] [.int 0])) := c2.trans (by
      refine XS.icmpYes X0.here hexec rfl (pc0 := 4) rfl (hb hbytes d4) rfl (ii_ne_t (ne32 a31 b31 hs)) (by decide) rfl ?_
      refine iconstV X0.here hexec rfl 0 (hb hbytes d34) (by decide) ?_
      exact Steps.refl _)
    exact ⟨s₁, some (.int 0), _, _, _, X0, rfl, rfl, rfl, (fun h => by cases h), ⟨0, rfl, hh0, Or.inr ⟨rfl, fun q => hs q.1⟩⟩, fun fs hl => c3.trans (X0.ireturnOut hexec hret rfl (Or.inr (Or.inl rfl)) (hb hbytes d35) hl)⟩
end LEq
theorem Cod.ty {cd : Int32} {n : Nat} {f : Nat → Int32} {V : Cell} (h : Cod cd n f V) : Typed .byte V := fun i v hv => by
  have hi : i < V.slots.size := (Array.getElem?_eq_some_iff.mp hv).1
  rcases h with ⟨-, k1, k2⟩ | ⟨-, k1, k2, -⟩
  · rw [(k2 i (by omega)).1] at hv; cases hv; exact fits_lo8 _
  · rcases Nat.mod_two_eq_zero_or_one i with e | e
    · obtain ⟨j, rfl⟩ : ∃ j, i = 2 * j := ⟨i / 2, by omega⟩
      rw [(k2 j (by omega)).1] at hv; cases hv; exact fits_lo8 _
    · obtain ⟨j, rfl⟩ : ∃ j, i = 2 * j + 1 := ⟨i / 2, by omega⟩
      rw [(k2 j (by omega)).2] at hv; cases hv; exact fits_lo8 _
/-- the same text -/
def SameT (n : Nat) (f : Nat → Int32) (k : Nat) (g : Nat → Int32) : Prop := n = k ∧ ∀ j, j < n → f j = g j
theorem lo8_inj {x y : Int32} (h0 : ¬ x < 0) (h1 : ¬ 255 < x) (k0 : ¬ y < 0) (k1 : ¬ 255 < y) (h : lo8 x = lo8 y) : x = y := by
  rw [← lo8_mask h0 h1, ← lo8_mask k0 k1, h]
/-- arrays coded by one coder are equal just where the texts are -/
theorem Cod.eqv {cd : Int32} {n k : Nat} {f g : Nat → Int32} {V V' : Cell} (h : Cod cd n f V) (h' : Cod cd k g V') (hf : ∀ j, j < n → ¬ f j < 0 ∧ ¬ 65535 < f j) (hg : ∀ j, j < k → ¬ g j < 0 ∧ ¬ 65535 < g j) : EqC V V' ↔ SameT n f k g := by
  have yvv : ∀ {W : Cell} {i : Nat} {x : Int32}, W.slots[i]? = some (.int x) → yv W i = x := fun q => by unfold yv; rw [q]
  rcases h with ⟨rfl, k1, k2⟩ | ⟨rfl, k1, k2, -⟩
  · rcases h' with ⟨-, m1, m2⟩ | ⟨e, -⟩
    · constructor
      · rintro ⟨e1, e2⟩
        refine ⟨by omega, fun j hj => ?_⟩
        have q := e2 j (by omega)
        rw [yvv (k2 j hj).1, yvv (m2 j (by omega)).1] at q
        exact lo8_inj (hf j hj).1 (k2 j hj).2 (hg j (by omega)).1 (m2 j (by omega)).2 q
      · rintro ⟨rfl, e2⟩
        refine ⟨by omega, fun j hj => ?_⟩
        rw [yvv (k2 j (by omega)).1, yvv (m2 j (by omega)).1, e2 j (by omega)]
    · exact absurd e (by decide)
  · rcases h' with ⟨e, -⟩ | ⟨-, m1, m2, -⟩
    · exact absurd e (by decide)
    · constructor
      · rintro ⟨e1, e2⟩
        refine ⟨by omega, fun j hj => ?_⟩
        have q1 := e2 (2 * j) (by omega)
        have q2 := e2 (2 * j + 1) (by omega)
        rw [yvv (k2 j hj).1, yvv (m2 j (by omega)).1] at q1
        rw [yvv (k2 j hj).2, yvv (m2 j (by omega)).2] at q2
        rw [← pair_says (hf j hj).1 (hf j hj).2, ← pair_says (hg j (by omega)).1 (hg j (by omega)).2, q1, q2]
      · rintro ⟨rfl, e2⟩
        refine ⟨by omega, fun i hi => ?_⟩
        rcases Nat.mod_two_eq_zero_or_one i with e | e
        · obtain ⟨j, rfl⟩ : ∃ j, i = 2 * j := ⟨i / 2, by omega⟩
          rw [yvv (k2 j (by omega)).1, yvv (m2 j (by omega)).1, e2 j (by omega)]
        · obtain ⟨j, rfl⟩ : ∃ j, i = 2 * j + 1 := ⟨i / 2, by omega⟩
          rw [yvv (k2 j (by omega)).2, yvv (m2 j (by omega)).2, e2 j (by omega)]
/-- two codings differ: so do the texts -/
theorem Cod.dif {cd cd' : Int32} {n k : Nat} {f g : Nat → Int32} {V V' : Cell} (h : Cod cd n f V) (h' : Cod cd' k g V') (hne : ¬ cd = cd') : ¬ SameT n f k g := by
  rintro ⟨rfl, e⟩
  rcases h with ⟨rfl, -, k2⟩ | ⟨rfl, -, -, j, hj, hw⟩
  · rcases h' with ⟨rfl, -⟩ | ⟨-, -, -, j, hj, hw⟩
    · exact hne rfl
    · exact (k2 j hj).2 (by rw [e j hj]; exact hw)
  · rcases h' with ⟨-, -, m2⟩ | ⟨rfl, -⟩
    · exact (m2 j hj).2 (by rw [← e j hj]; exact hw)
    · exact hne rfl
/-- an object of exactly C is an instance of C -/
theorem cinst {p : Program} {l : Launch} {e : Env} {R : Room} {s : State} {m : MethodId} {args : Array Value} {below : List Frame} {meth : Method} {c : Code} {T : State} {locs : List Loc} {cells slots : Nat} (X : Stand p l e R s m args below meth c T locs cells slots) (hexec : p.tables.exec = Jvm.exec) {own C : String} {index : Nat} (hown : s.vm.findClass own = some m.cls) (hlink : (Cond.classLink own index C).before args s = true) {a : Addr} (hE : Exact C a T)
    {g : JFrame} (hg : g.method = m) {rest : List Value} (hstack : g.stack = .ref a :: rest) (hdg : decode c.code g.pc = .ok (.instanceof index, 3)) :
    ∃ T', Stand p l e R s m args below meth c T' locs cells slots ∧ T'.heap = T.heap ∧ ∀ target, Steps p.tables e below (T'.setTop { g with pc := g.pc + 3, stack := .int 1 :: rest }) target → Steps p.tables e below (T.setTop g) target := by
  obtain ⟨cB, h1, D, h2, h3, h4⟩ := hE
  have h1' : s.vm.findClass C = some cB := by rw [← X.warmed.alike.findClass]; exact h1
  obtain ⟨vm', X', st⟩ := X.instanceofYes hexec hown hlink h2 h4 h1' (by rw [h3]; exact Jvm.Free.SB.assignable_self _ _) hg hstack hdg
  exact ⟨_, X', rfl, st⟩
theorem cself {p : Program} {l : Launch} {e : Env} {R : Room} {s : State} {m : MethodId} {args : Array Value} {below : List Frame} {meth : Method} {c : Code} {T : State} {locs : List Loc} {cells slots : Nat} (X : Stand p l e R s m args below meth c T locs cells slots) (hexec : p.tables.exec = Jvm.exec) {own C : String} {index : Nat} (hown : s.vm.findClass own = some m.cls) (hlink : (Cond.classLink own index C).before args s = true) {a : Addr} (hE : Exact C a T)
    {g : JFrame} (hg : g.method = m) {rest : List Value} (hstack : g.stack = .ref a :: rest) (hdg : decode c.code g.pc = .ok (.checkcast index, 3)) :
    ∃ T', Stand p l e R s m args below meth c T' locs cells slots ∧ T'.heap = T.heap ∧ ∀ target, Steps p.tables e below (T'.setTop { g with pc := g.pc + 3, stack := .ref a :: rest }) target → Steps p.tables e below (T.setTop g) target := by
  obtain ⟨cB, h1, D, h2, h3, h4⟩ := hE
  have h1' : s.vm.findClass C = some cB := by rw [← X.warmed.alike.findClass]; exact h1
  obtain ⟨vm', X', st⟩ := X.checkcastYes hexec hown hlink h2 h4 h1' (by rw [h3]; exact Jvm.Free.SB.assignable_self _ _) hg hstack hdg
  exact ⟨_, X', rfl, fun t h => st t (by rw [← hstack] at h; exact h)⟩
namespace SEq
def yN : MethodName := ⟨"java/lang/String", "equals", "(Ljava/lang/Object;)Z"⟩
abbrev yB : ByteArray := jdk_42_method_66_code
theorem d0 : decode yB 0 = .ok (.aload_n 0, 1) := by decide +kernel
theorem d1 : decode yB 1 = .ok (.aload_n 1, 1) := by decide +kernel
theorem d2 : decode yB 2 = .ok (.if_acmp (.ne) 5, 3) := by decide +kernel
theorem d5 : decode yB 5 = .ok (.iconst 1, 1) := by decide +kernel
theorem d6 : decode yB 6 = .ok (.ireturn, 1) := by decide +kernel
theorem d7 : decode yB 7 = .ok (.aload_n 1, 1) := by decide +kernel
theorem d8 : decode yB 8 = .ok (.instanceof 10, 3) := by decide +kernel
theorem d11 : decode yB 11 = .ok (.ifCond (.eq) 43, 3) := by decide +kernel
theorem d14 : decode yB 14 = .ok (.aload_n 1, 1) := by decide +kernel
theorem d15 : decode yB 15 = .ok (.checkcast 10, 3) := by decide +kernel
theorem d18 : decode yB 18 = .ok (.astore_n 2, 1) := by decide +kernel
theorem d19 : decode yB 19 = .ok (.getstatic 38, 3) := by decide +kernel
theorem d22 : decode yB 22 = .ok (.ifCond (.eq) 14, 3) := by decide +kernel
theorem d25 : decode yB 25 = .ok (.aload_n 0, 1) := by decide +kernel
theorem d26 : decode yB 26 = .ok (.getfield 15, 3) := by decide +kernel
theorem d29 : decode yB 29 = .ok (.aload_n 2, 1) := by decide +kernel
theorem d30 : decode yB 30 = .ok (.getfield 15, 3) := by decide +kernel
theorem d33 : decode yB 33 = .ok (.if_icmp (.ne) 21, 3) := by decide +kernel
theorem d36 : decode yB 36 = .ok (.aload_n 0, 1) := by decide +kernel
theorem d37 : decode yB 37 = .ok (.getfield 9, 3) := by decide +kernel
theorem d40 : decode yB 40 = .ok (.aload_n 2, 1) := by decide +kernel
theorem d41 : decode yB 41 = .ok (.getfield 9, 3) := by decide +kernel
theorem d44 : decode yB 44 = .ok (.invokestatic 541, 3) := by decide +kernel
theorem d47 : decode yB 47 = .ok (.ifCond (.eq) 7, 3) := by decide +kernel
theorem d50 : decode yB 50 = .ok (.iconst 1, 1) := by decide +kernel
theorem d51 : decode yB 51 = .ok (.goto 4, 3) := by decide +kernel
theorem d54 : decode yB 54 = .ok (.iconst 0, 1) := by decide +kernel
theorem d55 : decode yB 55 = .ok (.ireturn, 1) := by decide +kernel
def site : List Cond := [.classLink "java/lang/String" 10 "java/lang/String", .fieldLink "java/lang/String" 38 "java/lang/String" "COMPACT_STRINGS" "Z", .fieldLink "java/lang/String" 15 "java/lang/String" "coder" "B", .fieldLink "java/lang/String" 9 "java/lang/String" "value" "[B", LEq.tab] ++ staticW "java/lang/String" 541 LEq.yN
def tab : Cond := tabOf yN yB 3 (some .boolean) site
def P (x t : Addr) (V : Cell) (cd : Int32) (n : Nat) (f : Nat → Int32) (y t' : Addr) (V' : Cell) (cd' : Int32) (k : Nat) (g : Nat → Int32) (z : Int32) (args : Array Value) (s : State) : Prop := args = #[.ref x, .ref y] ∧ Txt x t V cd n f s ∧ Txt y t' V' cd' k g s ∧ StaticIs s "java/lang/String" "COMPACT_STRINGS" "Z" (.int z) ∧ ¬ z = 0
/-- equals(Object) of two Strings: whether the texts are the same -/
theorem law (l : Launch) (x t : Addr) (V : Cell) (cd : Int32) (n : Nat) (f : Nat → Int32) (y t' : Addr) (V' : Cell) (cd' : Int32) (k : Nat) (g : Nat → Int32) (z : Int32) : Law l yN 2 1 1 14 yB 3 (some .boolean) site (P x t V cd n f y t' V' cd' k g z) (Says01 (SameT n f k g)) [] 0 0 := by
  refine Law.of_walk (plainFor_of_name (by decide +kernel)) (by decide +kernel) (by decide +kernel) (by decide) (fun _ _ h => by rw [h.1]; rfl) (fun _ U U' hal hh h => ⟨h.1, h.2.1.mv hal hh, h.2.2.1.mv hal hh, h.2.2.2.1.there hal hh, h.2.2.2.2⟩) (fun r U U' V V' h1 hal h2 h => Says01.mv r U U' V V' h1 hal h2 h) ?_
  intro p e s m args below meth c s₁ X0 hexec hbytes hml hret hlk hnm hown hh0 W hP
  obtain ⟨rfl, hx, hy, s1, hz⟩ := hP
  have c1 : Steps p.tables e below (s₁.setTop (entryFrame m #[.ref x, .ref y] 3)) (s₁.setTop (mkF m 2 #[.val (.ref x), .val (.ref y), .unset] [.ref y, .ref x])) := Steps.trans (entry rfl) (by
    show Steps p.tables e below (s₁.setTop (mkF m 0 #[.val (.ref x), .val (.ref y), .unset] [])) _
    refine XS.aloadN X0.here hexec rfl (hb hbytes d0) rfl rfl ?_
    refine XS.aloadN X0.here hexec rfl (hb hbytes d1) rfl rfl ?_
    exact Steps.refl _)
  by_cases hxy : x = y
  · have c2 : Steps p.tables e below (s₁.setTop (entryFrame m #[.ref x, .ref y] 3)) (s₁.setTop (mkF m 6 #[.val (.ref x), .val (.ref y), .unset] [.int 1])) := c1.trans (by
      refine acmpNo X0.here hexec rfl (hb hbytes d2) rfl rfl rfl (by simp [acmp, hxy]) ?_
      refine iconstV X0.here hexec rfl 1 (hb hbytes d5) (by decide) ?_
      exact Steps.refl _)
    subst hxy
    have ec : cd = cd' := by
      obtain ⟨D, fd, a1, a2, a3⟩ := hx.2.2.1
      obtain ⟨D', fd', b1, b2, b3⟩ := hy.2.2.1
      cases a1.symm.trans b1
      obtain ⟨q1, q2, q3, q4⟩ := a2.1
      obtain ⟨r1, r2, r3, r4⟩ := b2.1
      cases q4.symm.trans r4
      cases a3.symm.trans b3; rfl
    have et : t = t' := by
      obtain ⟨D, fd, a1, a2, a3⟩ := hx.2.1
      obtain ⟨D', fd', b1, b2, b3⟩ := hy.2.1
      cases a1.symm.trans b1
      obtain ⟨q1, q2, q3, q4⟩ := a2.1
      obtain ⟨r1, r2, r3, r4⟩ := b2.1
      cases q4.symm.trans r4
      cases a3.symm.trans b3; rfl
    subst ec et
    have ev : V = V' := by cases hx.2.2.2.1.1.symm.trans hy.2.2.2.1.1; rfl
    subst ev
    have hs : SameT n f k g := (Cod.eqv hx.2.2.2.2.1 hy.2.2.2.2.1 hx.2.2.2.2.2 hy.2.2.2.2.2).mp ⟨rfl, fun _ _ => rfl⟩
    exact ⟨s₁, some (.int 1), _, _, _, X0, rfl, rfl, rfl, (fun h => by cases h), ⟨1, rfl, hh0, Or.inl ⟨rfl, hs⟩⟩, fun fs hl => c2.trans (X0.ireturnOut hexec hret rfl (Or.inr (Or.inl rfl)) (hb hbytes d6) hl)⟩
  · have c2 : Steps p.tables e below (s₁.setTop (entryFrame m #[.ref x, .ref y] 3)) (s₁.setTop (mkF m 8 #[.val (.ref x), .val (.ref y), .unset] [.ref y])) := c1.trans (by
      refine acmpYes X0.here hexec rfl (pc0 := 2) rfl (hb hbytes d2) rfl rfl rfl (by simp [acmp, hxy]) (by decide) rfl ?_
      refine XS.aloadN X0.here hexec rfl (hb hbytes d7) rfl rfl ?_
      exact Steps.refl _)
    obtain ⟨T3, X3, q3, st3⟩ := cinst X0 hexec hown (wk W (.classLink "java/lang/String" 10 "java/lang/String")) (hy.mv X0.warmed.alike hh0).1 (g := (mkF m 8 #[.val (.ref x), .val (.ref y), .unset] [.ref y])) rfl (rest := []) rfl (hb hbytes d8)
    have hh3 := q3.trans hh0
    have c4 : Steps p.tables e below (s₁.setTop (entryFrame m #[.ref x, .ref y] 3)) (T3.setTop (mkF m 15 #[.val (.ref x), .val (.ref y), .unset] [.ref y])) := (c2.trans (st3 _ (Steps.refl _))).trans (by
      refine XS.ifNo X3.here hexec rfl (hb hbytes d11) rfl (i0_eq_f (by decide)) ?_
      refine XS.aloadN X3.here hexec rfl (hb hbytes d14) rfl rfl ?_
      exact Steps.refl _)
    obtain ⟨T5, X5, q5, st5⟩ := cself X3 hexec hown (wk W (.classLink "java/lang/String" 10 "java/lang/String")) (hy.mv X3.warmed.alike hh3).1 (g := (mkF m 15 #[.val (.ref x), .val (.ref y), .unset] [.ref y])) rfl (rest := []) rfl (hb hbytes d15)
    have hh5 := q5.trans hh3
    have c6 : Steps p.tables e below (s₁.setTop (entryFrame m #[.ref x, .ref y] 3)) (T5.setTop (mkF m 19 #[.val (.ref x), .val (.ref y), .val (.ref y)] [])) := (c4.trans (st5 _ (Steps.refl _))).trans (by
      refine XS.astoreN X5.here hexec rfl (hb hbytes d18) rfl rfl rfl ?_
      exact Steps.refl _)
    obtain ⟨T7, X7, q7, st7⟩ := X5.sget hexec hown (wk W (.fieldLink "java/lang/String" 38 "java/lang/String" "COMPACT_STRINGS" "Z")) s1 (fun _ _ h => by rw [hh5]; exact h) (g := (mkF m 19 #[.val (.ref x), .val (.ref y), .val (.ref y)] [])) rfl (hb hbytes d19)
    have hh7 := q7.trans hh5
    have c8 : Steps p.tables e below (s₁.setTop (entryFrame m #[.ref x, .ref y] 3)) (T7.setTop (mkF m 26 #[.val (.ref x), .val (.ref y), .val (.ref y)] [.ref x])) := (c6.trans (st7 _ (Steps.refl _))).trans (by
      refine XS.ifNo X7.here hexec rfl (hb hbytes d22) rfl (i0_eq_f hz) ?_
      refine XS.aloadN X7.here hexec rfl (hb hbytes d25) rfl rfl ?_
      exact Steps.refl _)
    obtain ⟨T9, X9, q9, st9⟩ := X7.hget hexec hown (wk W (.fieldLink "java/lang/String" 15 "java/lang/String" "coder" "B")) (hx.mv X7.warmed.alike hh7).2.2.1 (g := (mkF m 26 #[.val (.ref x), .val (.ref y), .val (.ref y)] [.ref x])) rfl (rest := []) rfl (hb hbytes d26)
    have hh9 := q9.trans hh7
    have c10 : Steps p.tables e below (s₁.setTop (entryFrame m #[.ref x, .ref y] 3)) (T9.setTop (mkF m 30 #[.val (.ref x), .val (.ref y), .val (.ref y)] [.ref y, .int cd])) := (c8.trans (st9 _ (Steps.refl _))).trans (by
      refine XS.aloadN X9.here hexec rfl (hb hbytes d29) rfl rfl ?_
      exact Steps.refl _)
    obtain ⟨T11, X11, q11, st11⟩ := X9.hget hexec hown (wk W (.fieldLink "java/lang/String" 15 "java/lang/String" "coder" "B")) (hy.mv X9.warmed.alike hh9).2.2.1 (g := (mkF m 30 #[.val (.ref x), .val (.ref y), .val (.ref y)] [.ref y, .int cd])) rfl (rest := [.int cd]) rfl (hb hbytes d30)
    have hh11 := q11.trans hh9
    have c12 : Steps p.tables e below (s₁.setTop (entryFrame m #[.ref x, .ref y] 3)) (T11.setTop (mkF m 33 #[.val (.ref x), .val (.ref y), .val (.ref y)] [.int cd', .int cd])) := c10.trans (st11 _ (Steps.refl _))
    by_cases hcd : cd = cd'
    · subst hcd
      have c13 : Steps p.tables e below (s₁.setTop (entryFrame m #[.ref x, .ref y] 3)) (T11.setTop (mkF m 37 #[.val (.ref x), .val (.ref y), .val (.ref y)] [.ref x])) := c12.trans (by
        refine XS.icmpNo X11.here hexec rfl (hb hbytes d33) rfl (ii_ne_f rfl) ?_
        refine XS.aloadN X11.here hexec rfl (hb hbytes d36) rfl rfl ?_
        exact Steps.refl _)
      obtain ⟨T14, X14, q14, st14⟩ := X11.hget hexec hown (wk W (.fieldLink "java/lang/String" 9 "java/lang/String" "value" "[B")) (hx.mv X11.warmed.alike hh11).2.1 (g := (mkF m 37 #[.val (.ref x), .val (.ref y), .val (.ref y)] [.ref x])) rfl (rest := []) rfl (hb hbytes d37)
      have hh14 := q14.trans hh11
      have c15 : Steps p.tables e below (s₁.setTop (entryFrame m #[.ref x, .ref y] 3)) (T14.setTop (mkF m 41 #[.val (.ref x), .val (.ref y), .val (.ref y)] [.ref y, .ref t])) := (c13.trans (st14 _ (Steps.refl _))).trans (by
        refine XS.aloadN X14.here hexec rfl (hb hbytes d40) rfl rfl ?_
        exact Steps.refl _)
      obtain ⟨T16, X16, q16, st16⟩ := X14.hget hexec hown (wk W (.fieldLink "java/lang/String" 9 "java/lang/String" "value" "[B")) (hy.mv X14.warmed.alike hh14).2.1 (g := (mkF m 41 #[.val (.ref x), .val (.ref y), .val (.ref y)] [.ref y, .ref t])) rfl (rest := [.ref t]) rfl (hb hbytes d41)
      have hh16 := q16.trans hh14
      have c17 : Steps p.tables e below (s₁.setTop (entryFrame m #[.ref x, .ref y] 3)) (T16.setTop (mkF m 44 #[.val (.ref x), .val (.ref y), .val (.ref y)] [.ref t', .ref t])) := c15.trans (st16 _ (Steps.refl _))
      obtain ⟨v18, T18, X18, E18, g18⟩ := X16.callS hexec (LEq.law l t V t' V') hown (wks W (staticW "java/lang/String" 541 LEq.yN)) (wk W LEq.tab) (W := 0) (Nat.le_of_ble_eq_true rfl) (Nat.le_of_ble_eq_true rfl) (Nat.le_refl _) (Nat.le_refl _) (g := (mkF m 44 #[.val (.ref x), .val (.ref y), .val (.ref y)] [.ref t', .ref t])) rfl (by rw [hml]; rfl) c17 (argsL := [.ref t, .ref t']) (rest := []) rfl rfl (by show 2 * 0 + 0 ≤ _; decide) (hb hbytes d44) (⟨rfl, hx.2.2.2.1.mv X16.warmed.alike hh16, hx.2.2.2.2.1.ty, hy.2.2.2.1.mv X16.warmed.alike hh16, hy.2.2.2.2.1.ty⟩)
      obtain ⟨v, rfl, q18, hv⟩ := E18
      have iff := Cod.eqv hx.2.2.2.2.1 hy.2.2.2.2.1 hx.2.2.2.2.2 hy.2.2.2.2.2
      rcases hv with ⟨rfl, he⟩ | ⟨rfl, he⟩
      · have c19 : Steps p.tables e below (s₁.setTop (entryFrame m #[.ref x, .ref y] 3)) (T18.setTop (mkF m 55 #[.val (.ref x), .val (.ref y), .val (.ref y)] [.int 1])) := Steps.trans g18 (by
          refine XS.ifNo X18.here hexec rfl (hb hbytes d47) rfl (i0_eq_f (by decide)) ?_
          refine iconstV X18.here hexec rfl 1 (hb hbytes d50) (by decide) ?_
          refine XS.goto X18.here hexec rfl (pc0 := 51) rfl (hb hbytes d51) (by decide) rfl ?_
          exact Steps.refl _)
        exact ⟨T18, some (.int 1), _, _, _, X18, rfl, rfl, rfl, (fun h => by cases h), ⟨1, rfl, q18.trans hh16, Or.inl ⟨rfl, iff.mp he⟩⟩, fun fs hl => c19.trans (X18.ireturnOut hexec hret rfl (Or.inr (Or.inl rfl)) (hb hbytes d55) hl)⟩
      · have c19 : Steps p.tables e below (s₁.setTop (entryFrame m #[.ref x, .ref y] 3)) (T18.setTop (mkF m 55 #[.val (.ref x), .val (.ref y), .val (.ref y)] [.int 0])) := Steps.trans g18 (by
          refine XS.ifYes X18.here hexec rfl (pc0 := 47) rfl (hb hbytes d47) rfl (i0_eq_t rfl) (by decide) rfl ?_
          refine iconstV X18.here hexec rfl 0 (hb hbytes d54) (by decide) ?_
          exact Steps.refl _)
        exact ⟨T18, some (.int 0), _, _, _, X18, rfl, rfl, rfl, (fun h => by cases h), ⟨0, rfl, q18.trans hh16, Or.inr ⟨rfl, fun q => he (iff.mpr q)⟩⟩, fun fs hl => c19.trans (X18.ireturnOut hexec hret rfl (Or.inr (Or.inl rfl)) (hb hbytes d55) hl)⟩
    · have c13 : Steps p.tables e below (s₁.setTop (entryFrame m #[.ref x, .ref y] 3)) (T11.setTop (mkF m 55 #[.val (.ref x), .val (.ref y), .val (.ref y)] [.int 0])) := c12.trans (by
        refine XS.icmpYes X11.here hexec rfl (pc0 := 33) rfl (hb hbytes d33) rfl (ii_ne_t hcd) (by decide) rfl ?_
        refine iconstV X11.here hexec rfl 0 (hb hbytes d54) (by decide) ?_
        exact Steps.refl _)
      exact ⟨T11, some (.int 0), _, _, _, X11, rfl, rfl, rfl, (fun h => by cases h), ⟨0, rfl, hh11, Or.inr ⟨rfl, Cod.dif hx.2.2.2.2.1 hy.2.2.2.2.1 hcd⟩⟩, fun fs hl => c13.trans (X11.ireturnOut hexec hret rfl (Or.inr (Or.inl rfl)) (hb hbytes d55) hl)⟩
theorem pays {l : Launch} {R : Room} {p : Program} {e : Env} {below : List Frame} {s : State} {sargs : Array Value} {len W : Nat} (x t : Addr) (V : Cell) (cd : Int32) (n : Nat) (f : Nat → Int32) (y t' : Addr) (V' : Cell) (cd' : Int32) (k : Nat) (g : Nat → Int32) (z : Int32) (htab : tab.before sargs s = true) (hfr : 2 ≤ R.frames) (hlo : W + 28 ≤ R.locals) :
    Back l R p e below s sargs yN len W (fun A₁ a₁ => A₁.cells + 0 ≤ R.cells ∧ A₁.slots + 0 ≤ R.slots ∧ P x t V cd n f y t' V' cd' k g z a₁ A₁.U) (fun A₁ _ v₁ B₁ => Says01 (SameT n f k g) v₁ A₁.U B₁.U ∧ B₁.locs = A₁.locs ++ [] ∧ B₁.cells = A₁.cells + 0 ∧ B₁.slots = A₁.slots + 0) :=
  (law l x t V cd n f y t' V' cd' k g z).pays htab hfr (by omega)
end SEq
end StrChars
namespace StrChars.Road
open Jvm Sem ClassFile Op Lib Jvm.Stand Jvm.Free Jvm.Free.XT
open Jvm.Lib.Cold (StaticIs)
/-- the words of String.equals(Object) -/
abbrev wordsEq : List Jvm.Cond := [.code SEq.yN SEq.yB 3 (some .boolean), .initialized ST, .classLink ST 10 ST, .fieldLink ST 38 ST "COMPACT_STRINGS" "Z", .fieldLink ST 15 ST "coder" "B", .fieldLink ST 9 ST "value" "[B", .methodLink ST 541 LEq.yN, .static LEq.yN, .code LEq.yN LEq.yB 3 (some .boolean), .initialized "java/lang/StringLatin1"]
theorem tabEq_of {a : Array Value} {s : State} (h : ∀ w ∈ wordsEq, w.before a s = true) : SEq.tab.before a s = true := by
  have hl : LEq.tab.before a s = true := unparts (wk h (.code LEq.yN LEq.yB 3 (some .boolean))) (wks h (.initialized LEq.yN.cls :: LEq.site))
  have q := consq hl h
  exact unparts (wk q (.code SEq.yN SEq.yB 3 (some .boolean))) (wks q (.initialized SEq.yN.cls :: SEq.site))
theorem movedEq {Z s : State} {a0 args : Array Value} (hZ : Z.Warmed39 s.vm) (hw : ∀ d ∈ wordsEq, d.before a0 Z = true) : ∀ d ∈ wordsEq, d.before args s = true := fun d hd => by
  have t : ∀ d ∈ wordsEq, (d.onTables && d.keepsFace) = true := by decide +kernel
  exact RoadKit.mv hZ (hw d hd) (t d hd)
/-- the road's facts of a String, as the laws ask it -/
theorem txt_of {Z U : State} {a0 : Array Value} {kI : Nat} (wi : (Jvm.Cond.instantiable ST kI).before a0 Z = true) (al : Z.vm.Alike U.vm) {x t : Addr} {kb : ClassId} {cs : List Int32} {cd N2 : Int32} {vs : List Value} (E : RoadKit.Exa Z U.heap x ST) (V : RoadKit.Fld Z U.heap x ST "value" "[B" (.ref t)) (C : RoadKit.Fld Z U.heap x ST "coder" "B" (.int cd)) (K : RoadKit.Arv Z U.heap t kb .byte N2 vs (.int 0)) (hc : CodA cs cd N2 vs) (hb : ∀ c ∈ cs, ¬ c < 0 ∧ ¬ (65535 : Int32) < c) (l2 : cs.length ≤ 4000) :
    ∃ A, Txt x t A cd cs.length (fun j => cs.getD j 0) U := by
  obtain ⟨A, K1, K2, K3, K4, K5, K6⟩ := K
  have hcod := hc.cod (by omega) K3 K5
  obtain ⟨D, fV, fC, hB, F1, F2, g1, g2, -, -⟩ := strObj wi al E V C
  exact ⟨A, ⟨_, hB.2.2.1, D, hB.1, rfl, by cases q : D.vm <;> first | rfl | exact absurd q (hB.2.1.2 _)⟩, Has.of hB F1 g1, Has.of hB F2 g2, ⟨K1.1, State.isArrayOf_alike al K1.2.1, K1.2.2, by rcases hcod with ⟨-, q, -⟩ | ⟨-, q, -⟩ <;> omega⟩, hcod, fun j hj => by
    have e : cs.getD j 0 = cs[j] := by simp [List.getD_eq_getElem?_getD, hj]
    show ¬ cs.getD j 0 < 0 ∧ ¬ 65535 < cs.getD j 0
    rw [e]; exact hb _ (List.getElem_mem _)⟩
theorem same_list (cs ds : List Int32) : SameT cs.length (fun j => cs.getD j 0) ds.length (fun j => ds.getD j 0) ↔ cs = ds := by
  constructor
  · rintro ⟨e, q⟩
    refine List.ext_getElem e fun j h1 h2 => ?_
    have := q j h1
    simpa [List.getD_eq_getElem?_getD, h1, h2] using this
  · rintro rfl
    exact ⟨rfl, fun _ _ => rfl⟩
/-- **equals(Object) OF TWO SUCH STRINGS**: 1 just where the chars are the same -/
theorem eqW {p : Program} {l : Launch} {e : Env} {R : Room} {s : State} {args : Array Value} {below : List Frame} {len W : Nat} {Z : State} {a0 : Array Value} {h : Heap} (hZ : Z.Warmed39 s.vm) (hw : ∀ d ∈ wordsEq, d.before a0 Z = true) {kI : Nat} (wi : (Jvm.Cond.instantiable ST kI).before a0 Z = true)
    {x t : Addr} {kb : ClassId} {cs : List Int32} {cd N2 : Int32} {vs : List Value} (E : RoadKit.Exa Z h x ST) (V : RoadKit.Fld Z h x ST "value" "[B" (.ref t)) (C : RoadKit.Fld Z h x ST "coder" "B" (.int cd)) (K : RoadKit.Arv Z h t kb .byte N2 vs (.int 0)) (hc : CodA cs cd N2 vs) (hb : ∀ c ∈ cs, ¬ c < 0 ∧ ¬ (65535 : Int32) < c) (l2 : cs.length ≤ 4000)
    {y t' : Addr} {kb' : ClassId} {ds : List Int32} {cd' N2' : Int32} {vs' : List Value} (E' : RoadKit.Exa Z h y ST) (V' : RoadKit.Fld Z h y ST "value" "[B" (.ref t')) (C' : RoadKit.Fld Z h y ST "coder" "B" (.int cd')) (K' : RoadKit.Arv Z h t' kb' .byte N2' vs' (.int 0)) (hc' : CodA ds cd' N2' vs') (hb' : ∀ c ∈ ds, ¬ c < 0 ∧ ¬ (65535 : Int32) < c) (l2' : ds.length ≤ 4000)
    {z : Int32} (S : RoadKit.Sta Z h ST "COMPACT_STRINGS" "Z" (.int z)) (hz : ¬ z = 0) (hfr : 2 ≤ R.frames) (hlo : W + 28 ≤ R.locals) :
    Back l R p e below s args (⟨"java/lang/String", "equals", "(Ljava/lang/Object;)Z"⟩ : MethodName) len W (fun P a => a = #[.ref x, .ref y] ∧ P.U.heap = h ∧ P.cells + 0 ≤ R.cells ∧ P.slots + 0 ≤ R.slots)
      (fun P _ v B => ∃ L, (((v = some (.int 1) ∧ cs = ds) ∨ (v = some (.int 0) ∧ ¬ cs = ds)) ∧ L = [] ∧ B.U.heap = h) ∧ B.locs = P.locs ++ L ∧ B.cells = P.cells + 0 ∧ B.slots = P.slots + 0) := by
  intro m meth c P g ig mk a X hg hsize hdg hW hn hp'
  obtain ⟨rfl, rfl, r1, r2⟩ := hp'
  have al : Z.vm.Alike P.U.vm := hZ.alike.trans X.warmed.alike
  obtain ⟨A, hx⟩ := txt_of wi al E V C K hc hb l2
  obtain ⟨A', hy⟩ := txt_of wi al E' V' C' K' hc' hb' l2'
  obtain ⟨v, B, X', ⟨⟨w, hv, hh, hq⟩, hl, hk, hs⟩, st⟩ := SEq.pays x t A cd cs.length (fun j => cs.getD j 0) y t' A' cd' ds.length (fun j => ds.getD j 0) z (tabEq_of (movedEq hZ hw)) hfr hlo m meth c P g ig mk _ X hg hsize hdg hW hn ⟨r1, r2, rfl, hx, hy, sta_is al S, hz⟩
  refine ⟨v, B, X', ⟨[], ⟨?_, rfl, hh⟩, hl, hk, hs⟩, st⟩
  rcases hq with ⟨rfl, q⟩ | ⟨rfl, q⟩
  · exact Or.inl ⟨hv, (same_list cs ds).mp q⟩
  · exact Or.inr ⟨hv, fun e => q ((same_list cs ds).mpr e)⟩
end StrChars.Road
namespace StrChars
open Jvm Sem ClassFile Op Lib Jvm.Stand Jvm.Free.XT Jvm.Free.ALB Jvm.Free.JM Jvm.Free
open Jvm.Lib.Cold (StaticIs)
namespace ChN
def yN : MethodName := ⟨"java/lang/String", "charAt", "(I)C"⟩
abbrev yB : ByteArray := jdk_42_method_56_code
theorem d0 : decode yB 0 = .ok (.aload_n 0, 1) := by decide +kernel
theorem d1 : decode yB 1 = .ok (.invokevirtual 492, 3) := by decide +kernel
theorem d4 : decode yB 4 = .ok (.ifCond (.eq) 12, 3) := by decide +kernel
theorem d7 : decode yB 7 = .ok (.aload_n 0, 1) := by decide +kernel
theorem d8 : decode yB 8 = .ok (.getfield 9, 3) := by decide +kernel
theorem d11 : decode yB 11 = .ok (.iload_n 1, 1) := by decide +kernel
theorem d12 : decode yB 12 = .ok (.invokestatic 495, 3) := by decide +kernel
theorem d15 : decode yB 15 = .ok (.ireturn, 1) := by decide +kernel
def site : List Cond := [.fieldLink "java/lang/String" 9 "java/lang/String" "value" "[B", IsL.tab, LChA.tab] ++ virtW "java/lang/String" 492 "java/lang/String" IsL.yN IsL.yN ++ staticW "java/lang/String" 495 LChA.yN
def tab : Cond := tabOf yN yB 2 (some .char) site
def P (x t : Addr) (V : Cell) (n : Nat) (f : Nat → Int32) (z : Int32) (fm : Value) (i : Nat) (args : Array Value) (s : State) : Prop := args = #[.ref x, .int (Int32.ofNat i)] ∧ Txt x t V 0 n f s ∧ i < n ∧ StaticIs s "java/lang/String" "COMPACT_STRINGS" "Z" (.int z) ∧ ¬ z = 0 ∧ StaticIs s "jdk/internal/util/Preconditions" "SIOOBE_FORMATTER" "Ljava/util/function/BiFunction;" fm ∧ fm.isRef = true
def E (f : Nat → Int32) (i : Nat) (r : Option Value) (s u : State) : Prop := XT.PureE (some (.int (f i))) r s u
/-- charAt(i) of a Latin-1 String of n chars, i < n: f i -/
theorem law (l : Launch) (x t : Addr) (V : Cell) (n : Nat) (f : Nat → Int32) (z : Int32) (fm : Value) (i : Nat) : Law l yN 2 1 3 40 yB 2 (some .char) site (P x t V n f z fm i) (E f i) [] 0 0 := by
  refine Law.of_walk (plainFor_of_name (by decide +kernel)) (by decide +kernel) (by decide +kernel) (by decide) (fun _ _ h => by rw [h.1]; rfl) (fun _ U U' hal hh h => ⟨h.1, h.2.1.mv hal hh, h.2.2.1, h.2.2.2.1.there hal hh, h.2.2.2.2.1, h.2.2.2.2.2.1.there hal hh, h.2.2.2.2.2.2⟩) (fun r U U' V V' h1 hal h2 h => XT.PureE.mv r U U' V V' h1 hal h2 h) ?_
  intro p e s m args below meth c s₁ X0 hexec hbytes hml hret hlk hnm hown hh0 W hP
  obtain ⟨rfl, hx, hi, s1, hz, s3, rf⟩ := hP
  have v31 := hx.2.2.2.1.2.2.2
  have hr := hx.2.2.2.2.2 i hi
  have hx0 := hx.mv X0.warmed.alike hh0
  have c1 : Steps p.tables e below (s₁.setTop (entryFrame m #[.ref x, .int (Int32.ofNat i)] 2)) (s₁.setTop (mkF m 1 #[.val (.ref x), .val (.int (Int32.ofNat i))] [.ref x])) := Steps.trans (entry rfl) (by
    show Steps p.tables e below (s₁.setTop (mkF m 0 #[.val (.ref x), .val (.int (Int32.ofNat i))] [])) _
    refine XS.aloadN X0.here hexec rfl (hb hbytes d0) rfl rfl ?_
    exact Steps.refl _)
  obtain ⟨v2, T2, X2, E2, g2⟩ := X0.callV hexec (IsL.law l x 0 z) hown (wks W (virtW "java/lang/String" 492 "java/lang/String" IsL.yN IsL.yN)) rfl (by decide) (wk W IsL.tab) (W := 0) (Nat.le_of_ble_eq_true rfl) (Nat.le_of_ble_eq_true rfl) (Nat.le_refl _) (Nat.le_refl _) (hx0.1.fc X0.warmed.alike) hx0.1.is (g := (mkF m 1 #[.val (.ref x), .val (.int (Int32.ofNat i))] [.ref x])) rfl (by rw [hml]; rfl) c1 (argsL := []) (rest := []) rfl rfl (by show 2 * 0 + 0 ≤ _; decide) (hb hbytes d1) (⟨rfl, hx0.2.2.1, hx.2.2.2.2.1.cd, s1.there X0.warmed.alike hh0, hz⟩)
  obtain ⟨rfl, q2⟩ := E2
  have hh2 := q2.trans hh0
  have hx2 := hx.mv X2.warmed.alike hh2
  obtain ⟨-, k1, k2⟩ | ⟨k0, -⟩ := hx.2.2.2.2.1
  · have c3 : Steps p.tables e below (s₁.setTop (entryFrame m #[.ref x, .int (Int32.ofNat i)] 2)) (T2.setTop (mkF m 8 #[.val (.ref x), .val (.int (Int32.ofNat i))] [.ref x])) := Steps.trans g2 (by
      refine XS.ifNo X2.here hexec rfl (hb hbytes d4) rfl (i0_eq_f (by decide)) ?_
      refine XS.aloadN X2.here hexec rfl (hb hbytes d7) rfl rfl ?_
      exact Steps.refl _)
    obtain ⟨T4, X4, q4, st4⟩ := X2.hget hexec hown (wk W (.fieldLink "java/lang/String" 9 "java/lang/String" "value" "[B")) hx2.2.1 (g := (mkF m 8 #[.val (.ref x), .val (.int (Int32.ofNat i))] [.ref x])) rfl (rest := []) rfl (hb hbytes d8)
    have hh4 := q4.trans hh2
    have c5 : Steps p.tables e below (s₁.setTop (entryFrame m #[.ref x, .int (Int32.ofNat i)] 2)) (T4.setTop (mkF m 12 #[.val (.ref x), .val (.int (Int32.ofNat i))] [.int (Int32.ofNat i), .ref t])) := (c3.trans (st4 _ (Steps.refl _))).trans (by
      refine XS.iloadN X4.here hexec rfl (hb hbytes d11) rfl ?_
      exact Steps.refl _)
    obtain ⟨v6, T6, X6, E6, g6⟩ := X4.callS hexec (LChA.law l t V i (lo8 (f i)) fm) hown (wks W (staticW "java/lang/String" 495 LChA.yN)) (wk W LChA.tab) (W := 0) (Nat.le_of_ble_eq_true rfl) (Nat.le_of_ble_eq_true rfl) (Nat.le_refl _) (Nat.le_refl _) (g := (mkF m 12 #[.val (.ref x), .val (.int (Int32.ofNat i))] [.int (Int32.ofNat i), .ref t])) rfl (by rw [hml]; rfl) c5 (argsL := [.ref t, .int (Int32.ofNat i)]) (rest := []) rfl rfl (by show 2 * 0 + 0 ≤ _; decide) (hb hbytes d12) (⟨rfl, hx.2.2.2.1.mv X4.warmed.alike hh4, (k2 i hi).1, s3.there X4.warmed.alike hh4, rf⟩)
    obtain ⟨rfl, q6⟩ := E6
    rw [chr8_lo8 hr.1 (k2 i hi).2] at g6
    exact ⟨T6, some (.int (f i)), _, _, _, X6, rfl, rfl, rfl, (fun h => by cases h), ⟨rfl, q6.trans hh4⟩, fun fs hl => Steps.trans g6 (X6.ireturnOut hexec hret (narrow_ch hr.1 hr.2) (Or.inr (Or.inr (Or.inr (Or.inl rfl)))) (hb hbytes d15) hl)⟩
  · exact absurd k0 (by decide)
theorem pays {l : Launch} {R : Room} {p : Program} {e : Env} {below : List Frame} {s : State} {sargs : Array Value} {len W : Nat} (x t : Addr) (V : Cell) (n : Nat) (f : Nat → Int32) (z : Int32) (fm : Value) (i : Nat) (htab : tab.before sargs s = true) (hfr : 4 ≤ R.frames) (hlo : W + 53 ≤ R.locals) :
    Back l R p e below s sargs yN len W (fun A₁ a₁ => A₁.cells + 0 ≤ R.cells ∧ A₁.slots + 0 ≤ R.slots ∧ P x t V n f z fm i a₁ A₁.U) (fun A₁ _ v₁ B₁ => E f i v₁ A₁.U B₁.U ∧ B₁.locs = A₁.locs ++ [] ∧ B₁.cells = A₁.cells + 0 ∧ B₁.slots = A₁.slots + 0) :=
  (law l x t V n f z fm i).pays htab hfr (by omega)
end ChN
end StrChars
namespace StrChars.Road
open Jvm Sem ClassFile Op Lib Jvm.Stand Jvm.Free Jvm.Free.XT
open Jvm.Lib.Cold (StaticIs)
/-- the words of String.charAt(int), the Latin-1 road alone -/
abbrev wordsChN : List Jvm.Cond := [.code ChN.yN ChN.yB 2 (some .char), .initialized ST, .fieldLink ST 9 ST "value" "[B", .fieldLink ST 38 ST "COMPACT_STRINGS" "Z", .fieldLink ST 15 ST "coder" "B", .code IsL.yN IsL.yB 1 (some .boolean), .methodLink ST 492 IsL.yN, .declares IsL.yN, .selects ST IsL.yN IsL.yN, .instanceMethod IsL.yN,
  .methodLink ST 495 LChA.yN, .static LChA.yN, .code LChA.yN LChA.yB 2 (some .char), .initialized "java/lang/StringLatin1", .methodLink "java/lang/StringLatin1" 9 JO.Str_checkIndex.yN, .static JO.Str_checkIndex.yN, .code JO.Str_checkIndex.yN JO.Str_checkIndex.yB 2 none,
  .fieldLink ST 1053 "jdk/internal/util/Preconditions" "SIOOBE_FORMATTER" "Ljava/util/function/BiFunction;", .methodLink ST 1059 JC.PreCheck.yN, .static JC.PreCheck.yN, .code JC.PreCheck.yN JC.PreCheck.yB 3 (some .int), .initialized "jdk/internal/util/Preconditions"]
theorem tabChN_of {a : Array Value} {s : State} (h : ∀ w ∈ wordsChN, w.before a s = true) : ChN.tab.before a s = true := by
  have hp : JC.PreCheck.tab.before a s = true := unparts (wk h (.code JC.PreCheck.yN JC.PreCheck.yB 3 (some .int))) (wks h (.initialized JC.PreCheck.yN.cls :: JC.PreCheck.site))
  have qk := consq hp h
  have hk : JO.Str_checkIndex.tab.before a s = true := unparts (wk qk (.code JO.Str_checkIndex.yN JO.Str_checkIndex.yB 2 none)) (wks qk (.initialized JO.Str_checkIndex.yN.cls :: JO.Str_checkIndex.site))
  have ql := consq hk h
  have hl : LChA.tab.before a s = true := unparts (wk ql (.code LChA.yN LChA.yB 2 (some .char))) (wks ql (.initialized LChA.yN.cls :: LChA.site))
  have hi : IsL.tab.before a s = true := unparts (wk h (.code IsL.yN IsL.yB 1 (some .boolean))) (wks h (.initialized IsL.yN.cls :: IsL.site))
  have q := consq hi (consq hl h)
  exact unparts (wk q (.code ChN.yN ChN.yB 2 (some .char))) (wks q (.initialized ChN.yN.cls :: ChN.site))
theorem movedChN {Z s : State} {a0 args : Array Value} (hZ : Z.Warmed39 s.vm) (hw : ∀ d ∈ wordsChN, d.before a0 Z = true) : ∀ d ∈ wordsChN, d.before args s = true := fun d hd => by
  have t : ∀ d ∈ wordsChN, (d.onTables && d.keepsFace) = true := by decide +kernel
  exact RoadKit.mv hZ (hw d hd) (t d hd)
/-- **charAt(i) OF A LATIN-1 STRING**, i < n: the char -/
theorem chN {p : Program} {l : Launch} {e : Env} {R : Room} {s : State} {args : Array Value} {below : List Frame} {len W : Nat} {Z : State} {a0 : Array Value} {h : Heap} (hZ : Z.Warmed39 s.vm) (hw : ∀ d ∈ wordsChN, d.before a0 Z = true) {kI : Nat} (wi : (Jvm.Cond.instantiable ST kI).before a0 Z = true)
    {x t : Addr} {kb : ClassId} {cs : List Int32} {N2 z : Int32} {vs : List Value} {fm : Value} {i : Nat} {j : Int32} (E : RoadKit.Exa Z h x ST) (V : RoadKit.Fld Z h x ST "value" "[B" (.ref t)) (C : RoadKit.Fld Z h x ST "coder" "B" (.int 0)) (K : RoadKit.Arv Z h t kb .byte N2 vs (.int 0)) (hc : CodA cs 0 N2 vs) (hb : ∀ c ∈ cs, ¬ c < 0 ∧ ¬ (65535 : Int32) < c)
    (S : RoadKit.Sta Z h ST "COMPACT_STRINGS" "Z" (.int z)) (hz : ¬ z = 0) (F : RoadKit.Sta Z h "jdk/internal/util/Preconditions" "SIOOBE_FORMATTER" "Ljava/util/function/BiFunction;" fm) (rf : fm.isRef = true) (l2 : cs.length ≤ 4000) (hi : i < cs.length) (hj : j = Int32.ofNat i) (hfr : 4 ≤ R.frames) (hlo : W + 53 ≤ R.locals) :
    Back l R p e below s args (⟨"java/lang/String", "charAt", "(I)C"⟩ : MethodName) len W (fun P a => a = #[.ref x, .int j] ∧ P.U.heap = h ∧ P.cells + 0 ≤ R.cells ∧ P.slots + 0 ≤ R.slots)
      (fun P _ v B => ∃ L, (v = some (.int (cs.getD i 0)) ∧ L = [] ∧ B.U.heap = h) ∧ B.locs = P.locs ++ L ∧ B.cells = P.cells + 0 ∧ B.slots = P.slots + 0) := by
  subst hj
  intro m meth c P g ig mk a X hg hsize hdg hW hn hp'
  obtain ⟨rfl, rfl, r1, r2⟩ := hp'
  have al : Z.vm.Alike P.U.vm := hZ.alike.trans X.warmed.alike
  obtain ⟨A, hx⟩ := txt_of wi al E V C K hc hb l2
  obtain ⟨v, B, X', ⟨⟨hv, hh⟩, hl, hk, hs⟩, st⟩ := ChN.pays x t A cs.length (fun j => cs.getD j 0) z fm i (tabChN_of (movedChN hZ hw)) hfr hlo m meth c P g ig mk _ X hg hsize hdg hW hn ⟨r1, r2, rfl, hx, hi, sta_is al S, hz, sta_is al F, rf⟩
  exact ⟨v, B, X', ⟨[], ⟨hv, rfl, hh⟩, hl, hk, hs⟩, st⟩
/-- what backV says of its String, as the contracts of this text ask it: cs's low bytes, coder 0 -/
theorem codOf {cs : List Int32} {n : Nat} (hn : cs.length = n) (hb : ∀ c ∈ cs, ¬ 255 < c) : CodA cs 0 (Int32.ofNat n) ((cs.map lo8).map Value.int) := Or.inl ⟨rfl, by rw [hn], by simp [List.map_map, Function.comp_def], hb⟩
end StrChars.Road
end Jvm.Pilot.@@N@@
namespace Jvm.Pilot.@@N@@
open Jvm Jvm.ClassFile Sem Op Lib Jvm.Free Jvm.Stand Jvm.LawKit Jvm.RoadKit Bundle Jvm.Pilot.@@N@@.Jvm.D
theorem own_and255 (x : Int32) : ¬ (x &&& (255 : Int32)) < 0 ∧ ¬ (255 : Int32) < (x &&& (255 : Int32)) := by
  have h := c_and x (255 : Int32) (by decide)
  have e : (255 : Int32).toInt = 255 := by decide
  have e0 : (0 : Int32).toInt = 0 := by decide
  rw [Int32.lt_iff_toInt_lt, Int32.lt_iff_toInt_lt]; omega
theorem own_nar (x : Int32) (h : ¬ x < 0 ∧ ¬ (255 : Int32) < x) : x.toUInt32.toUInt16.toUInt32.toInt32 = x := by
  have q := c_i2c x
  have e : (255 : Int32).toInt = 255 := by decide
  have e0 : (0 : Int32).toInt = 0 := by decide
  rw [Int32.lt_iff_toInt_lt, Int32.lt_iff_toInt_lt] at h
  apply Int32.toInt_inj.mp
  omega
theorem own_narI (x : Int32) (h : ¬ x < 0 ∧ ¬ (255 : Int32) < x) : ¬ nar .char x < 0 ∧ ¬ (255 : Int32) < nar .char x := by
  have e : nar .char x = x := own_nar x h
  rw [e]; exact h
theorem own_i2c (x : Int32) (h : ¬ x < 0 ∧ ¬ (255 : Int32) < x) : ¬ x.toUInt32.toUInt16.toUInt32.toInt32 < 0 ∧ ¬ (255 : Int32) < x.toUInt32.toUInt16.toUInt32.toInt32 := by
  rw [own_nar x h]; exact h
theorem own_up (cs : List Int32) (h : ∀ c ∈ cs, ¬ c < 0 ∧ ¬ (255 : Int32) < c) : ∀ c ∈ cs, ¬ c < 0 ∧ ¬ (65535 : Int32) < c := fun c hc => ⟨(h c hc).1, fun q => (h c hc).2 (by
  rw [Int32.lt_iff_toInt_lt] at q ⊢
  have e1 : (65535 : Int32).toInt = 65535 := by decide
  have e2 : (255 : Int32).toInt = 255 := by decide
  omega)⟩
theorem own_cat {w : Value} (h : w.isRef = true) : w.category = 1 := by rcases ref_cases h with rfl | ⟨a, rfl⟩ <;> rfl
theorem own_nrw {w : Value} {t : FieldType} (h : w.isRef = true) (ht : t.isReference = true) : narrow t w = w := by
  rcases ref_cases h with rfl | ⟨a, rfl⟩ <;> cases t <;> first | rfl | cases ht
theorem own_fit {w : Value} {t : FieldType} (h : w.isRef = true) (ht : t.isReference = true) : fits t w = true := by
  rcases ref_cases h with rfl | ⟨a, rfl⟩ <;> cases t <;> first | rfl | cases ht
def OptStr (Z : State) (h : Heap) (w : Value) : Prop := w = .null ∨ ∃ a, w = .ref a ∧ Exa Z h a "java/lang/String"
theorem OptStr.ref {Z : State} {h : Heap} {w : Value} (F : OptStr Z h w) : w.isRef = true := by rcases F with rfl | ⟨a, rfl, -⟩ <;> rfl
theorem OptStr.ext {Z : State} {h h' : Heap} {w : Value} (E : Ext h h') (F : OptStr Z h w) : OptStr Z h' w := F.imp id fun ⟨a, q, r⟩ => ⟨a, q, r.ext E⟩
theorem OptStr.wr {Z : State} {h h' : Heap} {w v : Value} {b : Addr} {sl : Nat} (W : Wr h h' b sl v) (F : OptStr Z h w) : OptStr Z h' w := F.imp id fun ⟨a, q, r⟩ => ⟨a, q, r.wr W⟩
theorem OptStr.keep {Z : State} {h h' : Heap} {w : Value} {ws : List Addr} (F : OptStr Z h w) (K : Keep h h' ws) : OptStr Z h' w := F.imp id fun ⟨a, q, r⟩ => ⟨a, q, r.keep K⟩
theorem own_safeStr {Z : State} {EL : List (String × Nat)} {vm : Vm} {h : Heap} {x : Addr} (hal : Z.vm.Alike vm) (E : Exa Z h x "java/lang/String") (F : Fld Z h x "java/lang/String" "value" "[B" .null) : Safe Z EL vm h x := fun B => by
  obtain ⟨cell, k, e1, e2, e3, -, -⟩ := E
  obtain ⟨cell', cf, kf, i, f, f1, f2, f3, -, -, -, f7⟩ := F
  cases e1.symm.trans f1
  obtain ⟨p, -, u, a, -, q, -, G, rfl | rfl⟩ := B
  · cases (show h[q.sa]? = some q.sC from G.ha).symm.trans e1
    obtain ⟨cS, ⟨⟨-, -, -, ⟨c1, k1, i1, g1, -⟩, -, -, -, v1, -⟩, -⟩, -⟩ := G
    obtain ⟨k', g0⟩ := ff_back (Z := Z) (U := Wst Z vm h) hal g1
    have g2 : Z.fieldFound? "java/lang/String" "value" "[B" = _ := g0
    rw [f2] at g2
    simp only [Option.some.injEq, Prod.mk.injEq] at g2
    rw [← g2.2.2.2, f7] at v1
    cases v1
  · cases (show h[q.sd]? = some q.SA from G.hd).symm.trans e1
    obtain ⟨cS, -, -, f, -⟩ := G
    have f' : vm.findClass "[B" = some q.SA.cls := f
    rw [hal.findClass] at f'
    obtain ⟨k1, q1, q2⟩ := Vm.findClass_spec f'
    obtain ⟨k2, q3, q4⟩ := Vm.findClass_spec e2
    cases q1.symm.trans q3
    exact absurd (q2.symm.trans q4) (by decide)
theorem own_ne_arv {Z : State} {h : Heap} {a b : Addr} {C : String} {a0 : Array Value} {kk : Nat} {k : ClassId} {ty : FieldType} {z : Int32} {vs : List Value} {d : Value} (F : Exa Z h a C) (wi : (Cond.instantiable C kk).before a0 Z = true) (G : Arv Z h b k ty z vs d) : a ≠ b := by
  obtain ⟨c, A, -⟩ := G
  exact ne_arr F wi A
def own_els (s : State) (args : Array Value) (t : Term) : Nat → List Value → Prop
  | _, [] => True
  | i, v :: r => (Term.elem t (Term.int (Int32.ofNat i))).eval args s none [] s = some v ∧ own_els s args t (i + 1) r
theorem own_els_at {s : State} {args : Array Value} {t : Term} : ∀ (vs : List Value) (i : Nat), own_els s args t i vs → ∀ j v, vs[j]? = some v → (Term.elem t (Term.int (Int32.ofNat (i + j)))).eval args s none [] s = some v
  | [], _, _, j, v, h => by simp at h
  | w :: r, i, H, 0, v, h => by
    simp at h; subst h; exact H.1
  | w :: r, i, H, j + 1, v, h => by
    have q := own_els_at r (i + 1) H.2 j v (by simpa using h)
    rw [show i + 1 + j = i + (j + 1) from by omega] at q
    exact q
theorem own_oldarr {s : State} {args : Array Value} {t : Term} {ty : FieldType} {a : Addr} {z : Int32} {vs : List Value} (d : Value) (hf : Fit s) (hev : t.eval args s none [] s = some (.ref a)) (w3 : (Cond.arrayOf t ty).value args s none s [] = some true)
    (w4 : (Cond.eq (Term.length t) (Term.int z)).value args s none s [] = some true) (hz : ¬ z < 0) (hl : z.toNatClampNeg = vs.length) (hel : own_els s args t 0 vs) : ∃ k, Arv s s.heap a k ty z vs d := by
  obtain ⟨cA, hA⟩ := Arr.start hev w3
  have hlen : (Term.length t).eval args s none [] s = some (.int z) := Cond.eq_int (Cond.before_iff.mpr w4) rfl
  have hAA := Arr.fin (U := s) (Vm.Alike.refl _) hA
  have h31 : cA.slots.size < 2 ^ 31 := Jvm.Free.SBG.length_lt hev hAA hlen
  have hsz : cA.slots.size.toInt32 = z := by
    have q := (len_f hev hAA h31).symm.trans hlen
    exact Value.int.inj (Option.some.inj q)
  have S : cA.slots.size = z.toNatClampNeg := by rw [← hsz]; simp only [Int32.toNatClampNeg, len_toInt h31]; rfl
  have idx : ∀ j, j < cA.slots.size → (Int32.ofNat j).toNatClampNeg = j := fun j hj => by
    have := len_toInt (Nat.lt_trans hj h31)
    show (Nat.toInt32 j).toNatClampNeg = j
    simp only [Int32.toNatClampNeg, this]; rfl
  have at' : ∀ j, j < cA.slots.size → cA.slots[j]? = some (vs.getD j d) := fun j hj => by
    have hj' : j < vs.length := by omega
    have q := own_els_at vs 0 hel j vs[j] (List.getElem?_eq_getElem hj')
    rw [Nat.zero_add] at q
    have q2 := (elem_in q hev (show (Term.int (Int32.ofNat j)).eval args s none [] s = some (.int (Int32.ofNat j)) from rfl) hA.1).2
    rw [idx j hj] at q2
    rw [q2]; simp [List.getD_eq_getElem?_getD, hj']
  refine ⟨cA.cls, cA, hA, rfl, S, hz, at', fun j hj => ?_⟩
  exact elem_fits (j := Nat.toInt32 j) hf hA (idx_in hj h31) (by rw [show (Nat.toInt32 j).toNatClampNeg = j from idx j hj]; exact at' j hj)
theorem own_elref {s : State} {args : Array Value} {a b : Term} {x : Addr} (hb : b.eval args s none [] s = some (.ref x)) (h : (Cond.eq a b).value args s none s [] = some true) : a.eval args s none [] s = some (.ref x) := by
  obtain ⟨u, v, hu, hv, k1, k2⟩ := cmp_v (Or.inl h)
  cases hv.symm.trans hb
  have r1 : u.isRef = true := by cases u <;> simp_all [Kin, Value.isRef]
  rw [hu, gotT (eq_R hu hb r1 rfl) h]
theorem own_oldstr {s : State} {args : Array Value} {t : Term} {z : Int32} {vs : List Value} (hf : Fit s) (w1 : (Cond.exactly t "java/lang/String").value args s none s [] = some true) (w2 : (Cond.eq (Term.field t "java/lang/String" "coder" "B") (Term.int 0)).value args s none s [] = some true)
    (w3 : (Cond.arrayOf (Term.field t "java/lang/String" "value" "[B") .byte).value args s none s [] = some true) (w4 : (Cond.eq (Term.length (Term.field t "java/lang/String" "value" "[B")) (Term.int z)).value args s none s [] = some true) (hz : ¬ z < 0) (hl : z.toNatClampNeg = vs.length)
    (hel : own_els s args (Term.field t "java/lang/String" "value" "[B") 0 vs) : ∃ (a tt : Addr) (kb : ClassId), t.eval args s none [] s = some (.ref a) ∧ Exa s s.heap a "java/lang/String" ∧ Fld s s.heap a "java/lang/String" "coder" "B" (.int 0) ∧ Fld s s.heap a "java/lang/String" "value" "[B" (.ref tt) ∧ Arv s s.heap tt kb .byte z vs (.int 0) := by
  obtain ⟨a, ha⟩ := exa_v w1
  obtain ⟨tt, ht⟩ := arr_v w3
  obtain ⟨kb, hV⟩ := own_oldarr (.int 0) hf ht w3 w4 hz hl hel
  have hc : (Term.field t "java/lang/String" "coder" "B").eval args s none [] s = some (.int 0) := Cond.eq_int (Cond.before_iff.mpr w2) rfl
  exact ⟨a, tt, kb, ha, Exa.start ha w1, Fld.start ((fld_at ha).symm.trans hc), Fld.start ((fld_at ha).symm.trans ht), hV⟩
theorem own_narE (x : Int32) (h : ¬ x < 0 ∧ ¬ (255 : Int32) < x) : nar .char x = x := own_nar x h
theorem own_cast {Z : State} {h : Heap} {t : Addr} {k : ClassId} {ty : FieldType} {z z' : Int32} {vs vs' : List Value} {d : Value} (e1 : z = z') (e2 : vs = vs') (V : Arv Z h t k ty z vs d) : Arv Z h t k ty z' vs' d := by subst e1 e2; exact V
def own_pick (cs : List Int32) (i0 i1 i2 i3 i4 : Addr) : Value := if cs = ([105, 110, 116] : List Int32) then .ref i0 else if cs = ([108, 111, 110, 103] : List Int32) then .ref i1 else if cs = ([100, 111, 117, 98, 108, 101] : List Int32) then .ref i2 else if cs = ([98, 111, 111, 108, 101, 97, 110] : List Int32) then .ref i3 else if cs = ([83, 116, 114, 105, 110, 103] : List Int32) then .ref i4 else .null
theorem own_pick_ref (cs : List Int32) (i0 i1 i2 i3 i4 : Addr) : (own_pick cs i0 i1 i2 i3 i4).isRef = true := by
  unfold own_pick
  split
  · rfl
  split
  · rfl
  split
  · rfl
  split
  · rfl
  split <;> rfl
def own_cs (n c0 c1 c2 c3 c4 c5 c6 : Int32) : List Int32 := if n = 0 then [] else if n = 1 then [c0] else if n = 2 then [c0, c1] else if n = 3 then [c0, c1, c2] else if n = 4 then [c0, c1, c2, c3] else if n = 5 then [c0, c1, c2, c3, c4] else if n = 6 then [c0, c1, c2, c3, c4, c5] else [c0, c1, c2, c3, c4, c5, c6]
theorem own_cs_sub (n c0 c1 c2 c3 c4 c5 c6 : Int32) : (∀ c ∈ own_cs n c0 c1 c2 c3 c4 c5 c6, c ∈ [c0, c1, c2, c3, c4, c5, c6]) ∧ (own_cs n c0 c1 c2 c3 c4 c5 c6).length ≤ 4000 := by
  unfold own_cs
  split
  · simp
  split
  · simp
  split
  · simp
  split
  · simp
  split
  · simp
  split
  · simp
  split <;> simp
theorem own_cs_lat {n c0 c1 c2 c3 c4 c5 c6 : Int32} (h : ∀ c ∈ [c0, c1, c2, c3, c4, c5, c6], ¬ c < 0 ∧ ¬ (255 : Int32) < c) : ∀ c ∈ own_cs n c0 c1 c2 c3 c4 c5 c6, ¬ c < 0 ∧ ¬ (255 : Int32) < c := fun c hc => h c ((own_cs_sub _ _ _ _ _ _ _ _).1 c hc)
theorem own_ltn {i n : Nat} (hi : i < 4000) (hn : n ≤ 4000) (h : Int32.ofNat i < Int32.ofNat n) : i < n := by
  rw [Int32.lt_iff_toInt_lt, Int32.toInt_ofNat_small (by omega), Int32.toInt_ofNat_small (by omega)] at h
  omega
theorem pno_0 : plainName "java/lang/String" = true := by first | (simp [plainName, overriddenIn]; done) | decide +kernel
theorem pdo_0 : parseMethodDescriptor "([CIILjava/lang/Void;)V" = some ⟨[(.array .char), .int, .int, (.object "java/lang/Void")], none⟩ := by decide +kernel
theorem pno_1 : plainName "interfold/model/LogicTypeNamedPinLaw" = true := by first | (simp [plainName, overriddenIn]; done) | decide +kernel
theorem pdo_1 : parseMethodDescriptor "(I)Ljava/lang/String;" = some ⟨[.int], some (.object "java/lang/String")⟩ := by decide +kernel
theorem pdo_2 : parseMethodDescriptor "()I" = some ⟨[], some .int⟩ := by decide +kernel
theorem pdo_3 : parseMethodDescriptor "(I)C" = some ⟨[.int], some .char⟩ := by decide +kernel
theorem pdo_4 : parseMethodDescriptor "([C)V" = some ⟨[(.array .char)], none⟩ := by decide +kernel
theorem pdo_5 : parseMethodDescriptor "(Ljava/lang/Object;)Z" = some ⟨[(.object "java/lang/Object")], some .boolean⟩ := by decide +kernel
theorem pno_2 : plainName "interfold/model/LogicType" = true := by first | (simp [plainName, overriddenIn]; done) | decide +kernel
theorem pdo_6 : parseMethodDescriptor "()[Linterfold/model/LogicType;" = some ⟨[], some (.array (.object "interfold/model/LogicType"))⟩ := by decide +kernel
theorem pdo_7 : parseMethodDescriptor "(Ljava/lang/String;)Linterfold/model/LogicType;" = some ⟨[(.object "java/lang/String")], some (.object "interfold/model/LogicType")⟩ := by decide +kernel
theorem pdo_8 : parseMethodDescriptor "(IIJZ)C" = some ⟨[.int, .int, .long, .boolean], some .char⟩ := by decide +kernel
theorem pdo_9 : parseMethodDescriptor "(ICCCCCCC)Ljava/lang/String;" = some ⟨[.int, .char, .char, .char, .char, .char, .char, .char], some (.object "java/lang/String")⟩ := by decide +kernel
def Q_emp (Z : State) (a : Addr) (h0 : Heap) (n0 : Nat) (v : Option Value) (h : Heap) (L : List Loc) : Prop := v = none ∧ Fr n0 L ∧ Keep h0 h [a] ∧ Exa Z h a "java/lang/String" ∧ Fld Z h a "java/lang/String" "coder" "B" (.int 0) ∧ ∃ (t : Addr) (kb : ClassId), ¬ t = a ∧ Fld Z h a "java/lang/String" "value" "[B" (.ref t) ∧ Arv Z h t kb .byte 0 [] (.int 0)
theorem d_rm_emp4_0 : decode jdk_42_method_149_code 0 = .ok (.aload_n 0, 1) := by decide +kernel
theorem d_rm_emp4_1 : decode jdk_42_method_149_code 1 = .ok (.invokespecial 1, 3) := by decide +kernel
theorem d_rm_emp4_4 : decode jdk_42_method_149_code 4 = .ok (.iload_n 3, 1) := by decide +kernel
theorem d_rm_emp4_5 : decode jdk_42_method_149_code 5 = .ok (.ifCond .ne 22, 3) := by decide +kernel
theorem d_rm_emp4_8 : decode jdk_42_method_149_code 8 = .ok (.aload_n 0, 1) := by decide +kernel
theorem d_rm_emp4_9 : decode jdk_42_method_149_code 9 = .ok (.ldc 7, 2) := by decide +kernel
theorem d_rm_emp4_11 : decode jdk_42_method_149_code 11 = .ok (.getfield 9, 3) := by decide +kernel
theorem d_rm_emp4_14 : decode jdk_42_method_149_code 14 = .ok (.putfield 9, 3) := by decide +kernel
theorem d_rm_emp4_17 : decode jdk_42_method_149_code 17 = .ok (.aload_n 0, 1) := by decide +kernel
theorem d_rm_emp4_18 : decode jdk_42_method_149_code 18 = .ok (.ldc 7, 2) := by decide +kernel
theorem d_rm_emp4_20 : decode jdk_42_method_149_code 20 = .ok (.getfield 15, 3) := by decide +kernel
theorem d_rm_emp4_23 : decode jdk_42_method_149_code 23 = .ok (.putfield 15, 3) := by decide +kernel
theorem d_rm_emp4_26 : decode jdk_42_method_149_code 26 = .ok (.return_, 1) := by decide +kernel
theorem ef_rm_emp4 (m : MethodId) (x0 : Addr) (x1 : Addr) (x2 : Int32) (x3 : Int32) : entryFrame m #[(.ref x0), (.ref x1), (.int x2), (.int x3), .null] 6 = mkF m 0 #[.val (.ref x0), .val (.ref x1), .val (.int x2), .val (.int x3), .val .null, .unset] [] := by first | (simp [entryFrame, mkF, argsToLocals, Value.category]; done) | rfl
set_option maxRecDepth 65536 in
set_option maxHeartbeats 3000000 in
theorem rm_emp4 (l : Launch) (Z : State) (a0 : Array Value) (hw : ∀ d ∈ tables_1, d.before a0 Z = true) (hEW : EW Z a0 consts_1) (ws : List Jvm.Cond) (a b : Addr) (h0 : Heap) (n0 : Nat) (Z0 : n0 ≤ h0.size) (E_a : Exa Z h0 a "java/lang/String") (ga : n0 ≤ a) (F_value : Fld Z h0 a "java/lang/String" "value" "[B" .null) (F_coder : Fld Z h0 a "java/lang/String" "coder" "B" (.int (0 : Int32))) :
    MetFree l (⟨"java/lang/String", "<init>", "([CIILjava/lang/Void;)V"⟩ : MethodName) (head1 (Jvm.Cond.code (⟨"java/lang/String", "<init>", "([CIILjava/lang/Void;)V"⟩ : MethodName) jdk_42_method_149_code 6 none :: ws) ({ frames := 1, cells := 2, slots := 4, locals := 12 } : Room)) (fun αs U => αs = #[(.ref a), (.ref b), (.int (0 : Int32)), (.int (0 : Int32)), .null] ∧ Z.Warmed39 U.vm ∧ U.heap = h0 ∧ CHv Z consts_1 U.vm h0) (fun _ _ _ _ _ => True) (fun _ U o U' => ∃ v L, o = .returned v ∧ Q_emp Z a h0 n0 v U'.heap L ∧ CHr Z consts_1 U.vm U.heap U'.vm U'.heap ∧ ReturnedEndW U o U' L ({ frames := 1, cells := 2, slots := 4, locals := 12 } : Room).cells ({ frames := 1, cells := 2, slots := 4, locals := 12 } : Room).slots) := by
  refine MetFree.of_bodySF (plainFor_of_name pno_0) hisR ?_
  intro pP e s m args below meth cC s₁ Bd hml0 hP hK
  obtain ⟨rfl, hZ, hh, CH0⟩ := hP
  have hx := Bd.exec
  have hby := Bd.bytes
  have hml : cC.maxLocals = 6 := hml0
  have hown : s.vm.findClass "java/lang/String" = some m.cls := findClass_of_methodNamed Bd.named
  have hnm := (name_of_methodNamed Bd.named Bd.method).1
  have X0 : Stand pP l e ({ frames := 1, cells := 2, slots := 4, locals := 12 } : Room) (s.setVm s.vm) m #[(.ref a), (.ref b), (.int (0 : Int32)), (.int (0 : Int32)), .null] below meth cC s₁ [] 0 0 := Stand.of_body Bd
  have e0 : s₁.heap = h0 := by rw [← hh, Bd.state]; rfl
  have N0 := Fr.nil n0
  have KC0 : Keep h0 h0 [a] := Keep.refl h0 _
  replace hZ : Z.Warmed39 (s.setVm s.vm).vm := hZ
  replace hown : (s.setVm s.vm).vm.findClass "java/lang/String" = some m.cls := hown
  have SI0 : s.Since s.vm h0.size := (State.WarmedH.refl s).since _
  have SK0 : h0.size ≤ h0.size := Nat.le_refl _
  have CR0 : CHr Z consts_1 s.vm h0 s.vm h0 := CHr.refl CH0
  obtain ⟨A0, hA0⟩ : ∃ z, z = s₁.setTop (entryFrame m #[(.ref a), (.ref b), (.int (0 : Int32)), (.int (0 : Int32)), .null] 6) := ⟨_, rfl⟩
  have pre0 : ∀ τ, Steps pP.tables e below (s₁.setTop (mkF m 0 #[.val (.ref a), .val (.ref b), .val (.int (0 : Int32)), .val (.int (0 : Int32)), .val .null, .unset] [])) τ → Steps pP.tables e below A0 τ := fun τ κ => by rw [hA0]; exact castTop (ef_rm_emp4 m a b (0 : Int32) (0 : Int32)) κ
  have wS : ∀ a ∈ Bundle.stringAtoms, a.before a0 Z = true := fun d hd => hw d ((by decide +kernel : ∀ d ∈ Bundle.stringAtoms, d ∈ tables_1) d hd)
  have Sf101 : Safe Z consts_1 s.vm h0 a := own_safeStr hZ.alike E_a F_value
  obtain ⟨T102, X102, e102, st102⟩ := initO X0 hx hZ hown (hw _ (List.mem_of_getElem? (i := 62) rfl)) (hw _ (List.mem_of_getElem? (i := 63) rfl)) (hw _ (List.mem_of_getElem? (i := 64) rfl)) e0 (g := (mkF m 1 #[.val (.ref a), .val (.ref b), .val (.int (0 : Int32)), .val (.int (0 : Int32)), .val .null, .unset] [(.ref a)])) rfl (by rw [hml]; rfl) rfl (hb hby d_rm_emp4_1) (by decide) (W := 0) (by show 2 * 0 + _ ≤ _; exact Nat.le_of_eq rfl) (by decide)
  have pq103 : ∀ τ, Steps pP.tables e below (T102.setTop (mkF m 4 #[.val (.ref a), .val (.ref b), .val (.int (0 : Int32)), .val (.int (0 : Int32)), .val .null, .unset] [])) τ → Steps pP.tables e below A0 τ := by
    intro τ κ
    refine pre0 τ ?_
    refine XS.aloadN X0.here hx rfl (hb hby d_rm_emp4_0) rfl rfl ?_
    refine st102 _ ?_
    exact κ
  obtain ⟨b104, T104, h104, k104, t104, kb104, X104, e104, E104, SI104, SK104, Z104, O104, A104, Fc104, Fv104, V104, lt104, ltt104, C104, L104, ne104, st104⟩ := ldcCH (s := s) (vm0 := s.vm) (EL := consts_1) X102 hx hZ hown (hw _ (List.mem_of_getElem? (i := 121) rfl)) wS e102 SI0 SK0 hEW (by decide) CH0 (vs := []) (z := (0 : Int32)) (by decide) (by decide) (by decide) (g := (mkF m 9 #[.val (.ref a), .val (.ref b), .val (.int (0 : Int32)), .val (.int (0 : Int32)), .val .null, .unset] [(.ref a)])) rfl (hb hby d_rm_emp4_9) (n := 0) (by decide) (by decide) (by decide) (by decide)
  have pq105 : ∀ τ, Steps pP.tables e below (T104.setTop (mkF m 11 #[.val (.ref a), .val (.ref b), .val (.int (0 : Int32)), .val (.int (0 : Int32)), .val .null, .unset] [(.ref b104), (.ref a)])) τ → Steps pP.tables e below A0 τ := by
    intro τ κ
    refine pq103 τ ?_
    refine XS.iloadN X102.here hx rfl (hb hby d_rm_emp4_4) rfl ?_
    refine XS.ifNo X102.here hx rfl (hb hby d_rm_emp4_5) rfl ((if0 _ _).trans (teq (by decide : ((0 : Int32) = (0 : Int32)))).2) ?_
    refine XS.aloadN X102.here hx rfl (hb hby d_rm_emp4_8) rfl rfl ?_
    refine st104 _ ?_
    exact κ
  have K104 : Keep h0 h104 [] := (Keep.refl _ _).ext E104
  have KC104 : Keep h0 h104 [a] := KC0.trans K104 all0
  have CH104 := C104.1
  have CR104 := CHr.trans CR0 C104
  have f106 := (CHr.safe C104 E_a.lt Sf101)
  obtain ⟨T107, X107, e107, st107⟩ := getF X104 hx Z104 O104 (host := "") (Or.inl (hw _ (List.mem_of_getElem? (i := 17) rfl))) Via.refl e104 Fv104 (g := (mkF m 11 #[.val (.ref a), .val (.ref b), .val (.int (0 : Int32)), .val (.int (0 : Int32)), .val .null, .unset] [(.ref b104), (.ref a)])) rfl rfl (hb hby d_rm_emp4_11)
  have pq108 : ∀ τ, Steps pP.tables e below (T107.setTop (mkF m 14 #[.val (.ref a), .val (.ref b), .val (.int (0 : Int32)), .val (.int (0 : Int32)), .val .null, .unset] [(.ref t104), (.ref a)])) τ → Steps pP.tables e below A0 τ := by
    intro τ κ
    refine pq105 τ ?_
    refine st107 _ ?_
    exact κ
  have f109 := (E_a.keep K104)
  have f110 := (F_value.keep K104 nin0)
  obtain ⟨T111, h111, X111, e111, W111, st111⟩ := putF X107 hx Z104 O104 (host := "") (Or.inl (hw _ (List.mem_of_getElem? (i := 17) rfl))) Via.refl e107 f110 f109 (Or.inr ⟨(hw _ (List.mem_of_getElem? (i := 8) rfl)), rfl, hnm⟩) (hw _ (List.mem_of_getElem? (i := 6) rfl)) (ty := (.array .byte)) (by decide) rfl rfl (g := (mkF m 14 #[.val (.ref a), .val (.ref b), .val (.int (0 : Int32)), .val (.int (0 : Int32)), .val .null, .unset] [(.ref t104), (.ref a)])) rfl rfl (hb hby d_rm_emp4_14)
  have pq112 : ∀ τ, Steps pP.tables e below (T111.setTop (mkF m 17 #[.val (.ref a), .val (.ref b), .val (.int (0 : Int32)), .val (.int (0 : Int32)), .val .null, .unset] [])) τ → Steps pP.tables e below A0 τ := by
    intro τ κ
    refine pq108 τ ?_
    refine st111 _ ?_
    exact κ
  have KC111 : Keep h0 h111 [a] := KC104.wr W111 (Or.inl (List.mem_of_getElem? (i := 0) rfl))
  have CH111 := CHv.wr W111 f106 CH104
  have CR111 := CHr.trans CR104 (CHr.wr W111 f106 CH104)
  have SK111 := Nat.le_trans SK104 (Keep.of_wr W111).1
  have Fw111 := f110.same W111
  have N111 := Fr.snoc X111 N0 ga
  have f114 := (Fc104.other W111 (Or.inl (Ne.symm (ne104 _ f106).1)))
  obtain ⟨T115, X115, e115, st115⟩ := getF X111 hx Z104 O104 (host := "") (Or.inl (hw _ (List.mem_of_getElem? (i := 24) rfl))) Via.refl e111 f114 (g := (mkF m 20 #[.val (.ref a), .val (.ref b), .val (.int (0 : Int32)), .val (.int (0 : Int32)), .val .null, .unset] [(.ref b104), (.ref a)])) rfl rfl (hb hby d_rm_emp4_20)
  have pq116 : ∀ τ, Steps pP.tables e below (T115.setTop (mkF m 23 #[.val (.ref a), .val (.ref b), .val (.int (0 : Int32)), .val (.int (0 : Int32)), .val .null, .unset] [(.int (0 : Int32)), (.ref a)])) τ → Steps pP.tables e below A0 τ := by
    intro τ κ
    refine pq112 τ ?_
    refine XS.aloadN X111.here hx rfl (hb hby d_rm_emp4_17) rfl rfl ?_
    refine ldcAgain (Z := Z) (a0 := a0) X111 hx Z104 O104 (hw _ (List.mem_of_getElem? (i := 121) rfl)) L104 (g := (mkF m 18 #[.val (.ref a), .val (.ref b), .val (.int (0 : Int32)), .val (.int (0 : Int32)), .val .null, .unset] [(.ref a)])) rfl (hb hby d_rm_emp4_18) _ ?_
    refine st115 _ ?_
    exact κ
  have f117 := (f109.wr W111)
  have f118 := ((F_coder.keep K104 nin0).other W111 (Or.inr (slot_ne (Or.inr (hw _ (List.mem_of_getElem? (i := 9) rfl))) (Or.inr (hw _ (List.mem_of_getElem? (i := 8) rfl))) (by decide) (t := .byte) (t' := (.array .byte)) (by decide) (by decide))))
  have f120 := (Safe.wr W111 f106 CH104 f106)
  obtain ⟨T119, h119, X119, e119, W119, st119⟩ := putFN X115 hx Z104 O104 (hw _ (List.mem_of_getElem? (i := 24) rfl)) Via.refl e115 f118 f117 (Or.inr ⟨(hw _ (List.mem_of_getElem? (i := 9) rfl)), rfl, hnm⟩) (hw _ (List.mem_of_getElem? (i := 6) rfl)) (ty := .byte) (v' := (.int (0 : Int32))) (by decide) rfl (by decide) (g := (mkF m 23 #[.val (.ref a), .val (.ref b), .val (.int (0 : Int32)), .val (.int (0 : Int32)), .val .null, .unset] [(.int (0 : Int32)), (.ref a)])) rfl rfl (hb hby d_rm_emp4_23)
  have pq121 : ∀ τ, Steps pP.tables e below (T119.setTop (mkF m 26 #[.val (.ref a), .val (.ref b), .val (.int (0 : Int32)), .val (.int (0 : Int32)), .val .null, .unset] [])) τ → Steps pP.tables e below A0 τ := by
    intro τ κ
    refine pq116 τ ?_
    refine st119 _ ?_
    exact κ
  have KC119 : Keep h0 h119 [a] := KC111.wr W119 (Or.inl (List.mem_of_getElem? (i := 0) rfl))
  have CH119 := CHv.wr W119 f120 CH111
  have CR119 := CHr.trans CR111 (CHr.wr W119 f120 CH111)
  have SK119 := Nat.le_trans SK111 (Keep.of_wr W119).1
  have Fw119 := f118.same W119
  have N119 := Fr.snoc X119 N111 ga
  have f122 := (f117.wr W119)
  have f123 := (Fw111.other W119 (Or.inr (slot_ne (Or.inr (hw _ (List.mem_of_getElem? (i := 8) rfl))) (Or.inr (hw _ (List.mem_of_getElem? (i := 9) rfl))) (by decide) (t := (.array .byte)) (t' := .byte) (by decide) (by decide))))
  have f124 := ((V104.other W111 (Ne.symm (ne104 _ f106).2)).other W119 (Ne.symm (ne104 _ f106).2))
  have SKe := Nat.le_trans SK119 (Nat.le_of_eq (congrArg (fun z : Heap => Array.size z) (Eq.symm e119)))
  obtain ⟨fs, hrE, hrun, hended, hEnd⟩ := X119.leaveW SI104 SKe (v := none) (fun _ => rfl)
  have CHe := CHr.trans CR119 (CHv.at X119 Z104 hEW CH119)
  have pqE := pq121
  rw [hA0] at pqE
  refine ⟨_, _, pqE _ ?_, hrun, hended, _, _, rfl, ?_, ?_, hEnd.1, hEnd.2.1, hEnd.2.2.1, hEnd.2.2.2.mono (by decide) (by decide)⟩
  · show Steps pP.tables e below (T119.setTop (mkF m 26 #[.val (.ref a), .val (.ref b), .val (.int (0 : Int32)), .val (.int (0 : Int32)), .val .null, .unset] [])) _
    exact X119.returnOut hx Bd.returns (hb hby d_rm_emp4_26) hrE
  · show Q_emp Z a h0 n0 _ T119.heap _
    rw [e119]
    exact ⟨rfl, N119, KC119, f122, Fw119, t104, _, (Ne.symm (ne104 _ f106).2), f123, f124⟩
  · show CHr Z consts_1 s.vm s.heap T119.vm T119.heap
    first | (rw [hh, e119]; exact CHe) | (rw [hh]; exact CHe)
theorem d_rm_emp1_0 : decode jdk_42_method_3_code 0 = .ok (.aload_n 0, 1) := by decide +kernel
theorem d_rm_emp1_1 : decode jdk_42_method_3_code 1 = .ok (.aload_n 1, 1) := by decide +kernel
theorem d_rm_emp1_2 : decode jdk_42_method_3_code 2 = .ok (.iconst 0, 1) := by decide +kernel
theorem d_rm_emp1_3 : decode jdk_42_method_3_code 3 = .ok (.aload_n 1, 1) := by decide +kernel
theorem d_rm_emp1_4 : decode jdk_42_method_3_code 4 = .ok (.arraylength, 1) := by decide +kernel
theorem d_rm_emp1_5 : decode jdk_42_method_3_code 5 = .ok (.aconst_null, 1) := by decide +kernel
theorem d_rm_emp1_6 : decode jdk_42_method_3_code 6 = .ok (.invokespecial 27, 3) := by decide +kernel
theorem d_rm_emp1_9 : decode jdk_42_method_3_code 9 = .ok (.return_, 1) := by decide +kernel
theorem ef_rm_emp1 (m : MethodId) (x0 : Addr) (x1 : Addr) : entryFrame m #[(.ref x0), (.ref x1)] 2 = mkF m 0 #[.val (.ref x0), .val (.ref x1)] [] := by first | (simp [entryFrame, mkF, argsToLocals, Value.category]; done) | rfl
set_option maxRecDepth 65536 in
set_option maxHeartbeats 3000000 in
theorem rm_emp1 (l : Launch) (Z : State) (a0 : Array Value) (hw : ∀ d ∈ tables_1, d.before a0 Z = true) (hEW : EW Z a0 consts_1) (ws : List Jvm.Cond) (a b : Addr) (kc : ClassId) (h0 : Heap) (n0 : Nat) (Z0 : n0 ≤ h0.size) (E_a : Exa Z h0 a "java/lang/String") (ga : n0 ≤ a) (F_value : Fld Z h0 a "java/lang/String" "value" "[B" .null) (F_coder : Fld Z h0 a "java/lang/String" "coder" "B" (.int (0 : Int32))) (V_b : Arv Z h0 b kc .char (0 : Int32) [] (.int (0 : Int32))) :
    MetFree l (⟨"java/lang/String", "<init>", "([C)V"⟩ : MethodName) (head1 (Jvm.Cond.code (⟨"java/lang/String", "<init>", "([C)V"⟩ : MethodName) jdk_42_method_3_code 2 none :: ws) ({ frames := 2, cells := 2, slots := 4, locals := 29 } : Room)) (fun αs U => αs = #[(.ref a), (.ref b)] ∧ Z.Warmed39 U.vm ∧ U.heap = h0 ∧ CHv Z consts_1 U.vm h0) (fun _ _ _ _ _ => True) (fun _ U o U' => ∃ v L, o = .returned v ∧ Q_emp Z a h0 n0 v U'.heap L ∧ CHr Z consts_1 U.vm U.heap U'.vm U'.heap ∧ ReturnedEndW U o U' L ({ frames := 2, cells := 2, slots := 4, locals := 29 } : Room).cells ({ frames := 2, cells := 2, slots := 4, locals := 29 } : Room).slots) := by
  refine MetFree.of_bodySF (plainFor_of_name pno_0) hisR ?_
  intro pP e s m args below meth cC s₁ Bd hml0 hP hK
  obtain ⟨rfl, hZ, hh, CH0⟩ := hP
  have hx := Bd.exec
  have hby := Bd.bytes
  have hml : cC.maxLocals = 2 := hml0
  have hown : s.vm.findClass "java/lang/String" = some m.cls := findClass_of_methodNamed Bd.named
  have hnm := (name_of_methodNamed Bd.named Bd.method).1
  have X0 : Stand pP l e ({ frames := 2, cells := 2, slots := 4, locals := 29 } : Room) (s.setVm s.vm) m #[(.ref a), (.ref b)] below meth cC s₁ [] 0 0 := Stand.of_body Bd
  have e0 : s₁.heap = h0 := by rw [← hh, Bd.state]; rfl
  have N0 := Fr.nil n0
  have KC0 : Keep h0 h0 [a] := Keep.refl h0 _
  replace hZ : Z.Warmed39 (s.setVm s.vm).vm := hZ
  replace hown : (s.setVm s.vm).vm.findClass "java/lang/String" = some m.cls := hown
  have SI0 : s.Since s.vm h0.size := (State.WarmedH.refl s).since _
  have SK0 : h0.size ≤ h0.size := Nat.le_refl _
  have CR0 : CHr Z consts_1 s.vm h0 s.vm h0 := CHr.refl CH0
  obtain ⟨A0, hA0⟩ : ∃ z, z = s₁.setTop (entryFrame m #[(.ref a), (.ref b)] 2) := ⟨_, rfl⟩
  have pre0 : ∀ τ, Steps pP.tables e below (s₁.setTop (mkF m 0 #[.val (.ref a), .val (.ref b)] [])) τ → Steps pP.tables e below A0 τ := fun τ κ => by rw [hA0]; exact castTop (ef_rm_emp1 m a b) κ
  obtain ⟨cl101, Ar101, q101, S101, M101, Hs101, G101⟩ := id V_b
  obtain ⟨_, _, ⟨T102, L102, k102, n102⟩, -, X102, S102, G102, ⟨Lc102, hQ102, l102, y102, z102, C102⟩, st102⟩ := X0.specialBackS hx (y := (⟨"java/lang/String", "<init>", "([CIILjava/lang/Void;)V"⟩ : MethodName)) rfl hown (mvT hZ (hw _ (List.mem_of_getElem? (i := 58) rfl))) (mvT hZ (hw _ (List.mem_of_getElem? (i := 59) rfl))) (mvT hZ (hw _ (List.mem_of_getElem? (i := 61) rfl))) (by decide) (backOfSH (s := s) (vm0 := s.vm) (EL := consts_1) (W := 0) (rm_emp4 l Z a0 hw hEW [] a b h0 n0 Z0 E_a ga F_value F_coder) hZ (hw _ (List.mem_of_getElem? (i := 61) rfl)) (hw _ (List.mem_of_getElem? (i := 5) rfl)) (by decide) (by decide) hEW CH0) (g := (mkF m 6 #[.val (.ref a), .val (.ref b)] [.null, (.int (0 : Int32)), (.int (0 : Int32)), (.ref b), (.ref a)])) rfl (by rw [hml]; rfl) (Steps.refl _) (a := a) (argsL := [(.ref b), (.int (0 : Int32)), (.int (0 : Int32)), .null]) (rest := []) (lenOf pdo_0 rfl) rfl (by show 2 * 0 + _ ≤ _; exact Nat.le_of_eq rfl) (hb hby d_rm_emp1_6) (fun _ _ => ⟨rfl, e0, (by decide : 0 + 2 ≤ _), (by decide : 0 + 4 ≤ _)⟩)
  dsimp only [Pt.U, Pt.locs, Pt.cells, Pt.slots] at X102 l102 y102 z102 st102 hQ102 S102 G102 C102
  subst l102 y102 z102
  have G102a : h0.size ≤ T102.heap.size := by first | exact G102 | (rw [← e0]; exact G102)
  obtain ⟨X102, SI102, Z102, O102⟩ := rebS SI0 SK0 X102 S102 G102a hZ hown
  have SK102 : T102.heap.size ≤ T102.heap.size := Nat.le_refl _
  obtain ⟨rfl, Nq102, K102, Ex102, Fc102, t102, kb102, tc102, Fv102, Vt102⟩ := hQ102
  have N102 := Fr.app N0 Nq102
  have pq103 : ∀ τ, Steps pP.tables e below (T102.setTop (mkF m 9 #[.val (.ref a), .val (.ref b)] [])) τ → Steps pP.tables e below A0 τ := by
    intro τ κ
    refine pre0 τ ?_
    refine XS.aloadN X0.here hx rfl (hb hby d_rm_emp1_0) rfl rfl ?_
    refine XS.aloadN X0.here hx rfl (hb hby d_rm_emp1_1) rfl rfl ?_
    refine XS.iconst X0.here hx rfl (hb hby d_rm_emp1_2) ?_
    refine XS.aloadN X0.here hx rfl (hb hby d_rm_emp1_3) rfl rfl ?_
    refine X0.arraylength hx (by rw [e0]; exact Ar101.1) (State.isArrayOf_alike hZ.alike Ar101.2.1) (g := (mkF m 4 #[.val (.ref a), .val (.ref b)] [(.ref b), (.int (0 : Int32)), (.ref b), (.ref a)])) rfl rfl (hb hby d_rm_emp1_4) _ ?_
    rw [len_of S101 M101]
    refine XS.aconstNull X0.here hx rfl (hb hby d_rm_emp1_5) ?_
    refine st102.trans ?_
    exact κ
  have KC102 : Keep h0 T102.heap [a] := KC0.trans K102 (allS (Or.inl (List.mem_of_getElem? (i := 0) rfl)) all0)
  have CH102 := C102.1
  have CR102 := CHr.trans CR0 C102
  have SKe := SK102
  obtain ⟨fs, hrE, hrun, hended, hEnd⟩ := X102.leaveW SI102 SKe (v := none) (fun _ => rfl)
  have CHe := CHr.trans CR102 (CHv.at X102 Z102 hEW CH102)
  have pqE := pq103
  rw [hA0] at pqE
  refine ⟨_, _, pqE _ ?_, hrun, hended, _, _, rfl, ?_, ?_, hEnd.1, hEnd.2.1, hEnd.2.2.1, hEnd.2.2.2.mono (by decide) (by decide)⟩
  · show Steps pP.tables e below (T102.setTop (mkF m 9 #[.val (.ref a), .val (.ref b)] [])) _
    exact X102.returnOut hx Bd.returns (hb hby d_rm_emp1_9) hrE
  · show Q_emp Z a h0 n0 _ T102.heap _
    exact ⟨rfl, N102, KC102, Ex102, Fc102, t102, _, tc102, Fv102, Vt102⟩
  · show CHr Z consts_1 s.vm s.heap T102.vm T102.heap
    rw [hh]; exact CHe
def Q_eqn (h0 : Heap) (n0 : Nat) (v : Option Value) (h : Heap) (L : List Loc) : Prop := v = some (.int 0) ∧ Fr n0 L ∧ h = h0
theorem d_rm_eqn_0 : decode jdk_42_method_66_code 0 = .ok (.aload_n 0, 1) := by decide +kernel
theorem d_rm_eqn_1 : decode jdk_42_method_66_code 1 = .ok (.aload_n 1, 1) := by decide +kernel
theorem d_rm_eqn_2 : decode jdk_42_method_66_code 2 = .ok (.if_acmp .ne 5, 3) := by decide +kernel
theorem d_rm_eqn_7 : decode jdk_42_method_66_code 7 = .ok (.aload_n 1, 1) := by decide +kernel
theorem d_rm_eqn_8 : decode jdk_42_method_66_code 8 = .ok (.instanceof 10, 3) := by decide +kernel
theorem d_rm_eqn_11 : decode jdk_42_method_66_code 11 = .ok (.ifCond .eq 43, 3) := by decide +kernel
theorem d_rm_eqn_54 : decode jdk_42_method_66_code 54 = .ok (.iconst 0, 1) := by decide +kernel
theorem d_rm_eqn_55 : decode jdk_42_method_66_code 55 = .ok (.ireturn, 1) := by decide +kernel
theorem ef_rm_eqn (m : MethodId) (x0 : Addr) : entryFrame m #[(.ref x0), .null] 3 = mkF m 0 #[.val (.ref x0), .val .null, .unset] [] := by first | (simp [entryFrame, mkF, argsToLocals, Value.category]; done) | rfl
set_option maxRecDepth 65536 in
set_option maxHeartbeats 3000000 in
theorem rm_eqn (l : Launch) (Z : State) (a0 : Array Value) (hw : ∀ d ∈ tables_1, d.before a0 Z = true) (ws : List Jvm.Cond) (a : Addr) (h0 : Heap) (n0 : Nat) (Z0 : n0 ≤ h0.size) :
    MetFree l (⟨"java/lang/String", "equals", "(Ljava/lang/Object;)Z"⟩ : MethodName) (head1 (Jvm.Cond.code (⟨"java/lang/String", "equals", "(Ljava/lang/Object;)Z"⟩ : MethodName) jdk_42_method_66_code 3 (some .boolean) :: ws) ({ frames := 0, cells := 0, slots := 0, locals := 0 } : Room)) (fun αs U => αs = #[(.ref a), .null] ∧ Z.Warmed39 U.vm ∧ U.heap = h0) (fun _ _ _ _ _ => True) (fun _ U o U' => ∃ v L, o = .returned v ∧ Q_eqn h0 n0 v U'.heap L ∧ FrameEnd U o U' L ({ frames := 0, cells := 0, slots := 0, locals := 0 } : Room).cells ({ frames := 0, cells := 0, slots := 0, locals := 0 } : Room).slots) := by
  refine MetFree.of_bodySF (plainFor_of_name pno_0) hisR ?_
  intro pP e s m args below meth cC s₁ Bd hml0 hP hK
  obtain ⟨rfl, hZ, hh⟩ := hP
  have hx := Bd.exec
  have hby := Bd.bytes
  have hml : cC.maxLocals = 3 := hml0
  have hown : s.vm.findClass "java/lang/String" = some m.cls := findClass_of_methodNamed Bd.named
  have hnm := (name_of_methodNamed Bd.named Bd.method).1
  have X0 : Stand pP l e ({ frames := 0, cells := 0, slots := 0, locals := 0 } : Room) s m #[(.ref a), .null] below meth cC s₁ [] 0 0 := Stand.of_body Bd
  have e0 : s₁.heap = h0 := by rw [← hh, Bd.state]; rfl
  have N0 := Fr.nil n0
  have KC0 : Keep h0 h0 [] := Keep.refl h0 _
  obtain ⟨A0, hA0⟩ : ∃ z, z = s₁.setTop (entryFrame m #[(.ref a), .null] 3) := ⟨_, rfl⟩
  have pre0 : ∀ τ, Steps pP.tables e below (s₁.setTop (mkF m 0 #[.val (.ref a), .val .null, .unset] [])) τ → Steps pP.tables e below A0 τ := fun τ κ => by rw [hA0]; exact castTop (ef_rm_eqn m a) κ
  obtain ⟨fs, hrE, hrun, hended, hW, hsame⟩ := X0.leave (v := some (.int (0 : Int32))) (fun h => by rw [Bd.returns] at h; cases h)
  have pqE := pre0
  rw [hA0] at pqE
  refine ⟨_, _, pqE _ ?_, hrun, hended, _, _, rfl, ?_, ⟨_, rfl⟩, hW, hsame.mono (by decide) (by decide)⟩
  · refine XS.aloadN X0.here hx rfl (hb hby d_rm_eqn_0) rfl rfl ?_
    refine XS.aloadN X0.here hx rfl (hb hby d_rm_eqn_1) rfl rfl ?_
    refine Jvm.RoadKit.acmp (g := (mkF m 2 #[.val (.ref a), .val .null, .unset] [.null, (.ref a)])) X0 hx rfl rfl rfl (pc0 := 2) (pc' := 7) (same := false) rfl (hb hby d_rm_eqn_2) rfl (decide_eq_false nofun) (by decide) (by decide) ?_
    refine XS.aloadN X0.here hx rfl (hb hby d_rm_eqn_7) rfl rfl ?_
    refine X0.instanceofNull hx (g := (mkF m 8 #[.val (.ref a), .val .null, .unset] [.null])) rfl rfl (hb hby d_rm_eqn_8) _ ?_
    refine XS.ifYes X0.here hx rfl (pc0 := 11) (pc' := 54) rfl (hb hby d_rm_eqn_11) rfl ((if0 _ _).trans (teq (by decide : ((0 : Int32) = (0 : Int32)))).1) (by decide) (by decide) ?_
    refine XS.iconst X0.here hx rfl (hb hby d_rm_eqn_54) ?_
    show Steps pP.tables e below (s₁.setTop (mkF m 55 #[.val (.ref a), .val .null, .unset] [(.int (0 : Int32))])) _
    exact retN X0 hx (t := .boolean) Bd.returns (by simp) (hb hby d_rm_eqn_55) hrE
  · show Q_eqn h0 n0 _ s₁.heap _
    rw [e0]
    exact ⟨rfl, N0, rfl⟩
def Q_name (Z : State) (h0 : Heap) (n0 : Nat) (v : Option Value) (h : Heap) (L : List Loc) : Prop := ∃ (a t : Addr) (kb : ClassId) (cs : List Int32), v = some (.ref a) ∧ Fr n0 L ∧ Keep h0 h [] ∧ Exa Z h a "java/lang/String" ∧ Fld Z h a "java/lang/String" "coder" "B" (.int 0) ∧ Fld Z h a "java/lang/String" "value" "[B" (.ref t) ∧ Arv Z h t kb .byte (Int32.ofNat (cs).length) (((cs).map (fun c : Int32 => c.toInt8.toInt32)).map Value.int) (.int 0) ∧ (∀ c ∈ cs, ¬ c < 0 ∧ ¬ (255 : Int32) < c) ∧ cs.length ≤ 4000
theorem d_rm_name_0 : decode method_3_code 0 = .ok (.iload_n 0, 1) := by decide +kernel
theorem d_rm_name_1 : decode method_3_code 1 = .ok (.ifCond .ne 6, 3) := by decide +kernel
theorem d_rm_name_4 : decode method_3_code 4 = .ok (.ldc 36, 2) := by decide +kernel
theorem d_rm_name_6 : decode method_3_code 6 = .ok (.areturn, 1) := by decide +kernel
theorem d_rm_name_7 : decode method_3_code 7 = .ok (.iload_n 0, 1) := by decide +kernel
theorem d_rm_name_8 : decode method_3_code 8 = .ok (.iconst 1, 1) := by decide +kernel
theorem d_rm_name_9 : decode method_3_code 9 = .ok (.if_icmp .ne 6, 3) := by decide +kernel
theorem d_rm_name_12 : decode method_3_code 12 = .ok (.ldc 38, 2) := by decide +kernel
theorem d_rm_name_14 : decode method_3_code 14 = .ok (.areturn, 1) := by decide +kernel
theorem d_rm_name_15 : decode method_3_code 15 = .ok (.iload_n 0, 1) := by decide +kernel
theorem d_rm_name_16 : decode method_3_code 16 = .ok (.iconst 2, 1) := by decide +kernel
theorem d_rm_name_17 : decode method_3_code 17 = .ok (.if_icmp .ne 6, 3) := by decide +kernel
theorem d_rm_name_20 : decode method_3_code 20 = .ok (.ldc 40, 2) := by decide +kernel
theorem d_rm_name_22 : decode method_3_code 22 = .ok (.areturn, 1) := by decide +kernel
theorem d_rm_name_23 : decode method_3_code 23 = .ok (.iload_n 0, 1) := by decide +kernel
theorem d_rm_name_24 : decode method_3_code 24 = .ok (.iconst 3, 1) := by decide +kernel
theorem d_rm_name_25 : decode method_3_code 25 = .ok (.if_icmp .ne 6, 3) := by decide +kernel
theorem d_rm_name_28 : decode method_3_code 28 = .ok (.ldc 42, 2) := by decide +kernel
theorem d_rm_name_30 : decode method_3_code 30 = .ok (.areturn, 1) := by decide +kernel
theorem d_rm_name_31 : decode method_3_code 31 = .ok (.iload_n 0, 1) := by decide +kernel
theorem d_rm_name_32 : decode method_3_code 32 = .ok (.iconst 4, 1) := by decide +kernel
theorem d_rm_name_33 : decode method_3_code 33 = .ok (.if_icmp .ne 6, 3) := by decide +kernel
theorem d_rm_name_36 : decode method_3_code 36 = .ok (.ldc 44, 2) := by decide +kernel
theorem d_rm_name_38 : decode method_3_code 38 = .ok (.areturn, 1) := by decide +kernel
theorem d_rm_name_39 : decode method_3_code 39 = .ok (.ldc 46, 2) := by decide +kernel
theorem d_rm_name_41 : decode method_3_code 41 = .ok (.areturn, 1) := by decide +kernel
theorem ef_rm_name (m : MethodId) (x0 : Int32) : entryFrame m #[(.int x0)] 1 = mkF m 0 #[.val (.int x0)] [] := by first | (simp [entryFrame, mkF, argsToLocals, Value.category]; done) | rfl
set_option maxRecDepth 65536 in
set_option maxHeartbeats 3000000 in
theorem rm_name (l : Launch) (Z : State) (a0 : Array Value) (hw : ∀ d ∈ tables_1, d.before a0 Z = true) (hEW : EW Z a0 consts_1) (ws : List Jvm.Cond) (p : Int32) (h0 : Heap) (n0 : Nat) (Z0 : n0 ≤ h0.size) :
    MetFree l (⟨"interfold/model/LogicTypeNamedPinLaw", "name", "(I)Ljava/lang/String;"⟩ : MethodName) (head1 (Jvm.Cond.code (⟨"interfold/model/LogicTypeNamedPinLaw", "name", "(I)Ljava/lang/String;"⟩ : MethodName) method_3_code 1 (some (.object "java/lang/String")) :: ws) ({ frames := 0, cells := 2, slots := 32, locals := 0 } : Room)) (fun αs U => αs = #[(.int p)] ∧ Z.Warmed39 U.vm ∧ U.heap = h0 ∧ CHv Z consts_1 U.vm h0) (fun _ _ _ _ _ => True) (fun _ U o U' => ∃ v L, o = .returned v ∧ Q_name Z h0 n0 v U'.heap L ∧ CHr Z consts_1 U.vm U.heap U'.vm U'.heap ∧ ReturnedEndW U o U' L ({ frames := 0, cells := 2, slots := 32, locals := 0 } : Room).cells ({ frames := 0, cells := 2, slots := 32, locals := 0 } : Room).slots) := by
  refine MetFree.of_bodySF (plainFor_of_name pno_1) hisR ?_
  intro pP e s m args below meth cC s₁ Bd hml0 hP hK
  obtain ⟨rfl, hZ, hh, CH0⟩ := hP
  have hx := Bd.exec
  have hby := Bd.bytes
  have hml : cC.maxLocals = 1 := hml0
  have hown : s.vm.findClass "interfold/model/LogicTypeNamedPinLaw" = some m.cls := findClass_of_methodNamed Bd.named
  have hnm := (name_of_methodNamed Bd.named Bd.method).1
  have X0 : Stand pP l e ({ frames := 0, cells := 2, slots := 32, locals := 0 } : Room) (s.setVm s.vm) m #[(.int p)] below meth cC s₁ [] 0 0 := Stand.of_body Bd
  have e0 : s₁.heap = h0 := by rw [← hh, Bd.state]; rfl
  have N0 := Fr.nil n0
  have KC0 : Keep h0 h0 [] := Keep.refl h0 _
  replace hZ : Z.Warmed39 (s.setVm s.vm).vm := hZ
  replace hown : (s.setVm s.vm).vm.findClass "interfold/model/LogicTypeNamedPinLaw" = some m.cls := hown
  have SI0 : s.Since s.vm h0.size := (State.WarmedH.refl s).since _
  have SK0 : h0.size ≤ h0.size := Nat.le_refl _
  have CR0 : CHr Z consts_1 s.vm h0 s.vm h0 := CHr.refl CH0
  obtain ⟨A0, hA0⟩ : ∃ z, z = s₁.setTop (entryFrame m #[(.int p)] 1) := ⟨_, rfl⟩
  have pre0 : ∀ τ, Steps pP.tables e below (s₁.setTop (mkF m 0 #[.val (.int p)] [])) τ → Steps pP.tables e below A0 τ := fun τ κ => by rw [hA0]; exact castTop (ef_rm_name m p) κ
  have wS : ∀ a ∈ Bundle.stringAtoms, a.before a0 Z = true := fun d hd => hw d ((by decide +kernel : ∀ d ∈ Bundle.stringAtoms, d ∈ tables_1) d hd)
  have pq101 : ∀ τ, Steps pP.tables e below (s₁.setTop (mkF m 1 #[.val (.int p)] [(.int p)])) τ → Steps pP.tables e below A0 τ := by
    intro τ κ
    refine pre0 τ ?_
    refine XS.iloadN X0.here hx rfl (hb hby d_rm_name_0) rfl ?_
    exact κ
  by_cases hc1_102 : p = (0 : Int32)
  · skip
    obtain ⟨b103, T103, h103, k103, t103, kb103, X103, e103, E103, SI103, SK103, Z103, O103, A103, Fc103, Fv103, V103, lt103, ltt103, C103, L103, ne103, st103⟩ := ldcCH (s := s) (vm0 := s.vm) (EL := consts_1) X0 hx hZ hown (hw _ (List.mem_of_getElem? (i := 4) rfl)) wS e0 SI0 SK0 hEW (by decide) CH0 (vs := [(.int (105 : Int32)), (.int (110 : Int32)), (.int (116 : Int32))]) (z := (3 : Int32)) (by decide) (by decide) (by decide) (g := (mkF m 4 #[.val (.int p)] [])) rfl (hb hby d_rm_name_4) (n := 12) (by decide) (by decide) (by decide) (by decide)
    have pq104 : ∀ τ, Steps pP.tables e below (T103.setTop (mkF m 6 #[.val (.int p)] [(.ref b103)])) τ → Steps pP.tables e below A0 τ := by
      intro τ κ
      refine pq101 τ ?_
      refine XS.ifNo X0.here hx rfl (hb hby d_rm_name_1) rfl ((if0 _ _).trans (teq hc1_102).2) ?_
      refine st103 _ ?_
      exact κ
    have K103 : Keep h0 h103 [] := (Keep.refl _ _).ext E103
    have KC103 : Keep h0 h103 [] := KC0.trans K103 all0
    have CH103 := C103.1
    have CR103 := CHr.trans CR0 C103
    have Vc103 : Arv Z h103 t103 kb103 .byte (Int32.ofNat (([105, 110, 116] : List Int32)).length) (((([105, 110, 116] : List Int32)).map (fun c : Int32 => c.toInt8.toInt32)).map Value.int) (.int 0) := by first | exact V103 | exact own_cast (by decide) (by decide) V103
    have SKe := Nat.le_trans SK103 (Nat.le_of_eq (congrArg (fun z : Heap => Array.size z) (Eq.symm e103)))
    obtain ⟨fs, hrE, hrun, hended, hEnd⟩ := X103.leaveW SI103 SKe (v := some (.ref b103)) (fun h => by rw [Bd.returns] at h; cases h)
    have CHe := CHr.trans CR103 (CHv.at X103 Z103 hEW CH103)
    have pqE := pq104
    rw [hA0] at pqE
    refine ⟨_, _, pqE _ ?_, hrun, hended, _, _, rfl, ?_, ?_, hEnd.1, hEnd.2.1, hEnd.2.2.1, hEnd.2.2.2.mono (by decide) (by decide)⟩
    · show Steps pP.tables e below (T103.setTop (mkF m 6 #[.val (.int p)] [(.ref b103)])) _
      exact retOut X103 hx Bd.returns rfl (Or.inr (Or.inr (Or.inr (Or.inr ⟨rfl, rfl, rfl⟩)))) (hb hby d_rm_name_6) hrE
    · show Q_name Z h0 n0 _ T103.heap _
      rw [e103]
      exact ⟨b103, t103, kb103, ([105, 110, 116] : List Int32), rfl, N0, KC103, A103, Fc103, Fv103, Vc103, (by decide), (by decide)⟩
    · show CHr Z consts_1 s.vm s.heap T103.vm T103.heap
      first | (rw [hh, e103]; exact CHe) | (rw [hh]; exact CHe)
  · skip
    have pq105 : ∀ τ, Steps pP.tables e below (s₁.setTop (mkF m 9 #[.val (.int p)] [(.int (1 : Int32)), (.int p)])) τ → Steps pP.tables e below A0 τ := by
      intro τ κ
      refine pq101 τ ?_
      refine XS.ifYes X0.here hx rfl (pc0 := 1) (pc' := 7) rfl (hb hby d_rm_name_1) rfl ((if0 _ _).trans (feq hc1_102).2) (by decide) (by decide) ?_
      refine XS.iloadN X0.here hx rfl (hb hby d_rm_name_7) rfl ?_
      refine XS.iconst X0.here hx rfl (hb hby d_rm_name_8) ?_
      exact κ
    by_cases hc9_106 : p = (1 : Int32)
    · skip
      obtain ⟨b107, T107, h107, k107, t107, kb107, X107, e107, E107, SI107, SK107, Z107, O107, A107, Fc107, Fv107, V107, lt107, ltt107, C107, L107, ne107, st107⟩ := ldcCH (s := s) (vm0 := s.vm) (EL := consts_1) X0 hx hZ hown (hw _ (List.mem_of_getElem? (i := 115) rfl)) wS e0 SI0 SK0 hEW (by decide) CH0 (vs := [(.int (108 : Int32)), (.int (111 : Int32)), (.int (110 : Int32)), (.int (103 : Int32))]) (z := (4 : Int32)) (by decide) (by decide) (by decide) (g := (mkF m 12 #[.val (.int p)] [])) rfl (hb hby d_rm_name_12) (n := 16) (by decide) (by decide) (by decide) (by decide)
      have pq108 : ∀ τ, Steps pP.tables e below (T107.setTop (mkF m 14 #[.val (.int p)] [(.ref b107)])) τ → Steps pP.tables e below A0 τ := by
        intro τ κ
        refine pq105 τ ?_
        refine XS.icmpNo X0.here hx rfl (hb hby d_rm_name_9) rfl (teq hc9_106).2 ?_
        refine st107 _ ?_
        exact κ
      have K107 : Keep h0 h107 [] := (Keep.refl _ _).ext E107
      have KC107 : Keep h0 h107 [] := KC0.trans K107 all0
      have CH107 := C107.1
      have CR107 := CHr.trans CR0 C107
      have Vc107 : Arv Z h107 t107 kb107 .byte (Int32.ofNat (([108, 111, 110, 103] : List Int32)).length) (((([108, 111, 110, 103] : List Int32)).map (fun c : Int32 => c.toInt8.toInt32)).map Value.int) (.int 0) := by first | exact V107 | exact own_cast (by decide) (by decide) V107
      have SKe := Nat.le_trans SK107 (Nat.le_of_eq (congrArg (fun z : Heap => Array.size z) (Eq.symm e107)))
      obtain ⟨fs, hrE, hrun, hended, hEnd⟩ := X107.leaveW SI107 SKe (v := some (.ref b107)) (fun h => by rw [Bd.returns] at h; cases h)
      have CHe := CHr.trans CR107 (CHv.at X107 Z107 hEW CH107)
      have pqE := pq108
      rw [hA0] at pqE
      refine ⟨_, _, pqE _ ?_, hrun, hended, _, _, rfl, ?_, ?_, hEnd.1, hEnd.2.1, hEnd.2.2.1, hEnd.2.2.2.mono (by decide) (by decide)⟩
      · show Steps pP.tables e below (T107.setTop (mkF m 14 #[.val (.int p)] [(.ref b107)])) _
        exact retOut X107 hx Bd.returns rfl (Or.inr (Or.inr (Or.inr (Or.inr ⟨rfl, rfl, rfl⟩)))) (hb hby d_rm_name_14) hrE
      · show Q_name Z h0 n0 _ T107.heap _
        rw [e107]
        exact ⟨b107, t107, kb107, ([108, 111, 110, 103] : List Int32), rfl, N0, KC107, A107, Fc107, Fv107, Vc107, (by decide), (by decide)⟩
      · show CHr Z consts_1 s.vm s.heap T107.vm T107.heap
        first | (rw [hh, e107]; exact CHe) | (rw [hh]; exact CHe)
    · skip
      have pq109 : ∀ τ, Steps pP.tables e below (s₁.setTop (mkF m 17 #[.val (.int p)] [(.int (2 : Int32)), (.int p)])) τ → Steps pP.tables e below A0 τ := by
        intro τ κ
        refine pq105 τ ?_
        refine XS.icmpYes X0.here hx rfl (pc0 := 9) (pc' := 15) rfl (hb hby d_rm_name_9) rfl (feq hc9_106).2 (by decide) (by decide) ?_
        refine XS.iloadN X0.here hx rfl (hb hby d_rm_name_15) rfl ?_
        refine XS.iconst X0.here hx rfl (hb hby d_rm_name_16) ?_
        exact κ
      by_cases hc17_110 : p = (2 : Int32)
      · skip
        obtain ⟨b111, T111, h111, k111, t111, kb111, X111, e111, E111, SI111, SK111, Z111, O111, A111, Fc111, Fv111, V111, lt111, ltt111, C111, L111, ne111, st111⟩ := ldcCH (s := s) (vm0 := s.vm) (EL := consts_1) X0 hx hZ hown (hw _ (List.mem_of_getElem? (i := 117) rfl)) wS e0 SI0 SK0 hEW (by decide) CH0 (vs := [(.int (100 : Int32)), (.int (111 : Int32)), (.int (117 : Int32)), (.int (98 : Int32)), (.int (108 : Int32)), (.int (101 : Int32))]) (z := (6 : Int32)) (by decide) (by decide) (by decide) (g := (mkF m 20 #[.val (.int p)] [])) rfl (hb hby d_rm_name_20) (n := 24) (by decide) (by decide) (by decide) (by decide)
        have pq112 : ∀ τ, Steps pP.tables e below (T111.setTop (mkF m 22 #[.val (.int p)] [(.ref b111)])) τ → Steps pP.tables e below A0 τ := by
          intro τ κ
          refine pq109 τ ?_
          refine XS.icmpNo X0.here hx rfl (hb hby d_rm_name_17) rfl (teq hc17_110).2 ?_
          refine st111 _ ?_
          exact κ
        have K111 : Keep h0 h111 [] := (Keep.refl _ _).ext E111
        have KC111 : Keep h0 h111 [] := KC0.trans K111 all0
        have CH111 := C111.1
        have CR111 := CHr.trans CR0 C111
        have Vc111 : Arv Z h111 t111 kb111 .byte (Int32.ofNat (([100, 111, 117, 98, 108, 101] : List Int32)).length) (((([100, 111, 117, 98, 108, 101] : List Int32)).map (fun c : Int32 => c.toInt8.toInt32)).map Value.int) (.int 0) := by first | exact V111 | exact own_cast (by decide) (by decide) V111
        have SKe := Nat.le_trans SK111 (Nat.le_of_eq (congrArg (fun z : Heap => Array.size z) (Eq.symm e111)))
        obtain ⟨fs, hrE, hrun, hended, hEnd⟩ := X111.leaveW SI111 SKe (v := some (.ref b111)) (fun h => by rw [Bd.returns] at h; cases h)
        have CHe := CHr.trans CR111 (CHv.at X111 Z111 hEW CH111)
        have pqE := pq112
        rw [hA0] at pqE
        refine ⟨_, _, pqE _ ?_, hrun, hended, _, _, rfl, ?_, ?_, hEnd.1, hEnd.2.1, hEnd.2.2.1, hEnd.2.2.2.mono (by decide) (by decide)⟩
        · show Steps pP.tables e below (T111.setTop (mkF m 22 #[.val (.int p)] [(.ref b111)])) _
          exact retOut X111 hx Bd.returns rfl (Or.inr (Or.inr (Or.inr (Or.inr ⟨rfl, rfl, rfl⟩)))) (hb hby d_rm_name_22) hrE
        · show Q_name Z h0 n0 _ T111.heap _
          rw [e111]
          exact ⟨b111, t111, kb111, ([100, 111, 117, 98, 108, 101] : List Int32), rfl, N0, KC111, A111, Fc111, Fv111, Vc111, (by decide), (by decide)⟩
        · show CHr Z consts_1 s.vm s.heap T111.vm T111.heap
          first | (rw [hh, e111]; exact CHe) | (rw [hh]; exact CHe)
      · skip
        have pq113 : ∀ τ, Steps pP.tables e below (s₁.setTop (mkF m 25 #[.val (.int p)] [(.int (3 : Int32)), (.int p)])) τ → Steps pP.tables e below A0 τ := by
          intro τ κ
          refine pq109 τ ?_
          refine XS.icmpYes X0.here hx rfl (pc0 := 17) (pc' := 23) rfl (hb hby d_rm_name_17) rfl (feq hc17_110).2 (by decide) (by decide) ?_
          refine XS.iloadN X0.here hx rfl (hb hby d_rm_name_23) rfl ?_
          refine XS.iconst X0.here hx rfl (hb hby d_rm_name_24) ?_
          exact κ
        by_cases hc25_114 : p = (3 : Int32)
        · skip
          obtain ⟨b115, T115, h115, k115, t115, kb115, X115, e115, E115, SI115, SK115, Z115, O115, A115, Fc115, Fv115, V115, lt115, ltt115, C115, L115, ne115, st115⟩ := ldcCH (s := s) (vm0 := s.vm) (EL := consts_1) X0 hx hZ hown (hw _ (List.mem_of_getElem? (i := 118) rfl)) wS e0 SI0 SK0 hEW (by decide) CH0 (vs := [(.int (98 : Int32)), (.int (111 : Int32)), (.int (111 : Int32)), (.int (108 : Int32)), (.int (101 : Int32)), (.int (97 : Int32)), (.int (110 : Int32))]) (z := (7 : Int32)) (by decide) (by decide) (by decide) (g := (mkF m 28 #[.val (.int p)] [])) rfl (hb hby d_rm_name_28) (n := 28) (by decide) (by decide) (by decide) (by decide)
          have pq116 : ∀ τ, Steps pP.tables e below (T115.setTop (mkF m 30 #[.val (.int p)] [(.ref b115)])) τ → Steps pP.tables e below A0 τ := by
            intro τ κ
            refine pq113 τ ?_
            refine XS.icmpNo X0.here hx rfl (hb hby d_rm_name_25) rfl (teq hc25_114).2 ?_
            refine st115 _ ?_
            exact κ
          have K115 : Keep h0 h115 [] := (Keep.refl _ _).ext E115
          have KC115 : Keep h0 h115 [] := KC0.trans K115 all0
          have CH115 := C115.1
          have CR115 := CHr.trans CR0 C115
          have Vc115 : Arv Z h115 t115 kb115 .byte (Int32.ofNat (([98, 111, 111, 108, 101, 97, 110] : List Int32)).length) (((([98, 111, 111, 108, 101, 97, 110] : List Int32)).map (fun c : Int32 => c.toInt8.toInt32)).map Value.int) (.int 0) := by first | exact V115 | exact own_cast (by decide) (by decide) V115
          have SKe := Nat.le_trans SK115 (Nat.le_of_eq (congrArg (fun z : Heap => Array.size z) (Eq.symm e115)))
          obtain ⟨fs, hrE, hrun, hended, hEnd⟩ := X115.leaveW SI115 SKe (v := some (.ref b115)) (fun h => by rw [Bd.returns] at h; cases h)
          have CHe := CHr.trans CR115 (CHv.at X115 Z115 hEW CH115)
          have pqE := pq116
          rw [hA0] at pqE
          refine ⟨_, _, pqE _ ?_, hrun, hended, _, _, rfl, ?_, ?_, hEnd.1, hEnd.2.1, hEnd.2.2.1, hEnd.2.2.2.mono (by decide) (by decide)⟩
          · show Steps pP.tables e below (T115.setTop (mkF m 30 #[.val (.int p)] [(.ref b115)])) _
            exact retOut X115 hx Bd.returns rfl (Or.inr (Or.inr (Or.inr (Or.inr ⟨rfl, rfl, rfl⟩)))) (hb hby d_rm_name_30) hrE
          · show Q_name Z h0 n0 _ T115.heap _
            rw [e115]
            exact ⟨b115, t115, kb115, ([98, 111, 111, 108, 101, 97, 110] : List Int32), rfl, N0, KC115, A115, Fc115, Fv115, Vc115, (by decide), (by decide)⟩
          · show CHr Z consts_1 s.vm s.heap T115.vm T115.heap
            first | (rw [hh, e115]; exact CHe) | (rw [hh]; exact CHe)
        · skip
          have pq117 : ∀ τ, Steps pP.tables e below (s₁.setTop (mkF m 33 #[.val (.int p)] [(.int (4 : Int32)), (.int p)])) τ → Steps pP.tables e below A0 τ := by
            intro τ κ
            refine pq113 τ ?_
            refine XS.icmpYes X0.here hx rfl (pc0 := 25) (pc' := 31) rfl (hb hby d_rm_name_25) rfl (feq hc25_114).2 (by decide) (by decide) ?_
            refine XS.iloadN X0.here hx rfl (hb hby d_rm_name_31) rfl ?_
            refine XS.iconst X0.here hx rfl (hb hby d_rm_name_32) ?_
            exact κ
          by_cases hc33_118 : p = (4 : Int32)
          · skip
            obtain ⟨b119, T119, h119, k119, t119, kb119, X119, e119, E119, SI119, SK119, Z119, O119, A119, Fc119, Fv119, V119, lt119, ltt119, C119, L119, ne119, st119⟩ := ldcCH (s := s) (vm0 := s.vm) (EL := consts_1) X0 hx hZ hown (hw _ (List.mem_of_getElem? (i := 119) rfl)) wS e0 SI0 SK0 hEW (by decide) CH0 (vs := [(.int (83 : Int32)), (.int (116 : Int32)), (.int (114 : Int32)), (.int (105 : Int32)), (.int (110 : Int32)), (.int (103 : Int32))]) (z := (6 : Int32)) (by decide) (by decide) (by decide) (g := (mkF m 36 #[.val (.int p)] [])) rfl (hb hby d_rm_name_36) (n := 24) (by decide) (by decide) (by decide) (by decide)
            have pq120 : ∀ τ, Steps pP.tables e below (T119.setTop (mkF m 38 #[.val (.int p)] [(.ref b119)])) τ → Steps pP.tables e below A0 τ := by
              intro τ κ
              refine pq117 τ ?_
              refine XS.icmpNo X0.here hx rfl (hb hby d_rm_name_33) rfl (teq hc33_118).2 ?_
              refine st119 _ ?_
              exact κ
            have K119 : Keep h0 h119 [] := (Keep.refl _ _).ext E119
            have KC119 : Keep h0 h119 [] := KC0.trans K119 all0
            have CH119 := C119.1
            have CR119 := CHr.trans CR0 C119
            have Vc119 : Arv Z h119 t119 kb119 .byte (Int32.ofNat (([83, 116, 114, 105, 110, 103] : List Int32)).length) (((([83, 116, 114, 105, 110, 103] : List Int32)).map (fun c : Int32 => c.toInt8.toInt32)).map Value.int) (.int 0) := by first | exact V119 | exact own_cast (by decide) (by decide) V119
            have SKe := Nat.le_trans SK119 (Nat.le_of_eq (congrArg (fun z : Heap => Array.size z) (Eq.symm e119)))
            obtain ⟨fs, hrE, hrun, hended, hEnd⟩ := X119.leaveW SI119 SKe (v := some (.ref b119)) (fun h => by rw [Bd.returns] at h; cases h)
            have CHe := CHr.trans CR119 (CHv.at X119 Z119 hEW CH119)
            have pqE := pq120
            rw [hA0] at pqE
            refine ⟨_, _, pqE _ ?_, hrun, hended, _, _, rfl, ?_, ?_, hEnd.1, hEnd.2.1, hEnd.2.2.1, hEnd.2.2.2.mono (by decide) (by decide)⟩
            · show Steps pP.tables e below (T119.setTop (mkF m 38 #[.val (.int p)] [(.ref b119)])) _
              exact retOut X119 hx Bd.returns rfl (Or.inr (Or.inr (Or.inr (Or.inr ⟨rfl, rfl, rfl⟩)))) (hb hby d_rm_name_38) hrE
            · show Q_name Z h0 n0 _ T119.heap _
              rw [e119]
              exact ⟨b119, t119, kb119, ([83, 116, 114, 105, 110, 103] : List Int32), rfl, N0, KC119, A119, Fc119, Fv119, Vc119, (by decide), (by decide)⟩
            · show CHr Z consts_1 s.vm s.heap T119.vm T119.heap
              first | (rw [hh, e119]; exact CHe) | (rw [hh]; exact CHe)
          · skip
            obtain ⟨b121, T121, h121, k121, t121, kb121, X121, e121, E121, SI121, SK121, Z121, O121, A121, Fc121, Fv121, V121, lt121, ltt121, C121, L121, ne121, st121⟩ := ldcCH (s := s) (vm0 := s.vm) (EL := consts_1) X0 hx hZ hown (hw _ (List.mem_of_getElem? (i := 120) rfl)) wS e0 SI0 SK0 hEW (by decide) CH0 (vs := []) (z := (0 : Int32)) (by decide) (by decide) (by decide) (g := (mkF m 39 #[.val (.int p)] [])) rfl (hb hby d_rm_name_39) (n := 0) (by decide) (by decide) (by decide) (by decide)
            have pq122 : ∀ τ, Steps pP.tables e below (T121.setTop (mkF m 41 #[.val (.int p)] [(.ref b121)])) τ → Steps pP.tables e below A0 τ := by
              intro τ κ
              refine pq117 τ ?_
              refine XS.icmpYes X0.here hx rfl (pc0 := 33) (pc' := 39) rfl (hb hby d_rm_name_33) rfl (feq hc33_118).2 (by decide) (by decide) ?_
              refine st121 _ ?_
              exact κ
            have K121 : Keep h0 h121 [] := (Keep.refl _ _).ext E121
            have KC121 : Keep h0 h121 [] := KC0.trans K121 all0
            have CH121 := C121.1
            have CR121 := CHr.trans CR0 C121
            have Vc121 : Arv Z h121 t121 kb121 .byte (Int32.ofNat (([] : List Int32)).length) (((([] : List Int32)).map (fun c : Int32 => c.toInt8.toInt32)).map Value.int) (.int 0) := by first | exact V121 | exact own_cast (by decide) (by decide) V121
            have SKe := Nat.le_trans SK121 (Nat.le_of_eq (congrArg (fun z : Heap => Array.size z) (Eq.symm e121)))
            obtain ⟨fs, hrE, hrun, hended, hEnd⟩ := X121.leaveW SI121 SKe (v := some (.ref b121)) (fun h => by rw [Bd.returns] at h; cases h)
            have CHe := CHr.trans CR121 (CHv.at X121 Z121 hEW CH121)
            have pqE := pq122
            rw [hA0] at pqE
            refine ⟨_, _, pqE _ ?_, hrun, hended, _, _, rfl, ?_, ?_, hEnd.1, hEnd.2.1, hEnd.2.2.1, hEnd.2.2.2.mono (by decide) (by decide)⟩
            · show Steps pP.tables e below (T121.setTop (mkF m 41 #[.val (.int p)] [(.ref b121)])) _
              exact retOut X121 hx Bd.returns rfl (Or.inr (Or.inr (Or.inr (Or.inr ⟨rfl, rfl, rfl⟩)))) (hb hby d_rm_name_41) hrE
            · show Q_name Z h0 n0 _ T121.heap _
              rw [e121]
              exact ⟨b121, t121, kb121, ([] : List Int32), rfl, N0, KC121, A121, Fc121, Fv121, Vc121, (by decide), (by decide)⟩
            · show CHr Z consts_1 s.vm s.heap T121.vm T121.heap
              first | (rw [hh, e121]; exact CHe) | (rw [hh]; exact CHe)
def Q_ch (h0 : Heap) (n0 : Nat) (v : Option Value) (h : Heap) (L : List Loc) : Prop := ∃ r : Int32, v = some (.int r) ∧ (¬ r < 0 ∧ ¬ (255 : Int32) < r) ∧ Fr n0 L ∧ Keep h0 h []
theorem d_rm_ch_0 : decode method_4_code 0 = .ok (.iload_n 0, 1) := by decide +kernel
theorem d_rm_ch_1 : decode method_4_code 1 = .ok (.invokestatic 7, 3) := by decide +kernel
theorem d_rm_ch_4 : decode method_4_code 4 = .ok (.astore 5, 2) := by decide +kernel
theorem d_rm_ch_6 : decode method_4_code 6 = .ok (.iload_n 1, 1) := by decide +kernel
theorem d_rm_ch_7 : decode method_4_code 7 = .ok (.aload 5, 2) := by decide +kernel
theorem d_rm_ch_9 : decode method_4_code 9 = .ok (.invokevirtual 13, 3) := by decide +kernel
theorem d_rm_ch_12 : decode method_4_code 12 = .ok (.if_icmp .ge 12, 3) := by decide +kernel
theorem d_rm_ch_15 : decode method_4_code 15 = .ok (.aload 5, 2) := by decide +kernel
theorem d_rm_ch_17 : decode method_4_code 17 = .ok (.iload_n 1, 1) := by decide +kernel
theorem d_rm_ch_18 : decode method_4_code 18 = .ok (.invokevirtual 48, 3) := by decide +kernel
theorem d_rm_ch_21 : decode method_4_code 21 = .ok (.goto 4, 3) := by decide +kernel
theorem d_rm_ch_24 : decode method_4_code 24 = .ok (.iconst 0, 1) := by decide +kernel
theorem d_rm_ch_25 : decode method_4_code 25 = .ok (.istore 6, 2) := by decide +kernel
theorem d_rm_ch_27 : decode method_4_code 27 = .ok (.iload 4, 2) := by decide +kernel
theorem d_rm_ch_29 : decode method_4_code 29 = .ok (.ifCond .eq 17, 3) := by decide +kernel
theorem d_rm_ch_32 : decode method_4_code 32 = .ok (.lload_n 2, 1) := by decide +kernel
theorem d_rm_ch_33 : decode method_4_code 33 = .ok (.bipush 8, 2) := by decide +kernel
theorem d_rm_ch_35 : decode method_4_code 35 = .ok (.iload_n 1, 1) := by decide +kernel
theorem d_rm_ch_36 : decode method_4_code 36 = .ok (.imul, 1) := by decide +kernel
theorem d_rm_ch_37 : decode method_4_code 37 = .ok (.lushr, 1) := by decide +kernel
theorem d_rm_ch_38 : decode method_4_code 38 = .ok (.ldc2_w 52, 3) := by decide +kernel
theorem d_rm_ch_41 : decode method_4_code 41 = .ok (.land, 1) := by decide +kernel
theorem d_rm_ch_42 : decode method_4_code 42 = .ok (.l2i, 1) := by decide +kernel
theorem d_rm_ch_43 : decode method_4_code 43 = .ok (.goto 4, 3) := by decide +kernel
theorem d_rm_ch_46 : decode method_4_code 46 = .ok (.iconst 0, 1) := by decide +kernel
theorem d_rm_ch_47 : decode method_4_code 47 = .ok (.istore 7, 2) := by decide +kernel
theorem d_rm_ch_49 : decode method_4_code 49 = .ok (.iload 6, 2) := by decide +kernel
theorem d_rm_ch_51 : decode method_4_code 51 = .ok (.iload 7, 2) := by decide +kernel
theorem d_rm_ch_53 : decode method_4_code 53 = .ok (.ixor, 1) := by decide +kernel
theorem d_rm_ch_54 : decode method_4_code 54 = .ok (.sipush 255, 3) := by decide +kernel
theorem d_rm_ch_57 : decode method_4_code 57 = .ok (.iand, 1) := by decide +kernel
theorem d_rm_ch_58 : decode method_4_code 58 = .ok (.i2c, 1) := by decide +kernel
theorem d_rm_ch_59 : decode method_4_code 59 = .ok (.ireturn, 1) := by decide +kernel
theorem ef_rm_ch (m : MethodId) (x0 : Int32) (x1 : Int32) (x2 : Int64) (x3 : Int32) : entryFrame m #[(.int x0), (.int x1), (.long x2), (.int x3)] 8 = mkF m 0 #[.val (.int x0), .val (.int x1), .val (.long x2), .second, .val (.int x3), .unset, .unset, .unset] [] := by first | (simp [entryFrame, mkF, argsToLocals, Value.category]; done) | rfl
set_option maxRecDepth 65536 in
set_option maxHeartbeats 3000000 in
theorem rm_ch (l : Launch) (Z : State) (a0 : Array Value) (hw : ∀ d ∈ tables_1, d.before a0 Z = true) (hEW : EW Z a0 consts_1) (ws : List Jvm.Cond) (p0 : Int32) (i : Nat) (q : Int64) (p3 : Int32) (G1 : Int32) (G3 : Value) (h0 : Heap) (n0 : Nat) (Z0 : n0 ≤ h0.size) (O2 : Sta Z Z.heap "java/lang/String" "COMPACT_STRINGS" "Z" (.int G1)) (P5 : ¬ (G1 = (0 : Int32))) (X00 : Old Z n0 h0) (O4 : Sta Z Z.heap "jdk/internal/util/Preconditions" "SIOOBE_FORMATTER" "Ljava/util/function/BiFunction;" G3) (rG3 : G3.isRef = true) (hi : i < 7) :
    MetFree l (⟨"interfold/model/LogicTypeNamedPinLaw", "ch", "(IIJZ)C"⟩ : MethodName) (head1 (Jvm.Cond.code (⟨"interfold/model/LogicTypeNamedPinLaw", "ch", "(IIJZ)C"⟩ : MethodName) method_4_code 8 (some .char) :: ws) ({ frames := 4, cells := 2, slots := 32, locals := 53 } : Room)) (fun αs U => αs = #[(.int p0), (.int (Int32.ofNat i)), (.long q), (.int p3)] ∧ Z.Warmed39 U.vm ∧ U.heap = h0 ∧ CHv Z consts_1 U.vm h0) (fun _ _ _ _ _ => True) (fun _ U o U' => ∃ v L, o = .returned v ∧ Q_ch h0 n0 v U'.heap L ∧ CHr Z consts_1 U.vm U.heap U'.vm U'.heap ∧ ReturnedEndW U o U' L ({ frames := 4, cells := 2, slots := 32, locals := 53 } : Room).cells ({ frames := 4, cells := 2, slots := 32, locals := 53 } : Room).slots) := by
  refine MetFree.of_bodySF (plainFor_of_name pno_1) hisR ?_
  intro pP e s m args below meth cC s₁ Bd hml0 hP hK
  obtain ⟨rfl, hZ, hh, CH0⟩ := hP
  have hx := Bd.exec
  have hby := Bd.bytes
  have hml : cC.maxLocals = 8 := hml0
  have hown : s.vm.findClass "interfold/model/LogicTypeNamedPinLaw" = some m.cls := findClass_of_methodNamed Bd.named
  have hnm := (name_of_methodNamed Bd.named Bd.method).1
  have X0 : Stand pP l e ({ frames := 4, cells := 2, slots := 32, locals := 53 } : Room) (s.setVm s.vm) m #[(.int p0), (.int (Int32.ofNat i)), (.long q), (.int p3)] below meth cC s₁ [] 0 0 := Stand.of_body Bd
  have e0 : s₁.heap = h0 := by rw [← hh, Bd.state]; rfl
  have N0 := Fr.nil n0
  have KC0 : Keep h0 h0 [] := Keep.refl h0 _
  replace hZ : Z.Warmed39 (s.setVm s.vm).vm := hZ
  replace hown : (s.setVm s.vm).vm.findClass "interfold/model/LogicTypeNamedPinLaw" = some m.cls := hown
  have SI0 : s.Since s.vm h0.size := (State.WarmedH.refl s).since _
  have SK0 : h0.size ≤ h0.size := Nat.le_refl _
  have CR0 : CHr Z consts_1 s.vm h0 s.vm h0 := CHr.refl CH0
  obtain ⟨A0, hA0⟩ : ∃ z, z = s₁.setTop (entryFrame m #[(.int p0), (.int (Int32.ofNat i)), (.long q), (.int p3)] 8) := ⟨_, rfl⟩
  have pre0 : ∀ τ, Steps pP.tables e below (s₁.setTop (mkF m 0 #[.val (.int p0), .val (.int (Int32.ofNat i)), .val (.long q), .second, .val (.int p3), .unset, .unset, .unset] [])) τ → Steps pP.tables e below A0 τ := fun τ κ => by rw [hA0]; exact castTop (ef_rm_ch m p0 (Int32.ofNat i) q p3) κ
  have hln : ∀ d ∈ StrChars.Road.wordsLen, d.before a0 Z = true := fun d hd => hw d ((by decide +kernel : ∀ d ∈ StrChars.Road.wordsLen, d ∈ tables_1) d hd)
  have hch : ∀ d ∈ StrChars.Road.wordsChN, d.before a0 Z = true := fun d hd => hw d ((by decide +kernel : ∀ d ∈ StrChars.Road.wordsChN, d ∈ tables_1) d hd)
  obtain ⟨_, _, ⟨T101, L101, k101, n101⟩, -, X101, S101, G101, ⟨Lc101, hQ101, l101, y101, z101, C101⟩, st101⟩ := callSS X0 hx (y := (⟨"interfold/model/LogicTypeNamedPinLaw", "name", "(I)Ljava/lang/String;"⟩ : MethodName)) hown (mvT hZ (hw _ (List.mem_of_getElem? (i := 0) rfl))) (mvT hZ (hw _ (List.mem_of_getElem? (i := 1) rfl))) (mvT hZ (hw _ (List.mem_of_getElem? (i := 2) rfl))) (mvT hZ (hw _ (List.mem_of_getElem? (i := 3) rfl))) (by decide) (backOfSH (s := s) (vm0 := s.vm) (EL := consts_1) (W := 0) (rm_name l Z a0 hw hEW [] p0 h0 n0 Z0 ) hZ (hw _ (List.mem_of_getElem? (i := 3) rfl)) (hw _ (List.mem_of_getElem? (i := 2) rfl)) (by decide) (by decide) hEW CH0) (g := (mkF m 1 #[.val (.int p0), .val (.int (Int32.ofNat i)), .val (.long q), .second, .val (.int p3), .unset, .unset, .unset] [(.int p0)])) rfl (by rw [hml]; rfl) (argsL := [(.int p0)]) (rest := []) (lenOf pdo_1 rfl) rfl (by show 2 * 0 + _ ≤ _; exact Nat.le_of_eq rfl) (hb hby d_rm_ch_1) (fun _ _ => ⟨rfl, e0, (by decide : 0 + 2 ≤ _), (by decide : 0 + 32 ≤ _)⟩)
  dsimp only [Pt.U, Pt.locs, Pt.cells, Pt.slots] at X101 l101 y101 z101 st101 hQ101 S101 G101 C101
  subst l101 y101 z101
  have G101a : h0.size ≤ T101.heap.size := by first | exact G101 | (rw [← e0]; exact G101)
  obtain ⟨X101, SI101, Z101, O101⟩ := rebS SI0 SK0 X101 S101 G101a hZ hown
  have SK101 : T101.heap.size ≤ T101.heap.size := Nat.le_refl _
  obtain ⟨a101, t101, kb101, cs101, rfl, Nq101, K101, Ex101, Fc101, Fv101, Vt101, hp101, ln101⟩ := hQ101
  have N101 := Fr.app N0 Nq101
  have pq102 : ∀ τ, Steps pP.tables e below (T101.setTop (mkF m 4 #[.val (.int p0), .val (.int (Int32.ofNat i)), .val (.long q), .second, .val (.int p3), .unset, .unset, .unset] [(.ref a101)])) τ → Steps pP.tables e below A0 τ := by
    intro τ κ
    refine pre0 τ ?_
    refine XS.iloadN X0.here hx rfl (hb hby d_rm_ch_0) rfl ?_
    refine st101.trans ?_
    exact κ
  have KC101 : Keep h0 T101.heap [] := KC0.trans K101 all0
  have CH101 := C101.1
  have CR101 := CHr.trans CR0 C101
  have f103 := (X00.keep K101 all0)
  obtain ⟨cq105, kq105, q105a, q105b, q105c⟩ := isOf Z101 rfl Ex101
  obtain ⟨_, _, ⟨T104, L104, k104, n104⟩, -, X104, ⟨Lc104, hQ104, l104, y104, z104⟩, st104⟩ := X101.virtualBack hx (y := (⟨"java/lang/String", "length", "()I"⟩ : MethodName)) (z := (⟨"java/lang/String", "length", "()I"⟩ : MethodName)) O101 (mvT Z101 (hw _ (List.mem_of_getElem? (i := 12) rfl))) (mvT Z101 (hw _ (List.mem_of_getElem? (i := 13) rfl))) (notFace_of_selects (args := #[]) (mvT Z101 (hw _ (List.mem_of_getElem? (i := 15) rfl)))) (mvT Z101 (hw _ (List.mem_of_getElem? (i := 15) rfl))) (mvT Z101 (hw _ (List.mem_of_getElem? (i := 14) rfl))) (by decide) (StrChars.Road.lenW (W := 1) Z101 hln (kI := 4) (hw _ (List.mem_of_getElem? (i := 6) rfl)) (cs := cs101) Ex101 Fv101 Fc101 Vt101 (StrChars.Road.codOf rfl (fun x hx => (hp101 x hx).2)) (own_up _ hp101) (O2.ext f103.2) P5 ln101 (by decide) (by decide)) q105a q105c (g := (mkF m 9 #[.val (.int p0), .val (.int (Int32.ofNat i)), .val (.long q), .second, .val (.int p3), .val (.ref a101), .unset, .unset] [(.ref a101), (.int (Int32.ofNat i))])) rfl (by rw [hml]; rfl) (Steps.refl _) (argsL := []) (rest := [(.int (Int32.ofNat i))]) (lenOf pdo_2 rfl) rfl (by show 2 * 0 + _ ≤ _; exact Nat.le_of_eq rfl) (hb hby d_rm_ch_9) (fun _ _ => ⟨rfl, rfl, (by decide : 2 + 0 ≤ _), (by decide : 32 + 0 ≤ _)⟩)
  dsimp only [Pt.U, Pt.locs, Pt.cells, Pt.slots] at X104 l104 y104 z104 st104 hQ104
  subst l104 y104 z104
  obtain ⟨rfl, rfl, eq104⟩ := hQ104
  have N104 := Fr.app N101 (Fr.nil n0)
  have pq106 : ∀ τ, Steps pP.tables e below (T104.setTop (mkF m 12 #[.val (.int p0), .val (.int (Int32.ofNat i)), .val (.long q), .second, .val (.int p3), .val (.ref a101), .unset, .unset] [(.int (Int32.ofNat cs101.length)), (.int (Int32.ofNat i))])) τ → Steps pP.tables e below A0 τ := by
    intro τ κ
    refine pq102 τ ?_
    refine XS.astore X101.here hx rfl (hb hby d_rm_ch_4) rfl rfl (l' := #[.val (.int p0), .val (.int (Int32.ofNat i)), .val (.long q), .second, .val (.int p3), .val (.ref a101), .unset, .unset]) rfl ?_
    refine XS.iloadN X101.here hx rfl (hb hby d_rm_ch_6) rfl ?_
    refine XS.aload X101.here hx rfl (hb hby d_rm_ch_7) rfl rfl ?_
    refine st104.trans ?_
    exact κ
  by_cases hc12_107 : (Int32.ofNat i) < (Int32.ofNat cs101.length)
  · skip
    obtain ⟨cq109, kq109, q109a, q109b, q109c⟩ := isOf Z101 eq104 Ex101
    obtain ⟨_, _, ⟨T108, L108, k108, n108⟩, -, X108, ⟨Lc108, hQ108, l108, y108, z108⟩, st108⟩ := X104.virtualBack hx (y := (⟨"java/lang/String", "charAt", "(I)C"⟩ : MethodName)) (z := (⟨"java/lang/String", "charAt", "(I)C"⟩ : MethodName)) O101 (mvT Z101 (hw _ (List.mem_of_getElem? (i := 28) rfl))) (mvT Z101 (hw _ (List.mem_of_getElem? (i := 29) rfl))) (notFace_of_selects (args := #[]) (mvT Z101 (hw _ (List.mem_of_getElem? (i := 31) rfl)))) (mvT Z101 (hw _ (List.mem_of_getElem? (i := 31) rfl))) (mvT Z101 (hw _ (List.mem_of_getElem? (i := 30) rfl))) (by decide) (StrChars.Road.chN (W := 0) Z101 hch (kI := 4) (hw _ (List.mem_of_getElem? (i := 6) rfl)) (cs := cs101) Ex101 Fv101 Fc101 Vt101 (StrChars.Road.codOf rfl (fun x hx => (hp101 x hx).2)) (own_up _ hp101) (O2.ext f103.2) P5 (O4.ext f103.2) rG3 ln101 (i := i) (own_ltn (by omega) ln101 hc12_107) (j := (Int32.ofNat i)) rfl (by decide) (by decide)) q109a q109c (g := (mkF m 18 #[.val (.int p0), .val (.int (Int32.ofNat i)), .val (.long q), .second, .val (.int p3), .val (.ref a101), .unset, .unset] [(.int (Int32.ofNat i)), (.ref a101)])) rfl (by rw [hml]; rfl) (Steps.refl _) (argsL := [(.int (Int32.ofNat i))]) (rest := []) (lenOf pdo_3 rfl) rfl (by show 2 * 0 + _ ≤ _; exact Nat.le_of_eq rfl) (hb hby d_rm_ch_18) (fun _ _ => ⟨rfl, eq104, (by decide : 2 + 0 ≤ _), (by decide : 32 + 0 ≤ _)⟩)
    dsimp only [Pt.U, Pt.locs, Pt.cells, Pt.slots] at X108 l108 y108 z108 st108 hQ108
    subst l108 y108 z108
    obtain ⟨rfl, rfl, eq108⟩ := hQ108
    have N108 := Fr.app N104 (Fr.nil n0)
    have pq110 : ∀ τ, Steps pP.tables e below (T108.setTop (mkF m 21 #[.val (.int p0), .val (.int (Int32.ofNat i)), .val (.long q), .second, .val (.int p3), .val (.ref a101), .unset, .unset] [(.int (cs101.getD i 0))])) τ → Steps pP.tables e below A0 τ := by
      intro τ κ
      refine pq106 τ ?_
      refine XS.icmpNo X104.here hx rfl (hb hby d_rm_ch_12) rfl (tlt hc12_107).2.1 ?_
      refine XS.aload X104.here hx rfl (hb hby d_rm_ch_15) rfl rfl ?_
      refine XS.iloadN X104.here hx rfl (hb hby d_rm_ch_17) rfl ?_
      refine st108.trans ?_
      exact κ
    have pq111 : ∀ τ, Steps pP.tables e below (T108.setTop (mkF m 29 #[.val (.int p0), .val (.int (Int32.ofNat i)), .val (.long q), .second, .val (.int p3), .val (.ref a101), .val (.int (cs101.getD i 0)), .unset] [(.int p3)])) τ → Steps pP.tables e below A0 τ := by
      intro τ κ
      refine pq110 τ ?_
      refine XS.goto X108.here hx rfl (pc0 := 21) (pc' := 25) rfl (hb hby d_rm_ch_21) (by decide) (by decide) ?_
      refine XS.istore X108.here hx rfl (hb hby d_rm_ch_25) rfl (l' := #[.val (.int p0), .val (.int (Int32.ofNat i)), .val (.long q), .second, .val (.int p3), .val (.ref a101), .val (.int (cs101.getD i 0)), .unset]) rfl ?_
      refine XS.iload X108.here hx rfl (hb hby d_rm_ch_27) rfl ?_
      exact κ
    by_cases hc29_112 : p3 = (0 : Int32)
    · skip
      have SKe := Nat.le_trans SK101 (Nat.le_of_eq (congrArg (fun z : Heap => Array.size z) (Eq.symm eq108)))
      obtain ⟨fs, hrE, hrun, hended, hEnd⟩ := X108.leaveW SI101 SKe (v := some (.int (nar .char ((((cs101.getD i 0) ^^^ (0 : Int32)) &&& (255 : Int32)).toUInt32.toUInt16.toUInt32.toInt32)))) (fun h => by rw [Bd.returns] at h; cases h)
      have CHe := CHr.trans CR101 (CHv.at X108 Z101 hEW CH101)
      have pqE := pq111
      rw [hA0] at pqE
      refine ⟨_, _, pqE _ ?_, hrun, hended, _, _, rfl, ?_, ?_, hEnd.1, hEnd.2.1, hEnd.2.2.1, hEnd.2.2.2.mono (by decide) (by decide)⟩
      · refine XS.ifYes X108.here hx rfl (pc0 := 29) (pc' := 46) rfl (hb hby d_rm_ch_29) rfl ((if0 _ _).trans (teq hc29_112).1) (by decide) (by decide) ?_
        refine XS.iconst X108.here hx rfl (hb hby d_rm_ch_46) ?_
        refine XS.istore X108.here hx rfl (hb hby d_rm_ch_47) rfl (l' := #[.val (.int p0), .val (.int (Int32.ofNat i)), .val (.long q), .second, .val (.int p3), .val (.ref a101), .val (.int (cs101.getD i 0)), .val (.int (0 : Int32))]) rfl ?_
        refine XS.iload X108.here hx rfl (hb hby d_rm_ch_49) rfl ?_
        refine XS.iload X108.here hx rfl (hb hby d_rm_ch_51) rfl ?_
        refine XS.ixor X108.here hx rfl (hb hby d_rm_ch_53) rfl ?_
        refine XS.sipush X108.here hx rfl (hb hby d_rm_ch_54) ?_
        refine XS.iand X108.here hx rfl (hb hby d_rm_ch_57) rfl ?_
        refine XS.i2c X108.here hx rfl (hb hby d_rm_ch_58) rfl ?_
        show Steps pP.tables e below (T108.setTop (mkF m 59 #[.val (.int p0), .val (.int (Int32.ofNat i)), .val (.long q), .second, .val (.int p3), .val (.ref a101), .val (.int (cs101.getD i 0)), .val (.int (0 : Int32))] [(.int ((((cs101.getD i 0) ^^^ (0 : Int32)) &&& (255 : Int32)).toUInt32.toUInt16.toUInt32.toInt32))])) _
        exact retN X108 hx (t := .char) Bd.returns (by simp) (hb hby d_rm_ch_59) hrE
      · show Q_ch h0 n0 _ T108.heap _
        rw [eq108]
        exact ⟨_, rfl, own_narI _ (own_i2c _ (own_and255 _)), N108, KC101⟩
      · show CHr Z consts_1 s.vm s.heap T108.vm T108.heap
        first | (rw [hh, eq108]; exact CHe) | (rw [hh]; exact CHe)
    · skip
      have SKe := Nat.le_trans SK101 (Nat.le_of_eq (congrArg (fun z : Heap => Array.size z) (Eq.symm eq108)))
      obtain ⟨fs, hrE, hrun, hended, hEnd⟩ := X108.leaveW SI101 SKe (v := some (.int (nar .char ((((cs101.getD i 0) ^^^ ((((q.toUInt64 >>> (((8 : Int32) * (Int32.ofNat i)) &&& 0x3f).toInt64.toUInt64).toInt64) &&& (255 : Int64)).toInt32)) &&& (255 : Int32)).toUInt32.toUInt16.toUInt32.toInt32)))) (fun h => by rw [Bd.returns] at h; cases h)
      have CHe := CHr.trans CR101 (CHv.at X108 Z101 hEW CH101)
      have pqE := pq111
      rw [hA0] at pqE
      refine ⟨_, _, pqE _ ?_, hrun, hended, _, _, rfl, ?_, ?_, hEnd.1, hEnd.2.1, hEnd.2.2.1, hEnd.2.2.2.mono (by decide) (by decide)⟩
      · refine XS.ifNo X108.here hx rfl (hb hby d_rm_ch_29) rfl ((if0 _ _).trans (feq hc29_112).1) ?_
        refine XS.lloadN X108.here hx rfl (hb hby d_rm_ch_32) rfl ?_
        refine XS.bipush X108.here hx rfl (hb hby d_rm_ch_33) ?_
        refine XS.iloadN X108.here hx rfl (hb hby d_rm_ch_35) rfl ?_
        refine XS.imul X108.here hx rfl (hb hby d_rm_ch_36) rfl ?_
        refine XS.lushr X108.here hx rfl (hb hby d_rm_ch_37) rfl ?_
        refine X108.ldc2Long hx O101 (mvT Z101 (hw _ (List.mem_of_getElem? (i := 116) rfl))) (g := (mkF m 38 #[.val (.int p0), .val (.int (Int32.ofNat i)), .val (.long q), .second, .val (.int p3), .val (.ref a101), .val (.int (cs101.getD i 0)), .unset] [(.long ((q.toUInt64 >>> (((8 : Int32) * (Int32.ofNat i)) &&& 0x3f).toInt64.toUInt64).toInt64))])) rfl (hb hby d_rm_ch_38) _ ?_
        refine XS.land X108.here hx rfl (hb hby d_rm_ch_41) rfl ?_
        refine XS.l2i X108.here hx rfl (hb hby d_rm_ch_42) rfl ?_
        refine XS.goto X108.here hx rfl (pc0 := 43) (pc' := 47) rfl (hb hby d_rm_ch_43) (by decide) (by decide) ?_
        refine XS.istore X108.here hx rfl (hb hby d_rm_ch_47) rfl (l' := #[.val (.int p0), .val (.int (Int32.ofNat i)), .val (.long q), .second, .val (.int p3), .val (.ref a101), .val (.int (cs101.getD i 0)), .val (.int ((((q.toUInt64 >>> (((8 : Int32) * (Int32.ofNat i)) &&& 0x3f).toInt64.toUInt64).toInt64) &&& (255 : Int64)).toInt32))]) rfl ?_
        refine XS.iload X108.here hx rfl (hb hby d_rm_ch_49) rfl ?_
        refine XS.iload X108.here hx rfl (hb hby d_rm_ch_51) rfl ?_
        refine XS.ixor X108.here hx rfl (hb hby d_rm_ch_53) rfl ?_
        refine XS.sipush X108.here hx rfl (hb hby d_rm_ch_54) ?_
        refine XS.iand X108.here hx rfl (hb hby d_rm_ch_57) rfl ?_
        refine XS.i2c X108.here hx rfl (hb hby d_rm_ch_58) rfl ?_
        show Steps pP.tables e below (T108.setTop (mkF m 59 #[.val (.int p0), .val (.int (Int32.ofNat i)), .val (.long q), .second, .val (.int p3), .val (.ref a101), .val (.int (cs101.getD i 0)), .val (.int ((((q.toUInt64 >>> (((8 : Int32) * (Int32.ofNat i)) &&& 0x3f).toInt64.toUInt64).toInt64) &&& (255 : Int64)).toInt32))] [(.int ((((cs101.getD i 0) ^^^ ((((q.toUInt64 >>> (((8 : Int32) * (Int32.ofNat i)) &&& 0x3f).toInt64.toUInt64).toInt64) &&& (255 : Int64)).toInt32)) &&& (255 : Int32)).toUInt32.toUInt16.toUInt32.toInt32))])) _
        exact retN X108 hx (t := .char) Bd.returns (by simp) (hb hby d_rm_ch_59) hrE
      · show Q_ch h0 n0 _ T108.heap _
        rw [eq108]
        exact ⟨_, rfl, own_narI _ (own_i2c _ (own_and255 _)), N108, KC101⟩
      · show CHr Z consts_1 s.vm s.heap T108.vm T108.heap
        first | (rw [hh, eq108]; exact CHe) | (rw [hh]; exact CHe)
  · skip
    have pq113 : ∀ τ, Steps pP.tables e below (T104.setTop (mkF m 29 #[.val (.int p0), .val (.int (Int32.ofNat i)), .val (.long q), .second, .val (.int p3), .val (.ref a101), .val (.int (0 : Int32)), .unset] [(.int p3)])) τ → Steps pP.tables e below A0 τ := by
      intro τ κ
      refine pq106 τ ?_
      refine XS.icmpYes X104.here hx rfl (pc0 := 12) (pc' := 24) rfl (hb hby d_rm_ch_12) rfl (flt hc12_107).2.1 (by decide) (by decide) ?_
      refine XS.iconst X104.here hx rfl (hb hby d_rm_ch_24) ?_
      refine XS.istore X104.here hx rfl (hb hby d_rm_ch_25) rfl (l' := #[.val (.int p0), .val (.int (Int32.ofNat i)), .val (.long q), .second, .val (.int p3), .val (.ref a101), .val (.int (0 : Int32)), .unset]) rfl ?_
      refine XS.iload X104.here hx rfl (hb hby d_rm_ch_27) rfl ?_
      exact κ
    by_cases hc29_114 : p3 = (0 : Int32)
    · skip
      have SKe := Nat.le_trans SK101 (Nat.le_of_eq (congrArg (fun z : Heap => Array.size z) (Eq.symm eq104)))
      obtain ⟨fs, hrE, hrun, hended, hEnd⟩ := X104.leaveW SI101 SKe (v := some (.int (nar .char ((((0 : Int32) ^^^ (0 : Int32)) &&& (255 : Int32)).toUInt32.toUInt16.toUInt32.toInt32)))) (fun h => by rw [Bd.returns] at h; cases h)
      have CHe := CHr.trans CR101 (CHv.at X104 Z101 hEW CH101)
      have pqE := pq113
      rw [hA0] at pqE
      refine ⟨_, _, pqE _ ?_, hrun, hended, _, _, rfl, ?_, ?_, hEnd.1, hEnd.2.1, hEnd.2.2.1, hEnd.2.2.2.mono (by decide) (by decide)⟩
      · refine XS.ifYes X104.here hx rfl (pc0 := 29) (pc' := 46) rfl (hb hby d_rm_ch_29) rfl ((if0 _ _).trans (teq hc29_114).1) (by decide) (by decide) ?_
        refine XS.iconst X104.here hx rfl (hb hby d_rm_ch_46) ?_
        refine XS.istore X104.here hx rfl (hb hby d_rm_ch_47) rfl (l' := #[.val (.int p0), .val (.int (Int32.ofNat i)), .val (.long q), .second, .val (.int p3), .val (.ref a101), .val (.int (0 : Int32)), .val (.int (0 : Int32))]) rfl ?_
        refine XS.iload X104.here hx rfl (hb hby d_rm_ch_49) rfl ?_
        refine XS.iload X104.here hx rfl (hb hby d_rm_ch_51) rfl ?_
        refine XS.ixor X104.here hx rfl (hb hby d_rm_ch_53) rfl ?_
        refine XS.sipush X104.here hx rfl (hb hby d_rm_ch_54) ?_
        refine XS.iand X104.here hx rfl (hb hby d_rm_ch_57) rfl ?_
        refine XS.i2c X104.here hx rfl (hb hby d_rm_ch_58) rfl ?_
        show Steps pP.tables e below (T104.setTop (mkF m 59 #[.val (.int p0), .val (.int (Int32.ofNat i)), .val (.long q), .second, .val (.int p3), .val (.ref a101), .val (.int (0 : Int32)), .val (.int (0 : Int32))] [(.int ((((0 : Int32) ^^^ (0 : Int32)) &&& (255 : Int32)).toUInt32.toUInt16.toUInt32.toInt32))])) _
        exact retN X104 hx (t := .char) Bd.returns (by simp) (hb hby d_rm_ch_59) hrE
      · show Q_ch h0 n0 _ T104.heap _
        rw [eq104]
        exact ⟨_, rfl, own_narI _ (own_i2c _ (own_and255 _)), N104, KC101⟩
      · show CHr Z consts_1 s.vm s.heap T104.vm T104.heap
        first | (rw [hh, eq104]; exact CHe) | (rw [hh]; exact CHe)
    · skip
      have SKe := Nat.le_trans SK101 (Nat.le_of_eq (congrArg (fun z : Heap => Array.size z) (Eq.symm eq104)))
      obtain ⟨fs, hrE, hrun, hended, hEnd⟩ := X104.leaveW SI101 SKe (v := some (.int (nar .char ((((0 : Int32) ^^^ ((((q.toUInt64 >>> (((8 : Int32) * (Int32.ofNat i)) &&& 0x3f).toInt64.toUInt64).toInt64) &&& (255 : Int64)).toInt32)) &&& (255 : Int32)).toUInt32.toUInt16.toUInt32.toInt32)))) (fun h => by rw [Bd.returns] at h; cases h)
      have CHe := CHr.trans CR101 (CHv.at X104 Z101 hEW CH101)
      have pqE := pq113
      rw [hA0] at pqE
      refine ⟨_, _, pqE _ ?_, hrun, hended, _, _, rfl, ?_, ?_, hEnd.1, hEnd.2.1, hEnd.2.2.1, hEnd.2.2.2.mono (by decide) (by decide)⟩
      · refine XS.ifNo X104.here hx rfl (hb hby d_rm_ch_29) rfl ((if0 _ _).trans (feq hc29_114).1) ?_
        refine XS.lloadN X104.here hx rfl (hb hby d_rm_ch_32) rfl ?_
        refine XS.bipush X104.here hx rfl (hb hby d_rm_ch_33) ?_
        refine XS.iloadN X104.here hx rfl (hb hby d_rm_ch_35) rfl ?_
        refine XS.imul X104.here hx rfl (hb hby d_rm_ch_36) rfl ?_
        refine XS.lushr X104.here hx rfl (hb hby d_rm_ch_37) rfl ?_
        refine X104.ldc2Long hx O101 (mvT Z101 (hw _ (List.mem_of_getElem? (i := 116) rfl))) (g := (mkF m 38 #[.val (.int p0), .val (.int (Int32.ofNat i)), .val (.long q), .second, .val (.int p3), .val (.ref a101), .val (.int (0 : Int32)), .unset] [(.long ((q.toUInt64 >>> (((8 : Int32) * (Int32.ofNat i)) &&& 0x3f).toInt64.toUInt64).toInt64))])) rfl (hb hby d_rm_ch_38) _ ?_
        refine XS.land X104.here hx rfl (hb hby d_rm_ch_41) rfl ?_
        refine XS.l2i X104.here hx rfl (hb hby d_rm_ch_42) rfl ?_
        refine XS.goto X104.here hx rfl (pc0 := 43) (pc' := 47) rfl (hb hby d_rm_ch_43) (by decide) (by decide) ?_
        refine XS.istore X104.here hx rfl (hb hby d_rm_ch_47) rfl (l' := #[.val (.int p0), .val (.int (Int32.ofNat i)), .val (.long q), .second, .val (.int p3), .val (.ref a101), .val (.int (0 : Int32)), .val (.int ((((q.toUInt64 >>> (((8 : Int32) * (Int32.ofNat i)) &&& 0x3f).toInt64.toUInt64).toInt64) &&& (255 : Int64)).toInt32))]) rfl ?_
        refine XS.iload X104.here hx rfl (hb hby d_rm_ch_49) rfl ?_
        refine XS.iload X104.here hx rfl (hb hby d_rm_ch_51) rfl ?_
        refine XS.ixor X104.here hx rfl (hb hby d_rm_ch_53) rfl ?_
        refine XS.sipush X104.here hx rfl (hb hby d_rm_ch_54) ?_
        refine XS.iand X104.here hx rfl (hb hby d_rm_ch_57) rfl ?_
        refine XS.i2c X104.here hx rfl (hb hby d_rm_ch_58) rfl ?_
        show Steps pP.tables e below (T104.setTop (mkF m 59 #[.val (.int p0), .val (.int (Int32.ofNat i)), .val (.long q), .second, .val (.int p3), .val (.ref a101), .val (.int (0 : Int32)), .val (.int ((((q.toUInt64 >>> (((8 : Int32) * (Int32.ofNat i)) &&& 0x3f).toInt64.toUInt64).toInt64) &&& (255 : Int64)).toInt32))] [(.int ((((0 : Int32) ^^^ ((((q.toUInt64 >>> (((8 : Int32) * (Int32.ofNat i)) &&& 0x3f).toInt64.toUInt64).toInt64) &&& (255 : Int64)).toInt32)) &&& (255 : Int32)).toUInt32.toUInt16.toUInt32.toInt32))])) _
        exact retN X104 hx (t := .char) Bd.returns (by simp) (hb hby d_rm_ch_59) hrE
      · show Q_ch h0 n0 _ T104.heap _
        rw [eq104]
        exact ⟨_, rfl, own_narI _ (own_i2c _ (own_and255 _)), N104, KC101⟩
      · show CHr Z consts_1 s.vm s.heap T104.vm T104.heap
        first | (rw [hh, eq104]; exact CHe) | (rw [hh]; exact CHe)
def Q_rm_make (Z : State) (p0 p1 p2 p3 p4 p5 p6 p7 : Int32) (h0 : Heap) (n0 : Nat) (v : Option Value) (h : Heap) (L : List Loc) : Prop := ∃ (a t : Addr) (kb : ClassId), v = some (.ref a) ∧ Fr n0 L ∧ Keep h0 h [] ∧ Exa Z h a "java/lang/String" ∧ Fld Z h a "java/lang/String" "coder" "B" (.int 0) ∧ Fld Z h a "java/lang/String" "value" "[B" (.ref t) ∧ Arv Z h t kb .byte (Int32.ofNat (own_cs p0 p1 p2 p3 p4 p5 p6 p7).length) (((own_cs p0 p1 p2 p3 p4 p5 p6 p7).map (fun c : Int32 => c.toInt8.toInt32)).map Value.int) (.int 0)
theorem d_rm_make_0 : decode method_5_code 0 = .ok (.iload_n 0, 1) := by decide +kernel
theorem d_rm_make_1 : decode method_5_code 1 = .ok (.ifCond .ne 14, 3) := by decide +kernel
theorem d_rm_make_4 : decode method_5_code 4 = .ok (.new 14, 3) := by decide +kernel
theorem d_rm_make_7 : decode method_5_code 7 = .ok (.dup, 1) := by decide +kernel
theorem d_rm_make_8 : decode method_5_code 8 = .ok (.iconst 0, 1) := by decide +kernel
theorem d_rm_make_9 : decode method_5_code 9 = .ok (.newarray .char, 2) := by decide +kernel
theorem d_rm_make_11 : decode method_5_code 11 = .ok (.invokespecial 54, 3) := by decide +kernel
theorem d_rm_make_14 : decode method_5_code 14 = .ok (.areturn, 1) := by decide +kernel
theorem d_rm_make_15 : decode method_5_code 15 = .ok (.iload_n 0, 1) := by decide +kernel
theorem d_rm_make_16 : decode method_5_code 16 = .ok (.iconst 1, 1) := by decide +kernel
theorem d_rm_make_17 : decode method_5_code 17 = .ok (.if_icmp .ne 18, 3) := by decide +kernel
theorem d_rm_make_20 : decode method_5_code 20 = .ok (.new 14, 3) := by decide +kernel
theorem d_rm_make_23 : decode method_5_code 23 = .ok (.dup, 1) := by decide +kernel
theorem d_rm_make_24 : decode method_5_code 24 = .ok (.iconst 1, 1) := by decide +kernel
theorem d_rm_make_25 : decode method_5_code 25 = .ok (.newarray .char, 2) := by decide +kernel
theorem d_rm_make_27 : decode method_5_code 27 = .ok (.dup, 1) := by decide +kernel
theorem d_rm_make_28 : decode method_5_code 28 = .ok (.iconst 0, 1) := by decide +kernel
theorem d_rm_make_29 : decode method_5_code 29 = .ok (.iload_n 1, 1) := by decide +kernel
theorem d_rm_make_30 : decode method_5_code 30 = .ok (.castore, 1) := by decide +kernel
theorem d_rm_make_31 : decode method_5_code 31 = .ok (.invokespecial 54, 3) := by decide +kernel
theorem d_rm_make_34 : decode method_5_code 34 = .ok (.areturn, 1) := by decide +kernel
theorem d_rm_make_35 : decode method_5_code 35 = .ok (.iload_n 0, 1) := by decide +kernel
theorem d_rm_make_36 : decode method_5_code 36 = .ok (.iconst 2, 1) := by decide +kernel
theorem d_rm_make_37 : decode method_5_code 37 = .ok (.if_icmp .ne 22, 3) := by decide +kernel
theorem d_rm_make_40 : decode method_5_code 40 = .ok (.new 14, 3) := by decide +kernel
theorem d_rm_make_43 : decode method_5_code 43 = .ok (.dup, 1) := by decide +kernel
theorem d_rm_make_44 : decode method_5_code 44 = .ok (.iconst 2, 1) := by decide +kernel
theorem d_rm_make_45 : decode method_5_code 45 = .ok (.newarray .char, 2) := by decide +kernel
theorem d_rm_make_47 : decode method_5_code 47 = .ok (.dup, 1) := by decide +kernel
theorem d_rm_make_48 : decode method_5_code 48 = .ok (.iconst 0, 1) := by decide +kernel
theorem d_rm_make_49 : decode method_5_code 49 = .ok (.iload_n 1, 1) := by decide +kernel
theorem d_rm_make_50 : decode method_5_code 50 = .ok (.castore, 1) := by decide +kernel
theorem d_rm_make_51 : decode method_5_code 51 = .ok (.dup, 1) := by decide +kernel
theorem d_rm_make_52 : decode method_5_code 52 = .ok (.iconst 1, 1) := by decide +kernel
theorem d_rm_make_53 : decode method_5_code 53 = .ok (.iload_n 2, 1) := by decide +kernel
theorem d_rm_make_54 : decode method_5_code 54 = .ok (.castore, 1) := by decide +kernel
theorem d_rm_make_55 : decode method_5_code 55 = .ok (.invokespecial 54, 3) := by decide +kernel
theorem d_rm_make_58 : decode method_5_code 58 = .ok (.areturn, 1) := by decide +kernel
theorem d_rm_make_59 : decode method_5_code 59 = .ok (.iload_n 0, 1) := by decide +kernel
theorem d_rm_make_60 : decode method_5_code 60 = .ok (.iconst 3, 1) := by decide +kernel
theorem d_rm_make_61 : decode method_5_code 61 = .ok (.if_icmp .ne 26, 3) := by decide +kernel
theorem d_rm_make_64 : decode method_5_code 64 = .ok (.new 14, 3) := by decide +kernel
theorem d_rm_make_67 : decode method_5_code 67 = .ok (.dup, 1) := by decide +kernel
theorem d_rm_make_68 : decode method_5_code 68 = .ok (.iconst 3, 1) := by decide +kernel
theorem d_rm_make_69 : decode method_5_code 69 = .ok (.newarray .char, 2) := by decide +kernel
theorem d_rm_make_71 : decode method_5_code 71 = .ok (.dup, 1) := by decide +kernel
theorem d_rm_make_72 : decode method_5_code 72 = .ok (.iconst 0, 1) := by decide +kernel
theorem d_rm_make_73 : decode method_5_code 73 = .ok (.iload_n 1, 1) := by decide +kernel
theorem d_rm_make_74 : decode method_5_code 74 = .ok (.castore, 1) := by decide +kernel
theorem d_rm_make_75 : decode method_5_code 75 = .ok (.dup, 1) := by decide +kernel
theorem d_rm_make_76 : decode method_5_code 76 = .ok (.iconst 1, 1) := by decide +kernel
theorem d_rm_make_77 : decode method_5_code 77 = .ok (.iload_n 2, 1) := by decide +kernel
theorem d_rm_make_78 : decode method_5_code 78 = .ok (.castore, 1) := by decide +kernel
theorem d_rm_make_79 : decode method_5_code 79 = .ok (.dup, 1) := by decide +kernel
theorem d_rm_make_80 : decode method_5_code 80 = .ok (.iconst 2, 1) := by decide +kernel
theorem d_rm_make_81 : decode method_5_code 81 = .ok (.iload_n 3, 1) := by decide +kernel
theorem d_rm_make_82 : decode method_5_code 82 = .ok (.castore, 1) := by decide +kernel
theorem d_rm_make_83 : decode method_5_code 83 = .ok (.invokespecial 54, 3) := by decide +kernel
theorem d_rm_make_86 : decode method_5_code 86 = .ok (.areturn, 1) := by decide +kernel
theorem d_rm_make_87 : decode method_5_code 87 = .ok (.iload_n 0, 1) := by decide +kernel
theorem d_rm_make_88 : decode method_5_code 88 = .ok (.iconst 4, 1) := by decide +kernel
theorem d_rm_make_89 : decode method_5_code 89 = .ok (.if_icmp .ne 31, 3) := by decide +kernel
theorem d_rm_make_92 : decode method_5_code 92 = .ok (.new 14, 3) := by decide +kernel
theorem d_rm_make_95 : decode method_5_code 95 = .ok (.dup, 1) := by decide +kernel
theorem d_rm_make_96 : decode method_5_code 96 = .ok (.iconst 4, 1) := by decide +kernel
theorem d_rm_make_97 : decode method_5_code 97 = .ok (.newarray .char, 2) := by decide +kernel
theorem d_rm_make_99 : decode method_5_code 99 = .ok (.dup, 1) := by decide +kernel
theorem d_rm_make_100 : decode method_5_code 100 = .ok (.iconst 0, 1) := by decide +kernel
theorem d_rm_make_101 : decode method_5_code 101 = .ok (.iload_n 1, 1) := by decide +kernel
theorem d_rm_make_102 : decode method_5_code 102 = .ok (.castore, 1) := by decide +kernel
theorem d_rm_make_103 : decode method_5_code 103 = .ok (.dup, 1) := by decide +kernel
theorem d_rm_make_104 : decode method_5_code 104 = .ok (.iconst 1, 1) := by decide +kernel
theorem d_rm_make_105 : decode method_5_code 105 = .ok (.iload_n 2, 1) := by decide +kernel
theorem d_rm_make_106 : decode method_5_code 106 = .ok (.castore, 1) := by decide +kernel
theorem d_rm_make_107 : decode method_5_code 107 = .ok (.dup, 1) := by decide +kernel
theorem d_rm_make_108 : decode method_5_code 108 = .ok (.iconst 2, 1) := by decide +kernel
theorem d_rm_make_109 : decode method_5_code 109 = .ok (.iload_n 3, 1) := by decide +kernel
theorem d_rm_make_110 : decode method_5_code 110 = .ok (.castore, 1) := by decide +kernel
theorem d_rm_make_111 : decode method_5_code 111 = .ok (.dup, 1) := by decide +kernel
theorem d_rm_make_112 : decode method_5_code 112 = .ok (.iconst 3, 1) := by decide +kernel
theorem d_rm_make_113 : decode method_5_code 113 = .ok (.iload 4, 2) := by decide +kernel
theorem d_rm_make_115 : decode method_5_code 115 = .ok (.castore, 1) := by decide +kernel
theorem d_rm_make_116 : decode method_5_code 116 = .ok (.invokespecial 54, 3) := by decide +kernel
theorem d_rm_make_119 : decode method_5_code 119 = .ok (.areturn, 1) := by decide +kernel
theorem d_rm_make_120 : decode method_5_code 120 = .ok (.iload_n 0, 1) := by decide +kernel
theorem d_rm_make_121 : decode method_5_code 121 = .ok (.iconst 5, 1) := by decide +kernel
theorem d_rm_make_122 : decode method_5_code 122 = .ok (.if_icmp .ne 36, 3) := by decide +kernel
theorem d_rm_make_125 : decode method_5_code 125 = .ok (.new 14, 3) := by decide +kernel
theorem d_rm_make_128 : decode method_5_code 128 = .ok (.dup, 1) := by decide +kernel
theorem d_rm_make_129 : decode method_5_code 129 = .ok (.iconst 5, 1) := by decide +kernel
theorem d_rm_make_130 : decode method_5_code 130 = .ok (.newarray .char, 2) := by decide +kernel
theorem d_rm_make_132 : decode method_5_code 132 = .ok (.dup, 1) := by decide +kernel
theorem d_rm_make_133 : decode method_5_code 133 = .ok (.iconst 0, 1) := by decide +kernel
theorem d_rm_make_134 : decode method_5_code 134 = .ok (.iload_n 1, 1) := by decide +kernel
theorem d_rm_make_135 : decode method_5_code 135 = .ok (.castore, 1) := by decide +kernel
theorem d_rm_make_136 : decode method_5_code 136 = .ok (.dup, 1) := by decide +kernel
theorem d_rm_make_137 : decode method_5_code 137 = .ok (.iconst 1, 1) := by decide +kernel
theorem d_rm_make_138 : decode method_5_code 138 = .ok (.iload_n 2, 1) := by decide +kernel
theorem d_rm_make_139 : decode method_5_code 139 = .ok (.castore, 1) := by decide +kernel
theorem d_rm_make_140 : decode method_5_code 140 = .ok (.dup, 1) := by decide +kernel
theorem d_rm_make_141 : decode method_5_code 141 = .ok (.iconst 2, 1) := by decide +kernel
theorem d_rm_make_142 : decode method_5_code 142 = .ok (.iload_n 3, 1) := by decide +kernel
theorem d_rm_make_143 : decode method_5_code 143 = .ok (.castore, 1) := by decide +kernel
theorem d_rm_make_144 : decode method_5_code 144 = .ok (.dup, 1) := by decide +kernel
theorem d_rm_make_145 : decode method_5_code 145 = .ok (.iconst 3, 1) := by decide +kernel
theorem d_rm_make_146 : decode method_5_code 146 = .ok (.iload 4, 2) := by decide +kernel
theorem d_rm_make_148 : decode method_5_code 148 = .ok (.castore, 1) := by decide +kernel
theorem d_rm_make_149 : decode method_5_code 149 = .ok (.dup, 1) := by decide +kernel
theorem d_rm_make_150 : decode method_5_code 150 = .ok (.iconst 4, 1) := by decide +kernel
theorem d_rm_make_151 : decode method_5_code 151 = .ok (.iload 5, 2) := by decide +kernel
theorem d_rm_make_153 : decode method_5_code 153 = .ok (.castore, 1) := by decide +kernel
theorem d_rm_make_154 : decode method_5_code 154 = .ok (.invokespecial 54, 3) := by decide +kernel
theorem d_rm_make_157 : decode method_5_code 157 = .ok (.areturn, 1) := by decide +kernel
theorem d_rm_make_158 : decode method_5_code 158 = .ok (.iload_n 0, 1) := by decide +kernel
theorem d_rm_make_159 : decode method_5_code 159 = .ok (.bipush 6, 2) := by decide +kernel
theorem d_rm_make_161 : decode method_5_code 161 = .ok (.if_icmp .ne 42, 3) := by decide +kernel
theorem d_rm_make_164 : decode method_5_code 164 = .ok (.new 14, 3) := by decide +kernel
theorem d_rm_make_167 : decode method_5_code 167 = .ok (.dup, 1) := by decide +kernel
theorem d_rm_make_168 : decode method_5_code 168 = .ok (.bipush 6, 2) := by decide +kernel
theorem d_rm_make_170 : decode method_5_code 170 = .ok (.newarray .char, 2) := by decide +kernel
theorem d_rm_make_172 : decode method_5_code 172 = .ok (.dup, 1) := by decide +kernel
theorem d_rm_make_173 : decode method_5_code 173 = .ok (.iconst 0, 1) := by decide +kernel
theorem d_rm_make_174 : decode method_5_code 174 = .ok (.iload_n 1, 1) := by decide +kernel
theorem d_rm_make_175 : decode method_5_code 175 = .ok (.castore, 1) := by decide +kernel
theorem d_rm_make_176 : decode method_5_code 176 = .ok (.dup, 1) := by decide +kernel
theorem d_rm_make_177 : decode method_5_code 177 = .ok (.iconst 1, 1) := by decide +kernel
theorem d_rm_make_178 : decode method_5_code 178 = .ok (.iload_n 2, 1) := by decide +kernel
theorem d_rm_make_179 : decode method_5_code 179 = .ok (.castore, 1) := by decide +kernel
theorem d_rm_make_180 : decode method_5_code 180 = .ok (.dup, 1) := by decide +kernel
theorem d_rm_make_181 : decode method_5_code 181 = .ok (.iconst 2, 1) := by decide +kernel
theorem d_rm_make_182 : decode method_5_code 182 = .ok (.iload_n 3, 1) := by decide +kernel
theorem d_rm_make_183 : decode method_5_code 183 = .ok (.castore, 1) := by decide +kernel
theorem d_rm_make_184 : decode method_5_code 184 = .ok (.dup, 1) := by decide +kernel
theorem d_rm_make_185 : decode method_5_code 185 = .ok (.iconst 3, 1) := by decide +kernel
theorem d_rm_make_186 : decode method_5_code 186 = .ok (.iload 4, 2) := by decide +kernel
theorem d_rm_make_188 : decode method_5_code 188 = .ok (.castore, 1) := by decide +kernel
theorem d_rm_make_189 : decode method_5_code 189 = .ok (.dup, 1) := by decide +kernel
theorem d_rm_make_190 : decode method_5_code 190 = .ok (.iconst 4, 1) := by decide +kernel
theorem d_rm_make_191 : decode method_5_code 191 = .ok (.iload 5, 2) := by decide +kernel
theorem d_rm_make_193 : decode method_5_code 193 = .ok (.castore, 1) := by decide +kernel
theorem d_rm_make_194 : decode method_5_code 194 = .ok (.dup, 1) := by decide +kernel
theorem d_rm_make_195 : decode method_5_code 195 = .ok (.iconst 5, 1) := by decide +kernel
theorem d_rm_make_196 : decode method_5_code 196 = .ok (.iload 6, 2) := by decide +kernel
theorem d_rm_make_198 : decode method_5_code 198 = .ok (.castore, 1) := by decide +kernel
theorem d_rm_make_199 : decode method_5_code 199 = .ok (.invokespecial 54, 3) := by decide +kernel
theorem d_rm_make_202 : decode method_5_code 202 = .ok (.areturn, 1) := by decide +kernel
theorem d_rm_make_203 : decode method_5_code 203 = .ok (.new 14, 3) := by decide +kernel
theorem d_rm_make_206 : decode method_5_code 206 = .ok (.dup, 1) := by decide +kernel
theorem d_rm_make_207 : decode method_5_code 207 = .ok (.bipush 7, 2) := by decide +kernel
theorem d_rm_make_209 : decode method_5_code 209 = .ok (.newarray .char, 2) := by decide +kernel
theorem d_rm_make_211 : decode method_5_code 211 = .ok (.dup, 1) := by decide +kernel
theorem d_rm_make_212 : decode method_5_code 212 = .ok (.iconst 0, 1) := by decide +kernel
theorem d_rm_make_213 : decode method_5_code 213 = .ok (.iload_n 1, 1) := by decide +kernel
theorem d_rm_make_214 : decode method_5_code 214 = .ok (.castore, 1) := by decide +kernel
theorem d_rm_make_215 : decode method_5_code 215 = .ok (.dup, 1) := by decide +kernel
theorem d_rm_make_216 : decode method_5_code 216 = .ok (.iconst 1, 1) := by decide +kernel
theorem d_rm_make_217 : decode method_5_code 217 = .ok (.iload_n 2, 1) := by decide +kernel
theorem d_rm_make_218 : decode method_5_code 218 = .ok (.castore, 1) := by decide +kernel
theorem d_rm_make_219 : decode method_5_code 219 = .ok (.dup, 1) := by decide +kernel
theorem d_rm_make_220 : decode method_5_code 220 = .ok (.iconst 2, 1) := by decide +kernel
theorem d_rm_make_221 : decode method_5_code 221 = .ok (.iload_n 3, 1) := by decide +kernel
theorem d_rm_make_222 : decode method_5_code 222 = .ok (.castore, 1) := by decide +kernel
theorem d_rm_make_223 : decode method_5_code 223 = .ok (.dup, 1) := by decide +kernel
theorem d_rm_make_224 : decode method_5_code 224 = .ok (.iconst 3, 1) := by decide +kernel
theorem d_rm_make_225 : decode method_5_code 225 = .ok (.iload 4, 2) := by decide +kernel
theorem d_rm_make_227 : decode method_5_code 227 = .ok (.castore, 1) := by decide +kernel
theorem d_rm_make_228 : decode method_5_code 228 = .ok (.dup, 1) := by decide +kernel
theorem d_rm_make_229 : decode method_5_code 229 = .ok (.iconst 4, 1) := by decide +kernel
theorem d_rm_make_230 : decode method_5_code 230 = .ok (.iload 5, 2) := by decide +kernel
theorem d_rm_make_232 : decode method_5_code 232 = .ok (.castore, 1) := by decide +kernel
theorem d_rm_make_233 : decode method_5_code 233 = .ok (.dup, 1) := by decide +kernel
theorem d_rm_make_234 : decode method_5_code 234 = .ok (.iconst 5, 1) := by decide +kernel
theorem d_rm_make_235 : decode method_5_code 235 = .ok (.iload 6, 2) := by decide +kernel
theorem d_rm_make_237 : decode method_5_code 237 = .ok (.castore, 1) := by decide +kernel
theorem d_rm_make_238 : decode method_5_code 238 = .ok (.dup, 1) := by decide +kernel
theorem d_rm_make_239 : decode method_5_code 239 = .ok (.bipush 6, 2) := by decide +kernel
theorem d_rm_make_241 : decode method_5_code 241 = .ok (.iload 7, 2) := by decide +kernel
theorem d_rm_make_243 : decode method_5_code 243 = .ok (.castore, 1) := by decide +kernel
theorem d_rm_make_244 : decode method_5_code 244 = .ok (.invokespecial 54, 3) := by decide +kernel
theorem d_rm_make_247 : decode method_5_code 247 = .ok (.areturn, 1) := by decide +kernel
theorem ef_rm_make (m : MethodId) (x0 : Int32) (x1 : Int32) (x2 : Int32) (x3 : Int32) (x4 : Int32) (x5 : Int32) (x6 : Int32) (x7 : Int32) : entryFrame m #[(.int x0), (.int x1), (.int x2), (.int x3), (.int x4), (.int x5), (.int x6), (.int x7)] 8 = mkF m 0 #[.val (.int x0), .val (.int x1), .val (.int x2), .val (.int x3), .val (.int x4), .val (.int x5), .val (.int x6), .val (.int x7)] [] := by first | (simp [entryFrame, mkF, argsToLocals, Value.category]; done) | rfl
set_option maxRecDepth 65536 in
set_option maxHeartbeats 3000000 in
theorem rm_make (l : Launch) (Z : State) (a0 : Array Value) (hw : ∀ d ∈ tables_1, d.before a0 Z = true) (hEW : EW Z a0 consts_1) (ws : List Jvm.Cond) (p0 p1 p2 p3 p4 p5 p6 p7 : Int32) (G1 : Int32) (h0 : Heap) (n0 : Nat) (Z0 : n0 ≤ h0.size) (O2 : Sta Z Z.heap "java/lang/String" "COMPACT_STRINGS" "Z" (.int G1)) (P5 : ¬ (G1 = (0 : Int32))) (X00 : Old Z n0 h0) (hp1 : ¬ p1 < 0 ∧ ¬ (255 : Int32) < p1) (hp2 : ¬ p2 < 0 ∧ ¬ (255 : Int32) < p2) (hp3 : ¬ p3 < 0 ∧ ¬ (255 : Int32) < p3) (hp4 : ¬ p4 < 0 ∧ ¬ (255 : Int32) < p4) (hp5 : ¬ p5 < 0 ∧ ¬ (255 : Int32) < p5) (hp6 : ¬ p6 < 0 ∧ ¬ (255 : Int32) < p6) (hp7 : ¬ p7 < 0 ∧ ¬ (255 : Int32) < p7) :
    MetFree l (⟨"interfold/model/LogicTypeNamedPinLaw", "make", "(ICCCCCCC)Ljava/lang/String;"⟩ : MethodName) (head1 (Jvm.Cond.code (⟨"interfold/model/LogicTypeNamedPinLaw", "make", "(ICCCCCCC)Ljava/lang/String;"⟩ : MethodName) method_5_code 8 (some (.object "java/lang/String")) :: ws) ({ frames := 4, cells := 4, slots := 18, locals := 66 } : Room)) (fun αs U => αs = #[(.int p0), (.int p1), (.int p2), (.int p3), (.int p4), (.int p5), (.int p6), (.int p7)] ∧ Z.Warmed39 U.vm ∧ U.heap = h0 ∧ CHv Z consts_1 U.vm h0) (fun _ _ _ _ _ => True) (fun _ U o U' => ∃ v L, o = .returned v ∧ Q_rm_make Z p0 p1 p2 p3 p4 p5 p6 p7 h0 n0 v U'.heap L ∧ CHr Z consts_1 U.vm U.heap U'.vm U'.heap ∧ ReturnedEndW U o U' L ({ frames := 4, cells := 4, slots := 18, locals := 66 } : Room).cells ({ frames := 4, cells := 4, slots := 18, locals := 66 } : Room).slots) := by
  refine MetFree.of_bodySF (plainFor_of_name pno_1) hisR ?_
  intro pP e s m args below meth cC s₁ Bd hml0 hP hK
  obtain ⟨rfl, hZ, hh, CH0⟩ := hP
  have hx := Bd.exec
  have hby := Bd.bytes
  have hml : cC.maxLocals = 8 := hml0
  have hown : s.vm.findClass "interfold/model/LogicTypeNamedPinLaw" = some m.cls := findClass_of_methodNamed Bd.named
  have hnm := (name_of_methodNamed Bd.named Bd.method).1
  have X0 : Stand pP l e ({ frames := 4, cells := 4, slots := 18, locals := 66 } : Room) (s.setVm s.vm) m #[(.int p0), (.int p1), (.int p2), (.int p3), (.int p4), (.int p5), (.int p6), (.int p7)] below meth cC s₁ [] 0 0 := Stand.of_body Bd
  have e0 : s₁.heap = h0 := by rw [← hh, Bd.state]; rfl
  have N0 := Fr.nil n0
  have KC0 : Keep h0 h0 [] := Keep.refl h0 _
  replace hZ : Z.Warmed39 (s.setVm s.vm).vm := hZ
  replace hown : (s.setVm s.vm).vm.findClass "interfold/model/LogicTypeNamedPinLaw" = some m.cls := hown
  have SI0 : s.Since s.vm h0.size := (State.WarmedH.refl s).since _
  have SK0 : h0.size ≤ h0.size := Nat.le_refl _
  have CR0 : CHr Z consts_1 s.vm h0 s.vm h0 := CHr.refl CH0
  obtain ⟨A0, hA0⟩ : ∃ z, z = s₁.setTop (entryFrame m #[(.int p0), (.int p1), (.int p2), (.int p3), (.int p4), (.int p5), (.int p6), (.int p7)] 8) := ⟨_, rfl⟩
  have pre0 : ∀ τ, Steps pP.tables e below (s₁.setTop (mkF m 0 #[.val (.int p0), .val (.int p1), .val (.int p2), .val (.int p3), .val (.int p4), .val (.int p5), .val (.int p6), .val (.int p7)] [])) τ → Steps pP.tables e below A0 τ := fun τ κ => by rw [hA0]; exact castTop (ef_rm_make m p0 p1 p2 p3 p4 p5 p6 p7) κ
  have hws : ∀ d ∈ StrChars.Road.words, d.before a0 Z = true := fun d hd => hw d ((by decide +kernel : ∀ d ∈ StrChars.Road.words, d ∈ tables_1) d hd)
  have pq101 : ∀ τ, Steps pP.tables e below (s₁.setTop (mkF m 1 #[.val (.int p0), .val (.int p1), .val (.int p2), .val (.int p3), .val (.int p4), .val (.int p5), .val (.int p6), .val (.int p7)] [(.int p0)])) τ → Steps pP.tables e below A0 τ := by
    intro τ κ
    refine pre0 τ ?_
    refine XS.iloadN X0.here hx rfl (hb hby d_rm_make_0) rfl ?_
    exact κ
  by_cases hc1_102 : p0 = (0 : Int32)
  · skip
    obtain ⟨T103, h103, X103, e103, E103, A103, D103, -, st103⟩ := newO X0 hx hZ hown (hw _ (List.mem_of_getElem? (i := 53) rfl)) (hw _ (List.mem_of_getElem? (i := 6) rfl)) (hw _ (List.mem_of_getElem? (i := 5) rfl)) e0 (g := (mkF m 4 #[.val (.int p0), .val (.int p1), .val (.int p2), .val (.int p3), .val (.int p4), .val (.int p5), .val (.int p6), .val (.int p7)] [])) rfl (hb hby d_rm_make_4) (by decide) (by decide)
    obtain ⟨b103, g103⟩ : ∃ z, z = h0.size := ⟨_, rfl⟩
    rw [← g103] at A103 D103 st103
    have pq104 : ∀ τ, Steps pP.tables e below (T103.setTop (mkF m 7 #[.val (.int p0), .val (.int p1), .val (.int p2), .val (.int p3), .val (.int p4), .val (.int p5), .val (.int p6), .val (.int p7)] [(.ref b103)])) τ → Steps pP.tables e below A0 τ := by
      intro τ κ
      refine pq101 τ ?_
      refine XS.ifNo X0.here hx rfl (hb hby d_rm_make_1) rfl ((if0 _ _).trans (teq hc1_102).2) ?_
      refine st103 _ ?_
      exact κ
    have KC103 : Keep h0 h103 [] := KC0.ext E103
    have CH103 := CHv.ext E103 CH0
    have CR103 := CHr.trans CR0 (CHr.ext E103 CH0)
    have SK103 := Nat.le_trans SK0 E103.1
    have Sf103 := Safe.ext (x := b103) E103 CH0 (Safe.new (Nat.le_of_eq g103.symm))
    have F_value_b103 : Fld Z h103 b103 "java/lang/String" "value" "[B" .null := D103 (Or.inr (hw _ (List.mem_of_getElem? (i := 8) rfl))) (ty := (.array .byte)) (by decide)
    have F_coder_b103 : Fld Z h103 b103 "java/lang/String" "coder" "B" (.int (0 : Int32)) := D103 (Or.inr (hw _ (List.mem_of_getElem? (i := 9) rfl))) (ty := .byte) (by decide)
    obtain ⟨T105, h105, k105, X105, e105, E105, A105, st105⟩ := newP X103 hx hZ (hw _ (List.mem_of_getElem? (i := 54) rfl)) e103 (g := (mkF m 9 #[.val (.int p0), .val (.int p1), .val (.int p2), .val (.int p3), .val (.int p4), .val (.int p5), .val (.int p6), .val (.int p7)] [(.int (0 : Int32)), (.ref b103), (.ref b103)])) rfl (hb hby d_rm_make_9) rfl (by decide) (cap := 0) (by decide) (by decide) (by decide) (by decide)
    obtain ⟨b105, g105⟩ : ∃ z, z = h103.size := ⟨_, rfl⟩
    rw [← g105] at A105 st105
    have pq106 : ∀ τ, Steps pP.tables e below (T105.setTop (mkF m 11 #[.val (.int p0), .val (.int p1), .val (.int p2), .val (.int p3), .val (.int p4), .val (.int p5), .val (.int p6), .val (.int p7)] [(.ref b105), (.ref b103), (.ref b103)])) τ → Steps pP.tables e below A0 τ := by
      intro τ κ
      refine pq104 τ ?_
      refine XS.dup X103.here hx rfl (hb hby d_rm_make_7) rfl rfl ?_
      refine XS.iconst X103.here hx rfl (hb hby d_rm_make_8) ?_
      refine st105 _ ?_
      exact κ
    have KC105 : Keep h0 h105 [] := KC103.ext E105
    have CH105 := CHv.ext E105 CH103
    have CR105 := CHr.trans CR103 (CHr.ext E105 CH103)
    have SK105 := Nat.le_trans SK103 E105.1
    have V105 : Arv Z h105 b105 k105 .char (0 : Int32) [] (.int (0 : Int32)) := Arv.new A105 (by decide)
    have Sf105 := Safe.ext (x := b105) E105 CH103 (Safe.new (Nat.le_of_eq g105.symm))
    have f107 := (A103.ext E105)
    have f108 := (F_value_b103.ext E105)
    have f109 := (F_coder_b103.ext E105)
    have f110 := (Nat.le_trans (Nat.le_trans Z0 E103.1) E105.1)
    obtain ⟨_, _, ⟨T111, L111, k111, n111⟩, -, X111, S111, G111, ⟨Lc111, hQ111, l111, y111, z111, C111⟩, st111⟩ := X105.specialBackS hx (y := (⟨"java/lang/String", "<init>", "([C)V"⟩ : MethodName)) rfl hown (mvT hZ (hw _ (List.mem_of_getElem? (i := 55) rfl))) (mvT hZ (hw _ (List.mem_of_getElem? (i := 56) rfl))) (mvT hZ (hw _ (List.mem_of_getElem? (i := 57) rfl))) (by decide) (backOfSH (s := s) (vm0 := s.vm) (EL := consts_1) (W := 1) (rm_emp1 l Z a0 hw hEW [] b103 b105 k105 h105 n0 f110 f107 (Nat.le_trans Z0 (Nat.le_of_eq g103.symm)) f108 f109 V105) hZ (hw _ (List.mem_of_getElem? (i := 57) rfl)) (hw _ (List.mem_of_getElem? (i := 5) rfl)) (by decide) (by decide) hEW CH105) (g := (mkF m 11 #[.val (.int p0), .val (.int p1), .val (.int p2), .val (.int p3), .val (.int p4), .val (.int p5), .val (.int p6), .val (.int p7)] [(.ref b105), (.ref b103), (.ref b103)])) rfl (by rw [hml]; rfl) (Steps.refl _) (a := b103) (argsL := [(.ref b105)]) (rest := [(.ref b103)]) (lenOf pdo_4 rfl) rfl (by show 2 * 0 + _ ≤ _; exact Nat.le_of_eq rfl) (hb hby d_rm_make_11) (fun _ _ => ⟨rfl, e105, (by decide : 2 + 2 ≤ _), (by decide : 4 + 4 ≤ _)⟩)
    dsimp only [Pt.U, Pt.locs, Pt.cells, Pt.slots] at X111 l111 y111 z111 st111 hQ111 S111 G111 C111
    subst l111 y111 z111
    have G111a : h105.size ≤ T111.heap.size := by first | exact G111 | (rw [← e105]; exact G111)
    obtain ⟨X111, SI111, Z111, O111⟩ := rebS SI0 SK105 X111 S111 G111a hZ hown
    have SK111 : T111.heap.size ≤ T111.heap.size := Nat.le_refl _
    obtain ⟨rfl, Nq111, K111, Ex111, Fc111, t111, kb111, tc111, Fv111, Vt111⟩ := hQ111
    have N111 := Fr.app N0 Nq111
    have pq112 : ∀ τ, Steps pP.tables e below (T111.setTop (mkF m 14 #[.val (.int p0), .val (.int p1), .val (.int p2), .val (.int p3), .val (.int p4), .val (.int p5), .val (.int p6), .val (.int p7)] [(.ref b103)])) τ → Steps pP.tables e below A0 τ := by
      intro τ κ
      refine pq106 τ ?_
      refine st111.trans ?_
      exact κ
    have KC111 : Keep h0 T111.heap [] := KC105.trans K111 (allS (Or.inr (Nat.le_trans (Nat.le_refl _) (Nat.le_of_eq g103.symm))) all0)
    have CH111 := C111.1
    have CR111 := CHr.trans CR105 C111
    have ecs113 : own_cs p0 p1 p2 p3 p4 p5 p6 p7 = [] := by simp [own_cs, hc1_102]
    have SKe := SK111
    obtain ⟨fs, hrE, hrun, hended, hEnd⟩ := X111.leaveW SI111 SKe (v := some (.ref b103)) (fun h => by rw [Bd.returns] at h; cases h)
    have CHe := CHr.trans CR111 (CHv.at X111 Z111 hEW CH111)
    have pqE := pq112
    rw [hA0] at pqE
    refine ⟨_, _, pqE _ ?_, hrun, hended, _, _, rfl, ?_, ?_, hEnd.1, hEnd.2.1, hEnd.2.2.1, hEnd.2.2.2.mono (by decide) (by decide)⟩
    · show Steps pP.tables e below (T111.setTop (mkF m 14 #[.val (.int p0), .val (.int p1), .val (.int p2), .val (.int p3), .val (.int p4), .val (.int p5), .val (.int p6), .val (.int p7)] [(.ref b103)])) _
      exact retOut X111 hx Bd.returns rfl (Or.inr (Or.inr (Or.inr (Or.inr ⟨rfl, rfl, rfl⟩)))) (hb hby d_rm_make_14) hrE
    · show Q_rm_make Z p0 p1 p2 p3 p4 p5 p6 p7 h0 n0 _ T111.heap _
      exact ⟨b103, t111, _, rfl, N111, KC111, Ex111, Fc111, Fv111, by rw [ecs113]; exact Vt111⟩
    · show CHr Z consts_1 s.vm s.heap T111.vm T111.heap
      rw [hh]; exact CHe
  · skip
    have pq114 : ∀ τ, Steps pP.tables e below (s₁.setTop (mkF m 17 #[.val (.int p0), .val (.int p1), .val (.int p2), .val (.int p3), .val (.int p4), .val (.int p5), .val (.int p6), .val (.int p7)] [(.int (1 : Int32)), (.int p0)])) τ → Steps pP.tables e below A0 τ := by
      intro τ κ
      refine pq101 τ ?_
      refine XS.ifYes X0.here hx rfl (pc0 := 1) (pc' := 15) rfl (hb hby d_rm_make_1) rfl ((if0 _ _).trans (feq hc1_102).2) (by decide) (by decide) ?_
      refine XS.iloadN X0.here hx rfl (hb hby d_rm_make_15) rfl ?_
      refine XS.iconst X0.here hx rfl (hb hby d_rm_make_16) ?_
      exact κ
    by_cases hc17_115 : p0 = (1 : Int32)
    · skip
      obtain ⟨T116, h116, X116, e116, E116, A116, D116, -, st116⟩ := newO X0 hx hZ hown (hw _ (List.mem_of_getElem? (i := 53) rfl)) (hw _ (List.mem_of_getElem? (i := 6) rfl)) (hw _ (List.mem_of_getElem? (i := 5) rfl)) e0 (g := (mkF m 20 #[.val (.int p0), .val (.int p1), .val (.int p2), .val (.int p3), .val (.int p4), .val (.int p5), .val (.int p6), .val (.int p7)] [])) rfl (hb hby d_rm_make_20) (by decide) (by decide)
      obtain ⟨b116, g116⟩ : ∃ z, z = h0.size := ⟨_, rfl⟩
      rw [← g116] at A116 D116 st116
      have pq117 : ∀ τ, Steps pP.tables e below (T116.setTop (mkF m 23 #[.val (.int p0), .val (.int p1), .val (.int p2), .val (.int p3), .val (.int p4), .val (.int p5), .val (.int p6), .val (.int p7)] [(.ref b116)])) τ → Steps pP.tables e below A0 τ := by
        intro τ κ
        refine pq114 τ ?_
        refine XS.icmpNo X0.here hx rfl (hb hby d_rm_make_17) rfl (teq hc17_115).2 ?_
        refine st116 _ ?_
        exact κ
      have KC116 : Keep h0 h116 [] := KC0.ext E116
      have CH116 := CHv.ext E116 CH0
      have CR116 := CHr.trans CR0 (CHr.ext E116 CH0)
      have SK116 := Nat.le_trans SK0 E116.1
      have Sf116 := Safe.ext (x := b116) E116 CH0 (Safe.new (Nat.le_of_eq g116.symm))
      have F_value_b116 : Fld Z h116 b116 "java/lang/String" "value" "[B" .null := D116 (Or.inr (hw _ (List.mem_of_getElem? (i := 8) rfl))) (ty := (.array .byte)) (by decide)
      have F_coder_b116 : Fld Z h116 b116 "java/lang/String" "coder" "B" (.int (0 : Int32)) := D116 (Or.inr (hw _ (List.mem_of_getElem? (i := 9) rfl))) (ty := .byte) (by decide)
      obtain ⟨T118, h118, k118, X118, e118, E118, A118, st118⟩ := newP X116 hx hZ (hw _ (List.mem_of_getElem? (i := 54) rfl)) e116 (g := (mkF m 25 #[.val (.int p0), .val (.int p1), .val (.int p2), .val (.int p3), .val (.int p4), .val (.int p5), .val (.int p6), .val (.int p7)] [(.int (1 : Int32)), (.ref b116), (.ref b116)])) rfl (hb hby d_rm_make_25) rfl (by decide) (cap := 1) (by decide) (by decide) (by decide) (by decide)
      obtain ⟨b118, g118⟩ : ∃ z, z = h116.size := ⟨_, rfl⟩
      rw [← g118] at A118 st118
      have pq119 : ∀ τ, Steps pP.tables e below (T118.setTop (mkF m 27 #[.val (.int p0), .val (.int p1), .val (.int p2), .val (.int p3), .val (.int p4), .val (.int p5), .val (.int p6), .val (.int p7)] [(.ref b118), (.ref b116), (.ref b116)])) τ → Steps pP.tables e below A0 τ := by
        intro τ κ
        refine pq117 τ ?_
        refine XS.dup X116.here hx rfl (hb hby d_rm_make_23) rfl rfl ?_
        refine XS.iconst X116.here hx rfl (hb hby d_rm_make_24) ?_
        refine st118 _ ?_
        exact κ
      have KC118 : Keep h0 h118 [] := KC116.ext E118
      have CH118 := CHv.ext E118 CH116
      have CR118 := CHr.trans CR116 (CHr.ext E118 CH116)
      have SK118 := Nat.le_trans SK116 E118.1
      have V118 : Arv Z h118 b118 k118 .char (1 : Int32) [(.int (0 : Int32))] (.int (0 : Int32)) := (Arv.new A118 (by decide)).pad (pad_rep [] (.int (0 : Int32)) 1)
      have Sf118 := Safe.ext (x := b118) E118 CH116 (Safe.new (Nat.le_of_eq g118.symm))
      obtain ⟨cl120, Ar120, q120, S120, M120, Hs120, G120⟩ := id V118
      obtain ⟨T120, h120, X120, e120, W120, st120⟩ := stC X118 hx hZ e118 Ar120 (j := (0 : Int32)) (inb_of S120 ⟨by decide, by decide⟩) (g := (mkF m 30 #[.val (.int p0), .val (.int p1), .val (.int p2), .val (.int p3), .val (.int p4), .val (.int p5), .val (.int p6), .val (.int p7)] [(.int p1), (.int (0 : Int32)), (.ref b118), (.ref b118), (.ref b116), (.ref b116)])) rfl rfl (hb hby d_rm_make_30)
      have pq121 : ∀ τ, Steps pP.tables e below (T120.setTop (mkF m 31 #[.val (.int p0), .val (.int p1), .val (.int p2), .val (.int p3), .val (.int p4), .val (.int p5), .val (.int p6), .val (.int p7)] [(.ref b118), (.ref b116), (.ref b116)])) τ → Steps pP.tables e below A0 τ := by
        intro τ κ
        refine pq119 τ ?_
        refine XS.dup X118.here hx rfl (hb hby d_rm_make_27) rfl rfl ?_
        refine XS.iconst X118.here hx rfl (hb hby d_rm_make_28) ?_
        refine XS.iloadN X118.here hx rfl (hb hby d_rm_make_29) rfl ?_
        refine st120 _ ?_
        exact κ
      have KC120 : Keep h0 h120 [] := KC118.wr W120 (Or.inr (Nat.le_trans (Nat.le_trans (Nat.le_refl _) E116.1) (Nat.le_of_eq g118.symm)))
      have CH120 := CHv.wr W120 Sf118 CH118
      have CR120 := CHr.trans CR118 (CHr.wr W120 Sf118 CH118)
      have SK120 := Nat.le_trans SK118 (Keep.of_wr W120).1
      have V120 : Arv Z h120 b118 k118 .char (1 : Int32) [(.int (nar .char p1))] (.int (0 : Int32)) := Arv.set Ar120 q120 S120 M120 Hs120 G120 (fits_nar_char _) W120 0 rfl (Nat.le_of_ble_eq_true rfl)
      have N120 := Fr.snoc X120 N0 (Nat.le_trans (Nat.le_trans Z0 E116.1) (Nat.le_of_eq g118.symm))
      have hp122 : ∀ c ∈ ([(nar .char p1)] : List Int32), ¬ c < 0 ∧ ¬ (255 : Int32) < c := by
        intro c hc
        simp only [List.mem_cons, List.not_mem_nil, or_false] at hc
        rcases hc with rfl
        · exact own_narI _ hp1
      have f123 := (Nat.le_trans (Nat.le_trans (Nat.le_trans Z0 E116.1) E118.1) (Keep.of_wr W120).1)
      have f124 := ((A116.ext E118).wr W120)
      have f125 := ((F_value_b116.ext E118).other W120 (Or.inl (Nat.ne_of_lt (Nat.lt_of_lt_of_le A116.lt (Nat.le_of_eq g118.symm)))))
      have f126 := ((F_coder_b116.ext E118).other W120 (Or.inl (Nat.ne_of_lt (Nat.lt_of_lt_of_le A116.lt (Nat.le_of_eq g118.symm)))))
      have f127 := (((X00.ext E116).ext E118).wr W120 (Nat.le_trans (Nat.le_trans Z0 E116.1) (Nat.le_of_eq g118.symm)))
      have f128 := (Safe.wr W120 Sf118 CH118 (Safe.ext E118 CH116 Sf116))
      obtain ⟨_, _, ⟨T129, L129, k129, n129⟩, -, X129, ⟨Lc129, hQ129, l129, y129, z129⟩, st129⟩ := X120.specialBack hx (y := (⟨"java/lang/String", "<init>", "([C)V"⟩ : MethodName)) rfl hown (mvT hZ (hw _ (List.mem_of_getElem? (i := 55) rfl))) (mvT hZ (hw _ (List.mem_of_getElem? (i := 56) rfl))) (mvT hZ (hw _ (List.mem_of_getElem? (i := 57) rfl))) (by decide) (StrChars.Road.backV (W := 1) hZ hws (kI := 4) (hw _ (List.mem_of_getElem? (i := 6) rfl)) (cs := ([(nar .char p1)] : List Int32)) (bs := (([(nar .char p1)] : List Int32)).map (fun c => c.toInt8.toInt32)) (n := 1) (Nat.le_trans Z0 (Nat.le_of_eq g116.symm)) f123 f124 f125 f126 V120 (O2.ext f127.2) P5 rfl rfl (by decide) (by decide) hp122 rfl (by decide) (by decide)) (g := (mkF m 31 #[.val (.int p0), .val (.int p1), .val (.int p2), .val (.int p3), .val (.int p4), .val (.int p5), .val (.int p6), .val (.int p7)] [(.ref b118), (.ref b116), (.ref b116)])) rfl (by rw [hml]; rfl) (Steps.refl _) (a := b116) (argsL := [(.ref b118)]) (rest := [(.ref b116)]) (lenOf pdo_4 rfl) rfl (by show 2 * 0 + _ ≤ _; exact Nat.le_of_eq rfl) (hb hby d_rm_make_31) (fun _ _ => ⟨rfl, e120, (by decide : 2 + 1 ≤ _), (by decide : 5 + 1 ≤ _)⟩)
      dsimp only [Pt.U, Pt.locs, Pt.cells, Pt.slots] at X129 l129 y129 z129 st129 hQ129
      subst l129 y129 z129
      obtain ⟨rfl, Nq129, K129, Ex129, Fc129, t129, kb129, ta129, tb129, tc129, Fv129, Vt129⟩ := hQ129
      have N129 := Fr.app N120 Nq129
      have pq130 : ∀ τ, Steps pP.tables e below (T129.setTop (mkF m 34 #[.val (.int p0), .val (.int p1), .val (.int p2), .val (.int p3), .val (.int p4), .val (.int p5), .val (.int p6), .val (.int p7)] [(.ref b116)])) τ → Steps pP.tables e below A0 τ := by
        intro τ κ
        refine pq121 τ ?_
        refine st129.trans ?_
        exact κ
      have KC129 : Keep h0 T129.heap [] := KC120.trans K129 (allS (Or.inr (Nat.le_trans (Nat.le_refl _) (Nat.le_of_eq g116.symm))) all0)
      have CH129 := CHv.keep K129 (sfS f128 sf0) CH120
      have CR129 := CHr.trans CR120 (CHr.keep K129 (sfS f128 sf0) CH120)
      have SK129 := Nat.le_trans SK120 K129.1
      have ecs131 : own_cs p0 p1 p2 p3 p4 p5 p6 p7 = [(p1)] := by simp [own_cs, hc1_102, hc17_115]
      have vcs131 := Vt129
      rw [show nar .char (p1) = (p1) from own_narE _ (hp1)] at vcs131
      have SKe := SK129
      obtain ⟨fs, hrE, hrun, hended, hEnd⟩ := X129.leaveW SI0 SKe (v := some (.ref b116)) (fun h => by rw [Bd.returns] at h; cases h)
      have CHe := CHr.trans CR129 (CHv.at X129 hZ hEW CH129)
      have pqE := pq130
      rw [hA0] at pqE
      refine ⟨_, _, pqE _ ?_, hrun, hended, _, _, rfl, ?_, ?_, hEnd.1, hEnd.2.1, hEnd.2.2.1, hEnd.2.2.2.mono (by decide) (by decide)⟩
      · show Steps pP.tables e below (T129.setTop (mkF m 34 #[.val (.int p0), .val (.int p1), .val (.int p2), .val (.int p3), .val (.int p4), .val (.int p5), .val (.int p6), .val (.int p7)] [(.ref b116)])) _
        exact retOut X129 hx Bd.returns rfl (Or.inr (Or.inr (Or.inr (Or.inr ⟨rfl, rfl, rfl⟩)))) (hb hby d_rm_make_34) hrE
      · show Q_rm_make Z p0 p1 p2 p3 p4 p5 p6 p7 h0 n0 _ T129.heap _
        exact ⟨b116, t129, _, rfl, N129, KC129, Ex129, Fc129, Fv129, by rw [ecs131]; exact vcs131⟩
      · show CHr Z consts_1 s.vm s.heap T129.vm T129.heap
        rw [hh]; exact CHe
    · skip
      have pq132 : ∀ τ, Steps pP.tables e below (s₁.setTop (mkF m 37 #[.val (.int p0), .val (.int p1), .val (.int p2), .val (.int p3), .val (.int p4), .val (.int p5), .val (.int p6), .val (.int p7)] [(.int (2 : Int32)), (.int p0)])) τ → Steps pP.tables e below A0 τ := by
        intro τ κ
        refine pq114 τ ?_
        refine XS.icmpYes X0.here hx rfl (pc0 := 17) (pc' := 35) rfl (hb hby d_rm_make_17) rfl (feq hc17_115).2 (by decide) (by decide) ?_
        refine XS.iloadN X0.here hx rfl (hb hby d_rm_make_35) rfl ?_
        refine XS.iconst X0.here hx rfl (hb hby d_rm_make_36) ?_
        exact κ
      by_cases hc37_133 : p0 = (2 : Int32)
      · skip
        obtain ⟨T134, h134, X134, e134, E134, A134, D134, -, st134⟩ := newO X0 hx hZ hown (hw _ (List.mem_of_getElem? (i := 53) rfl)) (hw _ (List.mem_of_getElem? (i := 6) rfl)) (hw _ (List.mem_of_getElem? (i := 5) rfl)) e0 (g := (mkF m 40 #[.val (.int p0), .val (.int p1), .val (.int p2), .val (.int p3), .val (.int p4), .val (.int p5), .val (.int p6), .val (.int p7)] [])) rfl (hb hby d_rm_make_40) (by decide) (by decide)
        obtain ⟨b134, g134⟩ : ∃ z, z = h0.size := ⟨_, rfl⟩
        rw [← g134] at A134 D134 st134
        have pq135 : ∀ τ, Steps pP.tables e below (T134.setTop (mkF m 43 #[.val (.int p0), .val (.int p1), .val (.int p2), .val (.int p3), .val (.int p4), .val (.int p5), .val (.int p6), .val (.int p7)] [(.ref b134)])) τ → Steps pP.tables e below A0 τ := by
          intro τ κ
          refine pq132 τ ?_
          refine XS.icmpNo X0.here hx rfl (hb hby d_rm_make_37) rfl (teq hc37_133).2 ?_
          refine st134 _ ?_
          exact κ
        have KC134 : Keep h0 h134 [] := KC0.ext E134
        have CH134 := CHv.ext E134 CH0
        have CR134 := CHr.trans CR0 (CHr.ext E134 CH0)
        have SK134 := Nat.le_trans SK0 E134.1
        have Sf134 := Safe.ext (x := b134) E134 CH0 (Safe.new (Nat.le_of_eq g134.symm))
        have F_value_b134 : Fld Z h134 b134 "java/lang/String" "value" "[B" .null := D134 (Or.inr (hw _ (List.mem_of_getElem? (i := 8) rfl))) (ty := (.array .byte)) (by decide)
        have F_coder_b134 : Fld Z h134 b134 "java/lang/String" "coder" "B" (.int (0 : Int32)) := D134 (Or.inr (hw _ (List.mem_of_getElem? (i := 9) rfl))) (ty := .byte) (by decide)
        obtain ⟨T136, h136, k136, X136, e136, E136, A136, st136⟩ := newP X134 hx hZ (hw _ (List.mem_of_getElem? (i := 54) rfl)) e134 (g := (mkF m 45 #[.val (.int p0), .val (.int p1), .val (.int p2), .val (.int p3), .val (.int p4), .val (.int p5), .val (.int p6), .val (.int p7)] [(.int (2 : Int32)), (.ref b134), (.ref b134)])) rfl (hb hby d_rm_make_45) rfl (by decide) (cap := 2) (by decide) (by decide) (by decide) (by decide)
        obtain ⟨b136, g136⟩ : ∃ z, z = h134.size := ⟨_, rfl⟩
        rw [← g136] at A136 st136
        have pq137 : ∀ τ, Steps pP.tables e below (T136.setTop (mkF m 47 #[.val (.int p0), .val (.int p1), .val (.int p2), .val (.int p3), .val (.int p4), .val (.int p5), .val (.int p6), .val (.int p7)] [(.ref b136), (.ref b134), (.ref b134)])) τ → Steps pP.tables e below A0 τ := by
          intro τ κ
          refine pq135 τ ?_
          refine XS.dup X134.here hx rfl (hb hby d_rm_make_43) rfl rfl ?_
          refine XS.iconst X134.here hx rfl (hb hby d_rm_make_44) ?_
          refine st136 _ ?_
          exact κ
        have KC136 : Keep h0 h136 [] := KC134.ext E136
        have CH136 := CHv.ext E136 CH134
        have CR136 := CHr.trans CR134 (CHr.ext E136 CH134)
        have SK136 := Nat.le_trans SK134 E136.1
        have V136 : Arv Z h136 b136 k136 .char (2 : Int32) [(.int (0 : Int32)), (.int (0 : Int32))] (.int (0 : Int32)) := (Arv.new A136 (by decide)).pad (pad_rep [] (.int (0 : Int32)) 2)
        have Sf136 := Safe.ext (x := b136) E136 CH134 (Safe.new (Nat.le_of_eq g136.symm))
        obtain ⟨cl138, Ar138, q138, S138, M138, Hs138, G138⟩ := id V136
        obtain ⟨T138, h138, X138, e138, W138, st138⟩ := stC X136 hx hZ e136 Ar138 (j := (0 : Int32)) (inb_of S138 ⟨by decide, by decide⟩) (g := (mkF m 50 #[.val (.int p0), .val (.int p1), .val (.int p2), .val (.int p3), .val (.int p4), .val (.int p5), .val (.int p6), .val (.int p7)] [(.int p1), (.int (0 : Int32)), (.ref b136), (.ref b136), (.ref b134), (.ref b134)])) rfl rfl (hb hby d_rm_make_50)
        have pq139 : ∀ τ, Steps pP.tables e below (T138.setTop (mkF m 51 #[.val (.int p0), .val (.int p1), .val (.int p2), .val (.int p3), .val (.int p4), .val (.int p5), .val (.int p6), .val (.int p7)] [(.ref b136), (.ref b134), (.ref b134)])) τ → Steps pP.tables e below A0 τ := by
          intro τ κ
          refine pq137 τ ?_
          refine XS.dup X136.here hx rfl (hb hby d_rm_make_47) rfl rfl ?_
          refine XS.iconst X136.here hx rfl (hb hby d_rm_make_48) ?_
          refine XS.iloadN X136.here hx rfl (hb hby d_rm_make_49) rfl ?_
          refine st138 _ ?_
          exact κ
        have KC138 : Keep h0 h138 [] := KC136.wr W138 (Or.inr (Nat.le_trans (Nat.le_trans (Nat.le_refl _) E134.1) (Nat.le_of_eq g136.symm)))
        have CH138 := CHv.wr W138 Sf136 CH136
        have CR138 := CHr.trans CR136 (CHr.wr W138 Sf136 CH136)
        have SK138 := Nat.le_trans SK136 (Keep.of_wr W138).1
        have V138 : Arv Z h138 b136 k136 .char (2 : Int32) [(.int (nar .char p1)), (.int (0 : Int32))] (.int (0 : Int32)) := Arv.set Ar138 q138 S138 M138 Hs138 G138 (fits_nar_char _) W138 0 rfl (Nat.le_of_ble_eq_true rfl)
        have N138 := Fr.snoc X138 N0 (Nat.le_trans (Nat.le_trans Z0 E134.1) (Nat.le_of_eq g136.symm))
        have f141 := (Safe.wr W138 Sf136 CH136 Sf136)
        obtain ⟨cl140, Ar140, q140, S140, M140, Hs140, G140⟩ := id V138
        obtain ⟨T140, h140, X140, e140, W140, st140⟩ := stC X138 hx hZ e138 Ar140 (j := (1 : Int32)) (inb_of S140 ⟨by decide, by decide⟩) (g := (mkF m 54 #[.val (.int p0), .val (.int p1), .val (.int p2), .val (.int p3), .val (.int p4), .val (.int p5), .val (.int p6), .val (.int p7)] [(.int p2), (.int (1 : Int32)), (.ref b136), (.ref b136), (.ref b134), (.ref b134)])) rfl rfl (hb hby d_rm_make_54)
        have pq142 : ∀ τ, Steps pP.tables e below (T140.setTop (mkF m 55 #[.val (.int p0), .val (.int p1), .val (.int p2), .val (.int p3), .val (.int p4), .val (.int p5), .val (.int p6), .val (.int p7)] [(.ref b136), (.ref b134), (.ref b134)])) τ → Steps pP.tables e below A0 τ := by
          intro τ κ
          refine pq139 τ ?_
          refine XS.dup X138.here hx rfl (hb hby d_rm_make_51) rfl rfl ?_
          refine XS.iconst X138.here hx rfl (hb hby d_rm_make_52) ?_
          refine XS.iloadN X138.here hx rfl (hb hby d_rm_make_53) rfl ?_
          refine st140 _ ?_
          exact κ
        have KC140 : Keep h0 h140 [] := KC138.wr W140 (Or.inr (Nat.le_trans (Nat.le_trans (Nat.le_refl _) E134.1) (Nat.le_of_eq g136.symm)))
        have CH140 := CHv.wr W140 f141 CH138
        have CR140 := CHr.trans CR138 (CHr.wr W140 f141 CH138)
        have SK140 := Nat.le_trans SK138 (Keep.of_wr W140).1
        have V140 : Arv Z h140 b136 k136 .char (2 : Int32) [(.int (nar .char p1)), (.int (nar .char p2))] (.int (0 : Int32)) := Arv.set Ar140 q140 S140 M140 Hs140 G140 (fits_nar_char _) W140 1 rfl (Nat.le_of_ble_eq_true rfl)
        have N140 := Fr.snoc X140 N138 (Nat.le_trans (Nat.le_trans Z0 E134.1) (Nat.le_of_eq g136.symm))
        have hp143 : ∀ c ∈ ([(nar .char p1), (nar .char p2)] : List Int32), ¬ c < 0 ∧ ¬ (255 : Int32) < c := by
          intro c hc
          simp only [List.mem_cons, List.not_mem_nil, or_false] at hc
          rcases hc with rfl | rfl
          · exact own_narI _ hp1
          · exact own_narI _ hp2
        have f144 := (Nat.le_trans (Nat.le_trans (Nat.le_trans (Nat.le_trans Z0 E134.1) E136.1) (Keep.of_wr W138).1) (Keep.of_wr W140).1)
        have f145 := (((A134.ext E136).wr W138).wr W140)
        have f146 := (((F_value_b134.ext E136).other W138 (Or.inl (Nat.ne_of_lt (Nat.lt_of_lt_of_le A134.lt (Nat.le_of_eq g136.symm))))).other W140 (Or.inl (Nat.ne_of_lt (Nat.lt_of_lt_of_le A134.lt (Nat.le_of_eq g136.symm)))))
        have f147 := (((F_coder_b134.ext E136).other W138 (Or.inl (Nat.ne_of_lt (Nat.lt_of_lt_of_le A134.lt (Nat.le_of_eq g136.symm))))).other W140 (Or.inl (Nat.ne_of_lt (Nat.lt_of_lt_of_le A134.lt (Nat.le_of_eq g136.symm)))))
        have f148 := ((((X00.ext E134).ext E136).wr W138 (Nat.le_trans (Nat.le_trans Z0 E134.1) (Nat.le_of_eq g136.symm))).wr W140 (Nat.le_trans (Nat.le_trans Z0 E134.1) (Nat.le_of_eq g136.symm)))
        have f149 := (Safe.wr W140 f141 CH138 (Safe.wr W138 Sf136 CH136 (Safe.ext E136 CH134 Sf134)))
        obtain ⟨_, _, ⟨T150, L150, k150, n150⟩, -, X150, ⟨Lc150, hQ150, l150, y150, z150⟩, st150⟩ := X140.specialBack hx (y := (⟨"java/lang/String", "<init>", "([C)V"⟩ : MethodName)) rfl hown (mvT hZ (hw _ (List.mem_of_getElem? (i := 55) rfl))) (mvT hZ (hw _ (List.mem_of_getElem? (i := 56) rfl))) (mvT hZ (hw _ (List.mem_of_getElem? (i := 57) rfl))) (by decide) (StrChars.Road.backV (W := 1) hZ hws (kI := 4) (hw _ (List.mem_of_getElem? (i := 6) rfl)) (cs := ([(nar .char p1), (nar .char p2)] : List Int32)) (bs := (([(nar .char p1), (nar .char p2)] : List Int32)).map (fun c => c.toInt8.toInt32)) (n := 2) (Nat.le_trans Z0 (Nat.le_of_eq g134.symm)) f144 f145 f146 f147 V140 (O2.ext f148.2) P5 rfl rfl (by decide) (by decide) hp143 rfl (by decide) (by decide)) (g := (mkF m 55 #[.val (.int p0), .val (.int p1), .val (.int p2), .val (.int p3), .val (.int p4), .val (.int p5), .val (.int p6), .val (.int p7)] [(.ref b136), (.ref b134), (.ref b134)])) rfl (by rw [hml]; rfl) (Steps.refl _) (a := b134) (argsL := [(.ref b136)]) (rest := [(.ref b134)]) (lenOf pdo_4 rfl) rfl (by show 2 * 0 + _ ≤ _; exact Nat.le_of_eq rfl) (hb hby d_rm_make_55) (fun _ _ => ⟨rfl, e140, (by decide : 2 + 1 ≤ _), (by decide : 6 + 2 ≤ _)⟩)
        dsimp only [Pt.U, Pt.locs, Pt.cells, Pt.slots] at X150 l150 y150 z150 st150 hQ150
        subst l150 y150 z150
        obtain ⟨rfl, Nq150, K150, Ex150, Fc150, t150, kb150, ta150, tb150, tc150, Fv150, Vt150⟩ := hQ150
        have N150 := Fr.app N140 Nq150
        have pq151 : ∀ τ, Steps pP.tables e below (T150.setTop (mkF m 58 #[.val (.int p0), .val (.int p1), .val (.int p2), .val (.int p3), .val (.int p4), .val (.int p5), .val (.int p6), .val (.int p7)] [(.ref b134)])) τ → Steps pP.tables e below A0 τ := by
          intro τ κ
          refine pq142 τ ?_
          refine st150.trans ?_
          exact κ
        have KC150 : Keep h0 T150.heap [] := KC140.trans K150 (allS (Or.inr (Nat.le_trans (Nat.le_refl _) (Nat.le_of_eq g134.symm))) all0)
        have CH150 := CHv.keep K150 (sfS f149 sf0) CH140
        have CR150 := CHr.trans CR140 (CHr.keep K150 (sfS f149 sf0) CH140)
        have SK150 := Nat.le_trans SK140 K150.1
        have ecs152 : own_cs p0 p1 p2 p3 p4 p5 p6 p7 = [(p1), (p2)] := by simp [own_cs, hc1_102, hc17_115, hc37_133]
        have vcs152 := Vt150
        rw [show nar .char (p1) = (p1) from own_narE _ (hp1)] at vcs152
        rw [show nar .char (p2) = (p2) from own_narE _ (hp2)] at vcs152
        have SKe := SK150
        obtain ⟨fs, hrE, hrun, hended, hEnd⟩ := X150.leaveW SI0 SKe (v := some (.ref b134)) (fun h => by rw [Bd.returns] at h; cases h)
        have CHe := CHr.trans CR150 (CHv.at X150 hZ hEW CH150)
        have pqE := pq151
        rw [hA0] at pqE
        refine ⟨_, _, pqE _ ?_, hrun, hended, _, _, rfl, ?_, ?_, hEnd.1, hEnd.2.1, hEnd.2.2.1, hEnd.2.2.2.mono (by decide) (by decide)⟩
        · show Steps pP.tables e below (T150.setTop (mkF m 58 #[.val (.int p0), .val (.int p1), .val (.int p2), .val (.int p3), .val (.int p4), .val (.int p5), .val (.int p6), .val (.int p7)] [(.ref b134)])) _
          exact retOut X150 hx Bd.returns rfl (Or.inr (Or.inr (Or.inr (Or.inr ⟨rfl, rfl, rfl⟩)))) (hb hby d_rm_make_58) hrE
        · show Q_rm_make Z p0 p1 p2 p3 p4 p5 p6 p7 h0 n0 _ T150.heap _
          exact ⟨b134, t150, _, rfl, N150, KC150, Ex150, Fc150, Fv150, by rw [ecs152]; exact vcs152⟩
        · show CHr Z consts_1 s.vm s.heap T150.vm T150.heap
          rw [hh]; exact CHe
      · skip
        have pq153 : ∀ τ, Steps pP.tables e below (s₁.setTop (mkF m 61 #[.val (.int p0), .val (.int p1), .val (.int p2), .val (.int p3), .val (.int p4), .val (.int p5), .val (.int p6), .val (.int p7)] [(.int (3 : Int32)), (.int p0)])) τ → Steps pP.tables e below A0 τ := by
          intro τ κ
          refine pq132 τ ?_
          refine XS.icmpYes X0.here hx rfl (pc0 := 37) (pc' := 59) rfl (hb hby d_rm_make_37) rfl (feq hc37_133).2 (by decide) (by decide) ?_
          refine XS.iloadN X0.here hx rfl (hb hby d_rm_make_59) rfl ?_
          refine XS.iconst X0.here hx rfl (hb hby d_rm_make_60) ?_
          exact κ
        by_cases hc61_154 : p0 = (3 : Int32)
        · skip
          obtain ⟨T155, h155, X155, e155, E155, A155, D155, -, st155⟩ := newO X0 hx hZ hown (hw _ (List.mem_of_getElem? (i := 53) rfl)) (hw _ (List.mem_of_getElem? (i := 6) rfl)) (hw _ (List.mem_of_getElem? (i := 5) rfl)) e0 (g := (mkF m 64 #[.val (.int p0), .val (.int p1), .val (.int p2), .val (.int p3), .val (.int p4), .val (.int p5), .val (.int p6), .val (.int p7)] [])) rfl (hb hby d_rm_make_64) (by decide) (by decide)
          obtain ⟨b155, g155⟩ : ∃ z, z = h0.size := ⟨_, rfl⟩
          rw [← g155] at A155 D155 st155
          have pq156 : ∀ τ, Steps pP.tables e below (T155.setTop (mkF m 67 #[.val (.int p0), .val (.int p1), .val (.int p2), .val (.int p3), .val (.int p4), .val (.int p5), .val (.int p6), .val (.int p7)] [(.ref b155)])) τ → Steps pP.tables e below A0 τ := by
            intro τ κ
            refine pq153 τ ?_
            refine XS.icmpNo X0.here hx rfl (hb hby d_rm_make_61) rfl (teq hc61_154).2 ?_
            refine st155 _ ?_
            exact κ
          have KC155 : Keep h0 h155 [] := KC0.ext E155
          have CH155 := CHv.ext E155 CH0
          have CR155 := CHr.trans CR0 (CHr.ext E155 CH0)
          have SK155 := Nat.le_trans SK0 E155.1
          have Sf155 := Safe.ext (x := b155) E155 CH0 (Safe.new (Nat.le_of_eq g155.symm))
          have F_value_b155 : Fld Z h155 b155 "java/lang/String" "value" "[B" .null := D155 (Or.inr (hw _ (List.mem_of_getElem? (i := 8) rfl))) (ty := (.array .byte)) (by decide)
          have F_coder_b155 : Fld Z h155 b155 "java/lang/String" "coder" "B" (.int (0 : Int32)) := D155 (Or.inr (hw _ (List.mem_of_getElem? (i := 9) rfl))) (ty := .byte) (by decide)
          obtain ⟨T157, h157, k157, X157, e157, E157, A157, st157⟩ := newP X155 hx hZ (hw _ (List.mem_of_getElem? (i := 54) rfl)) e155 (g := (mkF m 69 #[.val (.int p0), .val (.int p1), .val (.int p2), .val (.int p3), .val (.int p4), .val (.int p5), .val (.int p6), .val (.int p7)] [(.int (3 : Int32)), (.ref b155), (.ref b155)])) rfl (hb hby d_rm_make_69) rfl (by decide) (cap := 3) (by decide) (by decide) (by decide) (by decide)
          obtain ⟨b157, g157⟩ : ∃ z, z = h155.size := ⟨_, rfl⟩
          rw [← g157] at A157 st157
          have pq158 : ∀ τ, Steps pP.tables e below (T157.setTop (mkF m 71 #[.val (.int p0), .val (.int p1), .val (.int p2), .val (.int p3), .val (.int p4), .val (.int p5), .val (.int p6), .val (.int p7)] [(.ref b157), (.ref b155), (.ref b155)])) τ → Steps pP.tables e below A0 τ := by
            intro τ κ
            refine pq156 τ ?_
            refine XS.dup X155.here hx rfl (hb hby d_rm_make_67) rfl rfl ?_
            refine XS.iconst X155.here hx rfl (hb hby d_rm_make_68) ?_
            refine st157 _ ?_
            exact κ
          have KC157 : Keep h0 h157 [] := KC155.ext E157
          have CH157 := CHv.ext E157 CH155
          have CR157 := CHr.trans CR155 (CHr.ext E157 CH155)
          have SK157 := Nat.le_trans SK155 E157.1
          have V157 : Arv Z h157 b157 k157 .char (3 : Int32) [(.int (0 : Int32)), (.int (0 : Int32)), (.int (0 : Int32))] (.int (0 : Int32)) := (Arv.new A157 (by decide)).pad (pad_rep [] (.int (0 : Int32)) 3)
          have Sf157 := Safe.ext (x := b157) E157 CH155 (Safe.new (Nat.le_of_eq g157.symm))
          obtain ⟨cl159, Ar159, q159, S159, M159, Hs159, G159⟩ := id V157
          obtain ⟨T159, h159, X159, e159, W159, st159⟩ := stC X157 hx hZ e157 Ar159 (j := (0 : Int32)) (inb_of S159 ⟨by decide, by decide⟩) (g := (mkF m 74 #[.val (.int p0), .val (.int p1), .val (.int p2), .val (.int p3), .val (.int p4), .val (.int p5), .val (.int p6), .val (.int p7)] [(.int p1), (.int (0 : Int32)), (.ref b157), (.ref b157), (.ref b155), (.ref b155)])) rfl rfl (hb hby d_rm_make_74)
          have pq160 : ∀ τ, Steps pP.tables e below (T159.setTop (mkF m 75 #[.val (.int p0), .val (.int p1), .val (.int p2), .val (.int p3), .val (.int p4), .val (.int p5), .val (.int p6), .val (.int p7)] [(.ref b157), (.ref b155), (.ref b155)])) τ → Steps pP.tables e below A0 τ := by
            intro τ κ
            refine pq158 τ ?_
            refine XS.dup X157.here hx rfl (hb hby d_rm_make_71) rfl rfl ?_
            refine XS.iconst X157.here hx rfl (hb hby d_rm_make_72) ?_
            refine XS.iloadN X157.here hx rfl (hb hby d_rm_make_73) rfl ?_
            refine st159 _ ?_
            exact κ
          have KC159 : Keep h0 h159 [] := KC157.wr W159 (Or.inr (Nat.le_trans (Nat.le_trans (Nat.le_refl _) E155.1) (Nat.le_of_eq g157.symm)))
          have CH159 := CHv.wr W159 Sf157 CH157
          have CR159 := CHr.trans CR157 (CHr.wr W159 Sf157 CH157)
          have SK159 := Nat.le_trans SK157 (Keep.of_wr W159).1
          have V159 : Arv Z h159 b157 k157 .char (3 : Int32) [(.int (nar .char p1)), (.int (0 : Int32)), (.int (0 : Int32))] (.int (0 : Int32)) := Arv.set Ar159 q159 S159 M159 Hs159 G159 (fits_nar_char _) W159 0 rfl (Nat.le_of_ble_eq_true rfl)
          have N159 := Fr.snoc X159 N0 (Nat.le_trans (Nat.le_trans Z0 E155.1) (Nat.le_of_eq g157.symm))
          have f162 := (Safe.wr W159 Sf157 CH157 Sf157)
          obtain ⟨cl161, Ar161, q161, S161, M161, Hs161, G161⟩ := id V159
          obtain ⟨T161, h161, X161, e161, W161, st161⟩ := stC X159 hx hZ e159 Ar161 (j := (1 : Int32)) (inb_of S161 ⟨by decide, by decide⟩) (g := (mkF m 78 #[.val (.int p0), .val (.int p1), .val (.int p2), .val (.int p3), .val (.int p4), .val (.int p5), .val (.int p6), .val (.int p7)] [(.int p2), (.int (1 : Int32)), (.ref b157), (.ref b157), (.ref b155), (.ref b155)])) rfl rfl (hb hby d_rm_make_78)
          have pq163 : ∀ τ, Steps pP.tables e below (T161.setTop (mkF m 79 #[.val (.int p0), .val (.int p1), .val (.int p2), .val (.int p3), .val (.int p4), .val (.int p5), .val (.int p6), .val (.int p7)] [(.ref b157), (.ref b155), (.ref b155)])) τ → Steps pP.tables e below A0 τ := by
            intro τ κ
            refine pq160 τ ?_
            refine XS.dup X159.here hx rfl (hb hby d_rm_make_75) rfl rfl ?_
            refine XS.iconst X159.here hx rfl (hb hby d_rm_make_76) ?_
            refine XS.iloadN X159.here hx rfl (hb hby d_rm_make_77) rfl ?_
            refine st161 _ ?_
            exact κ
          have KC161 : Keep h0 h161 [] := KC159.wr W161 (Or.inr (Nat.le_trans (Nat.le_trans (Nat.le_refl _) E155.1) (Nat.le_of_eq g157.symm)))
          have CH161 := CHv.wr W161 f162 CH159
          have CR161 := CHr.trans CR159 (CHr.wr W161 f162 CH159)
          have SK161 := Nat.le_trans SK159 (Keep.of_wr W161).1
          have V161 : Arv Z h161 b157 k157 .char (3 : Int32) [(.int (nar .char p1)), (.int (nar .char p2)), (.int (0 : Int32))] (.int (0 : Int32)) := Arv.set Ar161 q161 S161 M161 Hs161 G161 (fits_nar_char _) W161 1 rfl (Nat.le_of_ble_eq_true rfl)
          have N161 := Fr.snoc X161 N159 (Nat.le_trans (Nat.le_trans Z0 E155.1) (Nat.le_of_eq g157.symm))
          have f165 := (Safe.wr W161 f162 CH159 f162)
          obtain ⟨cl164, Ar164, q164, S164, M164, Hs164, G164⟩ := id V161
          obtain ⟨T164, h164, X164, e164, W164, st164⟩ := stC X161 hx hZ e161 Ar164 (j := (2 : Int32)) (inb_of S164 ⟨by decide, by decide⟩) (g := (mkF m 82 #[.val (.int p0), .val (.int p1), .val (.int p2), .val (.int p3), .val (.int p4), .val (.int p5), .val (.int p6), .val (.int p7)] [(.int p3), (.int (2 : Int32)), (.ref b157), (.ref b157), (.ref b155), (.ref b155)])) rfl rfl (hb hby d_rm_make_82)
          have pq166 : ∀ τ, Steps pP.tables e below (T164.setTop (mkF m 83 #[.val (.int p0), .val (.int p1), .val (.int p2), .val (.int p3), .val (.int p4), .val (.int p5), .val (.int p6), .val (.int p7)] [(.ref b157), (.ref b155), (.ref b155)])) τ → Steps pP.tables e below A0 τ := by
            intro τ κ
            refine pq163 τ ?_
            refine XS.dup X161.here hx rfl (hb hby d_rm_make_79) rfl rfl ?_
            refine XS.iconst X161.here hx rfl (hb hby d_rm_make_80) ?_
            refine XS.iloadN X161.here hx rfl (hb hby d_rm_make_81) rfl ?_
            refine st164 _ ?_
            exact κ
          have KC164 : Keep h0 h164 [] := KC161.wr W164 (Or.inr (Nat.le_trans (Nat.le_trans (Nat.le_refl _) E155.1) (Nat.le_of_eq g157.symm)))
          have CH164 := CHv.wr W164 f165 CH161
          have CR164 := CHr.trans CR161 (CHr.wr W164 f165 CH161)
          have SK164 := Nat.le_trans SK161 (Keep.of_wr W164).1
          have V164 : Arv Z h164 b157 k157 .char (3 : Int32) [(.int (nar .char p1)), (.int (nar .char p2)), (.int (nar .char p3))] (.int (0 : Int32)) := Arv.set Ar164 q164 S164 M164 Hs164 G164 (fits_nar_char _) W164 2 rfl (Nat.le_of_ble_eq_true rfl)
          have N164 := Fr.snoc X164 N161 (Nat.le_trans (Nat.le_trans Z0 E155.1) (Nat.le_of_eq g157.symm))
          have hp167 : ∀ c ∈ ([(nar .char p1), (nar .char p2), (nar .char p3)] : List Int32), ¬ c < 0 ∧ ¬ (255 : Int32) < c := by
            intro c hc
            simp only [List.mem_cons, List.not_mem_nil, or_false] at hc
            rcases hc with rfl | rfl | rfl
            · exact own_narI _ hp1
            · exact own_narI _ hp2
            · exact own_narI _ hp3
          have f168 := (Nat.le_trans (Nat.le_trans (Nat.le_trans (Nat.le_trans (Nat.le_trans Z0 E155.1) E157.1) (Keep.of_wr W159).1) (Keep.of_wr W161).1) (Keep.of_wr W164).1)
          have f169 := ((((A155.ext E157).wr W159).wr W161).wr W164)
          have f170 := ((((F_value_b155.ext E157).other W159 (Or.inl (Nat.ne_of_lt (Nat.lt_of_lt_of_le A155.lt (Nat.le_of_eq g157.symm))))).other W161 (Or.inl (Nat.ne_of_lt (Nat.lt_of_lt_of_le A155.lt (Nat.le_of_eq g157.symm))))).other W164 (Or.inl (Nat.ne_of_lt (Nat.lt_of_lt_of_le A155.lt (Nat.le_of_eq g157.symm)))))
          have f171 := ((((F_coder_b155.ext E157).other W159 (Or.inl (Nat.ne_of_lt (Nat.lt_of_lt_of_le A155.lt (Nat.le_of_eq g157.symm))))).other W161 (Or.inl (Nat.ne_of_lt (Nat.lt_of_lt_of_le A155.lt (Nat.le_of_eq g157.symm))))).other W164 (Or.inl (Nat.ne_of_lt (Nat.lt_of_lt_of_le A155.lt (Nat.le_of_eq g157.symm)))))
          have f172 := (((((X00.ext E155).ext E157).wr W159 (Nat.le_trans (Nat.le_trans Z0 E155.1) (Nat.le_of_eq g157.symm))).wr W161 (Nat.le_trans (Nat.le_trans Z0 E155.1) (Nat.le_of_eq g157.symm))).wr W164 (Nat.le_trans (Nat.le_trans Z0 E155.1) (Nat.le_of_eq g157.symm)))
          have f173 := (Safe.wr W164 f165 CH161 (Safe.wr W161 f162 CH159 (Safe.wr W159 Sf157 CH157 (Safe.ext E157 CH155 Sf155))))
          obtain ⟨_, _, ⟨T174, L174, k174, n174⟩, -, X174, ⟨Lc174, hQ174, l174, y174, z174⟩, st174⟩ := X164.specialBack hx (y := (⟨"java/lang/String", "<init>", "([C)V"⟩ : MethodName)) rfl hown (mvT hZ (hw _ (List.mem_of_getElem? (i := 55) rfl))) (mvT hZ (hw _ (List.mem_of_getElem? (i := 56) rfl))) (mvT hZ (hw _ (List.mem_of_getElem? (i := 57) rfl))) (by decide) (StrChars.Road.backV (W := 1) hZ hws (kI := 4) (hw _ (List.mem_of_getElem? (i := 6) rfl)) (cs := ([(nar .char p1), (nar .char p2), (nar .char p3)] : List Int32)) (bs := (([(nar .char p1), (nar .char p2), (nar .char p3)] : List Int32)).map (fun c => c.toInt8.toInt32)) (n := 3) (Nat.le_trans Z0 (Nat.le_of_eq g155.symm)) f168 f169 f170 f171 V164 (O2.ext f172.2) P5 rfl rfl (by decide) (by decide) hp167 rfl (by decide) (by decide)) (g := (mkF m 83 #[.val (.int p0), .val (.int p1), .val (.int p2), .val (.int p3), .val (.int p4), .val (.int p5), .val (.int p6), .val (.int p7)] [(.ref b157), (.ref b155), (.ref b155)])) rfl (by rw [hml]; rfl) (Steps.refl _) (a := b155) (argsL := [(.ref b157)]) (rest := [(.ref b155)]) (lenOf pdo_4 rfl) rfl (by show 2 * 0 + _ ≤ _; exact Nat.le_of_eq rfl) (hb hby d_rm_make_83) (fun _ _ => ⟨rfl, e164, (by decide : 2 + 1 ≤ _), (by decide : 7 + 3 ≤ _)⟩)
          dsimp only [Pt.U, Pt.locs, Pt.cells, Pt.slots] at X174 l174 y174 z174 st174 hQ174
          subst l174 y174 z174
          obtain ⟨rfl, Nq174, K174, Ex174, Fc174, t174, kb174, ta174, tb174, tc174, Fv174, Vt174⟩ := hQ174
          have N174 := Fr.app N164 Nq174
          have pq175 : ∀ τ, Steps pP.tables e below (T174.setTop (mkF m 86 #[.val (.int p0), .val (.int p1), .val (.int p2), .val (.int p3), .val (.int p4), .val (.int p5), .val (.int p6), .val (.int p7)] [(.ref b155)])) τ → Steps pP.tables e below A0 τ := by
            intro τ κ
            refine pq166 τ ?_
            refine st174.trans ?_
            exact κ
          have KC174 : Keep h0 T174.heap [] := KC164.trans K174 (allS (Or.inr (Nat.le_trans (Nat.le_refl _) (Nat.le_of_eq g155.symm))) all0)
          have CH174 := CHv.keep K174 (sfS f173 sf0) CH164
          have CR174 := CHr.trans CR164 (CHr.keep K174 (sfS f173 sf0) CH164)
          have SK174 := Nat.le_trans SK164 K174.1
          have ecs176 : own_cs p0 p1 p2 p3 p4 p5 p6 p7 = [(p1), (p2), (p3)] := by simp [own_cs, hc1_102, hc17_115, hc37_133, hc61_154]
          have vcs176 := Vt174
          rw [show nar .char (p1) = (p1) from own_narE _ (hp1)] at vcs176
          rw [show nar .char (p2) = (p2) from own_narE _ (hp2)] at vcs176
          rw [show nar .char (p3) = (p3) from own_narE _ (hp3)] at vcs176
          have SKe := SK174
          obtain ⟨fs, hrE, hrun, hended, hEnd⟩ := X174.leaveW SI0 SKe (v := some (.ref b155)) (fun h => by rw [Bd.returns] at h; cases h)
          have CHe := CHr.trans CR174 (CHv.at X174 hZ hEW CH174)
          have pqE := pq175
          rw [hA0] at pqE
          refine ⟨_, _, pqE _ ?_, hrun, hended, _, _, rfl, ?_, ?_, hEnd.1, hEnd.2.1, hEnd.2.2.1, hEnd.2.2.2.mono (by decide) (by decide)⟩
          · show Steps pP.tables e below (T174.setTop (mkF m 86 #[.val (.int p0), .val (.int p1), .val (.int p2), .val (.int p3), .val (.int p4), .val (.int p5), .val (.int p6), .val (.int p7)] [(.ref b155)])) _
            exact retOut X174 hx Bd.returns rfl (Or.inr (Or.inr (Or.inr (Or.inr ⟨rfl, rfl, rfl⟩)))) (hb hby d_rm_make_86) hrE
          · show Q_rm_make Z p0 p1 p2 p3 p4 p5 p6 p7 h0 n0 _ T174.heap _
            exact ⟨b155, t174, _, rfl, N174, KC174, Ex174, Fc174, Fv174, by rw [ecs176]; exact vcs176⟩
          · show CHr Z consts_1 s.vm s.heap T174.vm T174.heap
            rw [hh]; exact CHe
        · skip
          have pq177 : ∀ τ, Steps pP.tables e below (s₁.setTop (mkF m 89 #[.val (.int p0), .val (.int p1), .val (.int p2), .val (.int p3), .val (.int p4), .val (.int p5), .val (.int p6), .val (.int p7)] [(.int (4 : Int32)), (.int p0)])) τ → Steps pP.tables e below A0 τ := by
            intro τ κ
            refine pq153 τ ?_
            refine XS.icmpYes X0.here hx rfl (pc0 := 61) (pc' := 87) rfl (hb hby d_rm_make_61) rfl (feq hc61_154).2 (by decide) (by decide) ?_
            refine XS.iloadN X0.here hx rfl (hb hby d_rm_make_87) rfl ?_
            refine XS.iconst X0.here hx rfl (hb hby d_rm_make_88) ?_
            exact κ
          by_cases hc89_178 : p0 = (4 : Int32)
          · skip
            obtain ⟨T179, h179, X179, e179, E179, A179, D179, -, st179⟩ := newO X0 hx hZ hown (hw _ (List.mem_of_getElem? (i := 53) rfl)) (hw _ (List.mem_of_getElem? (i := 6) rfl)) (hw _ (List.mem_of_getElem? (i := 5) rfl)) e0 (g := (mkF m 92 #[.val (.int p0), .val (.int p1), .val (.int p2), .val (.int p3), .val (.int p4), .val (.int p5), .val (.int p6), .val (.int p7)] [])) rfl (hb hby d_rm_make_92) (by decide) (by decide)
            obtain ⟨b179, g179⟩ : ∃ z, z = h0.size := ⟨_, rfl⟩
            rw [← g179] at A179 D179 st179
            have pq180 : ∀ τ, Steps pP.tables e below (T179.setTop (mkF m 95 #[.val (.int p0), .val (.int p1), .val (.int p2), .val (.int p3), .val (.int p4), .val (.int p5), .val (.int p6), .val (.int p7)] [(.ref b179)])) τ → Steps pP.tables e below A0 τ := by
              intro τ κ
              refine pq177 τ ?_
              refine XS.icmpNo X0.here hx rfl (hb hby d_rm_make_89) rfl (teq hc89_178).2 ?_
              refine st179 _ ?_
              exact κ
            have KC179 : Keep h0 h179 [] := KC0.ext E179
            have CH179 := CHv.ext E179 CH0
            have CR179 := CHr.trans CR0 (CHr.ext E179 CH0)
            have SK179 := Nat.le_trans SK0 E179.1
            have Sf179 := Safe.ext (x := b179) E179 CH0 (Safe.new (Nat.le_of_eq g179.symm))
            have F_value_b179 : Fld Z h179 b179 "java/lang/String" "value" "[B" .null := D179 (Or.inr (hw _ (List.mem_of_getElem? (i := 8) rfl))) (ty := (.array .byte)) (by decide)
            have F_coder_b179 : Fld Z h179 b179 "java/lang/String" "coder" "B" (.int (0 : Int32)) := D179 (Or.inr (hw _ (List.mem_of_getElem? (i := 9) rfl))) (ty := .byte) (by decide)
            obtain ⟨T181, h181, k181, X181, e181, E181, A181, st181⟩ := newP X179 hx hZ (hw _ (List.mem_of_getElem? (i := 54) rfl)) e179 (g := (mkF m 97 #[.val (.int p0), .val (.int p1), .val (.int p2), .val (.int p3), .val (.int p4), .val (.int p5), .val (.int p6), .val (.int p7)] [(.int (4 : Int32)), (.ref b179), (.ref b179)])) rfl (hb hby d_rm_make_97) rfl (by decide) (cap := 4) (by decide) (by decide) (by decide) (by decide)
            obtain ⟨b181, g181⟩ : ∃ z, z = h179.size := ⟨_, rfl⟩
            rw [← g181] at A181 st181
            have pq182 : ∀ τ, Steps pP.tables e below (T181.setTop (mkF m 99 #[.val (.int p0), .val (.int p1), .val (.int p2), .val (.int p3), .val (.int p4), .val (.int p5), .val (.int p6), .val (.int p7)] [(.ref b181), (.ref b179), (.ref b179)])) τ → Steps pP.tables e below A0 τ := by
              intro τ κ
              refine pq180 τ ?_
              refine XS.dup X179.here hx rfl (hb hby d_rm_make_95) rfl rfl ?_
              refine XS.iconst X179.here hx rfl (hb hby d_rm_make_96) ?_
              refine st181 _ ?_
              exact κ
            have KC181 : Keep h0 h181 [] := KC179.ext E181
            have CH181 := CHv.ext E181 CH179
            have CR181 := CHr.trans CR179 (CHr.ext E181 CH179)
            have SK181 := Nat.le_trans SK179 E181.1
            have V181 : Arv Z h181 b181 k181 .char (4 : Int32) [(.int (0 : Int32)), (.int (0 : Int32)), (.int (0 : Int32)), (.int (0 : Int32))] (.int (0 : Int32)) := (Arv.new A181 (by decide)).pad (pad_rep [] (.int (0 : Int32)) 4)
            have Sf181 := Safe.ext (x := b181) E181 CH179 (Safe.new (Nat.le_of_eq g181.symm))
            obtain ⟨cl183, Ar183, q183, S183, M183, Hs183, G183⟩ := id V181
            obtain ⟨T183, h183, X183, e183, W183, st183⟩ := stC X181 hx hZ e181 Ar183 (j := (0 : Int32)) (inb_of S183 ⟨by decide, by decide⟩) (g := (mkF m 102 #[.val (.int p0), .val (.int p1), .val (.int p2), .val (.int p3), .val (.int p4), .val (.int p5), .val (.int p6), .val (.int p7)] [(.int p1), (.int (0 : Int32)), (.ref b181), (.ref b181), (.ref b179), (.ref b179)])) rfl rfl (hb hby d_rm_make_102)
            have pq184 : ∀ τ, Steps pP.tables e below (T183.setTop (mkF m 103 #[.val (.int p0), .val (.int p1), .val (.int p2), .val (.int p3), .val (.int p4), .val (.int p5), .val (.int p6), .val (.int p7)] [(.ref b181), (.ref b179), (.ref b179)])) τ → Steps pP.tables e below A0 τ := by
              intro τ κ
              refine pq182 τ ?_
              refine XS.dup X181.here hx rfl (hb hby d_rm_make_99) rfl rfl ?_
              refine XS.iconst X181.here hx rfl (hb hby d_rm_make_100) ?_
              refine XS.iloadN X181.here hx rfl (hb hby d_rm_make_101) rfl ?_
              refine st183 _ ?_
              exact κ
            have KC183 : Keep h0 h183 [] := KC181.wr W183 (Or.inr (Nat.le_trans (Nat.le_trans (Nat.le_refl _) E179.1) (Nat.le_of_eq g181.symm)))
            have CH183 := CHv.wr W183 Sf181 CH181
            have CR183 := CHr.trans CR181 (CHr.wr W183 Sf181 CH181)
            have SK183 := Nat.le_trans SK181 (Keep.of_wr W183).1
            have V183 : Arv Z h183 b181 k181 .char (4 : Int32) [(.int (nar .char p1)), (.int (0 : Int32)), (.int (0 : Int32)), (.int (0 : Int32))] (.int (0 : Int32)) := Arv.set Ar183 q183 S183 M183 Hs183 G183 (fits_nar_char _) W183 0 rfl (Nat.le_of_ble_eq_true rfl)
            have N183 := Fr.snoc X183 N0 (Nat.le_trans (Nat.le_trans Z0 E179.1) (Nat.le_of_eq g181.symm))
            have f186 := (Safe.wr W183 Sf181 CH181 Sf181)
            obtain ⟨cl185, Ar185, q185, S185, M185, Hs185, G185⟩ := id V183
            obtain ⟨T185, h185, X185, e185, W185, st185⟩ := stC X183 hx hZ e183 Ar185 (j := (1 : Int32)) (inb_of S185 ⟨by decide, by decide⟩) (g := (mkF m 106 #[.val (.int p0), .val (.int p1), .val (.int p2), .val (.int p3), .val (.int p4), .val (.int p5), .val (.int p6), .val (.int p7)] [(.int p2), (.int (1 : Int32)), (.ref b181), (.ref b181), (.ref b179), (.ref b179)])) rfl rfl (hb hby d_rm_make_106)
            have pq187 : ∀ τ, Steps pP.tables e below (T185.setTop (mkF m 107 #[.val (.int p0), .val (.int p1), .val (.int p2), .val (.int p3), .val (.int p4), .val (.int p5), .val (.int p6), .val (.int p7)] [(.ref b181), (.ref b179), (.ref b179)])) τ → Steps pP.tables e below A0 τ := by
              intro τ κ
              refine pq184 τ ?_
              refine XS.dup X183.here hx rfl (hb hby d_rm_make_103) rfl rfl ?_
              refine XS.iconst X183.here hx rfl (hb hby d_rm_make_104) ?_
              refine XS.iloadN X183.here hx rfl (hb hby d_rm_make_105) rfl ?_
              refine st185 _ ?_
              exact κ
            have KC185 : Keep h0 h185 [] := KC183.wr W185 (Or.inr (Nat.le_trans (Nat.le_trans (Nat.le_refl _) E179.1) (Nat.le_of_eq g181.symm)))
            have CH185 := CHv.wr W185 f186 CH183
            have CR185 := CHr.trans CR183 (CHr.wr W185 f186 CH183)
            have SK185 := Nat.le_trans SK183 (Keep.of_wr W185).1
            have V185 : Arv Z h185 b181 k181 .char (4 : Int32) [(.int (nar .char p1)), (.int (nar .char p2)), (.int (0 : Int32)), (.int (0 : Int32))] (.int (0 : Int32)) := Arv.set Ar185 q185 S185 M185 Hs185 G185 (fits_nar_char _) W185 1 rfl (Nat.le_of_ble_eq_true rfl)
            have N185 := Fr.snoc X185 N183 (Nat.le_trans (Nat.le_trans Z0 E179.1) (Nat.le_of_eq g181.symm))
            have f189 := (Safe.wr W185 f186 CH183 f186)
            obtain ⟨cl188, Ar188, q188, S188, M188, Hs188, G188⟩ := id V185
            obtain ⟨T188, h188, X188, e188, W188, st188⟩ := stC X185 hx hZ e185 Ar188 (j := (2 : Int32)) (inb_of S188 ⟨by decide, by decide⟩) (g := (mkF m 110 #[.val (.int p0), .val (.int p1), .val (.int p2), .val (.int p3), .val (.int p4), .val (.int p5), .val (.int p6), .val (.int p7)] [(.int p3), (.int (2 : Int32)), (.ref b181), (.ref b181), (.ref b179), (.ref b179)])) rfl rfl (hb hby d_rm_make_110)
            have pq190 : ∀ τ, Steps pP.tables e below (T188.setTop (mkF m 111 #[.val (.int p0), .val (.int p1), .val (.int p2), .val (.int p3), .val (.int p4), .val (.int p5), .val (.int p6), .val (.int p7)] [(.ref b181), (.ref b179), (.ref b179)])) τ → Steps pP.tables e below A0 τ := by
              intro τ κ
              refine pq187 τ ?_
              refine XS.dup X185.here hx rfl (hb hby d_rm_make_107) rfl rfl ?_
              refine XS.iconst X185.here hx rfl (hb hby d_rm_make_108) ?_
              refine XS.iloadN X185.here hx rfl (hb hby d_rm_make_109) rfl ?_
              refine st188 _ ?_
              exact κ
            have KC188 : Keep h0 h188 [] := KC185.wr W188 (Or.inr (Nat.le_trans (Nat.le_trans (Nat.le_refl _) E179.1) (Nat.le_of_eq g181.symm)))
            have CH188 := CHv.wr W188 f189 CH185
            have CR188 := CHr.trans CR185 (CHr.wr W188 f189 CH185)
            have SK188 := Nat.le_trans SK185 (Keep.of_wr W188).1
            have V188 : Arv Z h188 b181 k181 .char (4 : Int32) [(.int (nar .char p1)), (.int (nar .char p2)), (.int (nar .char p3)), (.int (0 : Int32))] (.int (0 : Int32)) := Arv.set Ar188 q188 S188 M188 Hs188 G188 (fits_nar_char _) W188 2 rfl (Nat.le_of_ble_eq_true rfl)
            have N188 := Fr.snoc X188 N185 (Nat.le_trans (Nat.le_trans Z0 E179.1) (Nat.le_of_eq g181.symm))
            have f192 := (Safe.wr W188 f189 CH185 f189)
            obtain ⟨cl191, Ar191, q191, S191, M191, Hs191, G191⟩ := id V188
            obtain ⟨T191, h191, X191, e191, W191, st191⟩ := stC X188 hx hZ e188 Ar191 (j := (3 : Int32)) (inb_of S191 ⟨by decide, by decide⟩) (g := (mkF m 115 #[.val (.int p0), .val (.int p1), .val (.int p2), .val (.int p3), .val (.int p4), .val (.int p5), .val (.int p6), .val (.int p7)] [(.int p4), (.int (3 : Int32)), (.ref b181), (.ref b181), (.ref b179), (.ref b179)])) rfl rfl (hb hby d_rm_make_115)
            have pq193 : ∀ τ, Steps pP.tables e below (T191.setTop (mkF m 116 #[.val (.int p0), .val (.int p1), .val (.int p2), .val (.int p3), .val (.int p4), .val (.int p5), .val (.int p6), .val (.int p7)] [(.ref b181), (.ref b179), (.ref b179)])) τ → Steps pP.tables e below A0 τ := by
              intro τ κ
              refine pq190 τ ?_
              refine XS.dup X188.here hx rfl (hb hby d_rm_make_111) rfl rfl ?_
              refine XS.iconst X188.here hx rfl (hb hby d_rm_make_112) ?_
              refine XS.iload X188.here hx rfl (hb hby d_rm_make_113) rfl ?_
              refine st191 _ ?_
              exact κ
            have KC191 : Keep h0 h191 [] := KC188.wr W191 (Or.inr (Nat.le_trans (Nat.le_trans (Nat.le_refl _) E179.1) (Nat.le_of_eq g181.symm)))
            have CH191 := CHv.wr W191 f192 CH188
            have CR191 := CHr.trans CR188 (CHr.wr W191 f192 CH188)
            have SK191 := Nat.le_trans SK188 (Keep.of_wr W191).1
            have V191 : Arv Z h191 b181 k181 .char (4 : Int32) [(.int (nar .char p1)), (.int (nar .char p2)), (.int (nar .char p3)), (.int (nar .char p4))] (.int (0 : Int32)) := Arv.set Ar191 q191 S191 M191 Hs191 G191 (fits_nar_char _) W191 3 rfl (Nat.le_of_ble_eq_true rfl)
            have N191 := Fr.snoc X191 N188 (Nat.le_trans (Nat.le_trans Z0 E179.1) (Nat.le_of_eq g181.symm))
            have hp194 : ∀ c ∈ ([(nar .char p1), (nar .char p2), (nar .char p3), (nar .char p4)] : List Int32), ¬ c < 0 ∧ ¬ (255 : Int32) < c := by
              intro c hc
              simp only [List.mem_cons, List.not_mem_nil, or_false] at hc
              rcases hc with rfl | rfl | rfl | rfl
              · exact own_narI _ hp1
              · exact own_narI _ hp2
              · exact own_narI _ hp3
              · exact own_narI _ hp4
            have f195 := (Nat.le_trans (Nat.le_trans (Nat.le_trans (Nat.le_trans (Nat.le_trans (Nat.le_trans Z0 E179.1) E181.1) (Keep.of_wr W183).1) (Keep.of_wr W185).1) (Keep.of_wr W188).1) (Keep.of_wr W191).1)
            have f196 := (((((A179.ext E181).wr W183).wr W185).wr W188).wr W191)
            have f197 := (((((F_value_b179.ext E181).other W183 (Or.inl (Nat.ne_of_lt (Nat.lt_of_lt_of_le A179.lt (Nat.le_of_eq g181.symm))))).other W185 (Or.inl (Nat.ne_of_lt (Nat.lt_of_lt_of_le A179.lt (Nat.le_of_eq g181.symm))))).other W188 (Or.inl (Nat.ne_of_lt (Nat.lt_of_lt_of_le A179.lt (Nat.le_of_eq g181.symm))))).other W191 (Or.inl (Nat.ne_of_lt (Nat.lt_of_lt_of_le A179.lt (Nat.le_of_eq g181.symm)))))
            have f198 := (((((F_coder_b179.ext E181).other W183 (Or.inl (Nat.ne_of_lt (Nat.lt_of_lt_of_le A179.lt (Nat.le_of_eq g181.symm))))).other W185 (Or.inl (Nat.ne_of_lt (Nat.lt_of_lt_of_le A179.lt (Nat.le_of_eq g181.symm))))).other W188 (Or.inl (Nat.ne_of_lt (Nat.lt_of_lt_of_le A179.lt (Nat.le_of_eq g181.symm))))).other W191 (Or.inl (Nat.ne_of_lt (Nat.lt_of_lt_of_le A179.lt (Nat.le_of_eq g181.symm)))))
            have f199 := ((((((X00.ext E179).ext E181).wr W183 (Nat.le_trans (Nat.le_trans Z0 E179.1) (Nat.le_of_eq g181.symm))).wr W185 (Nat.le_trans (Nat.le_trans Z0 E179.1) (Nat.le_of_eq g181.symm))).wr W188 (Nat.le_trans (Nat.le_trans Z0 E179.1) (Nat.le_of_eq g181.symm))).wr W191 (Nat.le_trans (Nat.le_trans Z0 E179.1) (Nat.le_of_eq g181.symm)))
            have f200 := (Safe.wr W191 f192 CH188 (Safe.wr W188 f189 CH185 (Safe.wr W185 f186 CH183 (Safe.wr W183 Sf181 CH181 (Safe.ext E181 CH179 Sf179)))))
            obtain ⟨_, _, ⟨T201, L201, k201, n201⟩, -, X201, ⟨Lc201, hQ201, l201, y201, z201⟩, st201⟩ := X191.specialBack hx (y := (⟨"java/lang/String", "<init>", "([C)V"⟩ : MethodName)) rfl hown (mvT hZ (hw _ (List.mem_of_getElem? (i := 55) rfl))) (mvT hZ (hw _ (List.mem_of_getElem? (i := 56) rfl))) (mvT hZ (hw _ (List.mem_of_getElem? (i := 57) rfl))) (by decide) (StrChars.Road.backV (W := 1) hZ hws (kI := 4) (hw _ (List.mem_of_getElem? (i := 6) rfl)) (cs := ([(nar .char p1), (nar .char p2), (nar .char p3), (nar .char p4)] : List Int32)) (bs := (([(nar .char p1), (nar .char p2), (nar .char p3), (nar .char p4)] : List Int32)).map (fun c => c.toInt8.toInt32)) (n := 4) (Nat.le_trans Z0 (Nat.le_of_eq g179.symm)) f195 f196 f197 f198 V191 (O2.ext f199.2) P5 rfl rfl (by decide) (by decide) hp194 rfl (by decide) (by decide)) (g := (mkF m 116 #[.val (.int p0), .val (.int p1), .val (.int p2), .val (.int p3), .val (.int p4), .val (.int p5), .val (.int p6), .val (.int p7)] [(.ref b181), (.ref b179), (.ref b179)])) rfl (by rw [hml]; rfl) (Steps.refl _) (a := b179) (argsL := [(.ref b181)]) (rest := [(.ref b179)]) (lenOf pdo_4 rfl) rfl (by show 2 * 0 + _ ≤ _; exact Nat.le_of_eq rfl) (hb hby d_rm_make_116) (fun _ _ => ⟨rfl, e191, (by decide : 2 + 1 ≤ _), (by decide : 8 + 4 ≤ _)⟩)
            dsimp only [Pt.U, Pt.locs, Pt.cells, Pt.slots] at X201 l201 y201 z201 st201 hQ201
            subst l201 y201 z201
            obtain ⟨rfl, Nq201, K201, Ex201, Fc201, t201, kb201, ta201, tb201, tc201, Fv201, Vt201⟩ := hQ201
            have N201 := Fr.app N191 Nq201
            have pq202 : ∀ τ, Steps pP.tables e below (T201.setTop (mkF m 119 #[.val (.int p0), .val (.int p1), .val (.int p2), .val (.int p3), .val (.int p4), .val (.int p5), .val (.int p6), .val (.int p7)] [(.ref b179)])) τ → Steps pP.tables e below A0 τ := by
              intro τ κ
              refine pq193 τ ?_
              refine st201.trans ?_
              exact κ
            have KC201 : Keep h0 T201.heap [] := KC191.trans K201 (allS (Or.inr (Nat.le_trans (Nat.le_refl _) (Nat.le_of_eq g179.symm))) all0)
            have CH201 := CHv.keep K201 (sfS f200 sf0) CH191
            have CR201 := CHr.trans CR191 (CHr.keep K201 (sfS f200 sf0) CH191)
            have SK201 := Nat.le_trans SK191 K201.1
            have ecs203 : own_cs p0 p1 p2 p3 p4 p5 p6 p7 = [(p1), (p2), (p3), (p4)] := by simp [own_cs, hc1_102, hc17_115, hc37_133, hc61_154, hc89_178]
            have vcs203 := Vt201
            rw [show nar .char (p1) = (p1) from own_narE _ (hp1)] at vcs203
            rw [show nar .char (p2) = (p2) from own_narE _ (hp2)] at vcs203
            rw [show nar .char (p3) = (p3) from own_narE _ (hp3)] at vcs203
            rw [show nar .char (p4) = (p4) from own_narE _ (hp4)] at vcs203
            have SKe := SK201
            obtain ⟨fs, hrE, hrun, hended, hEnd⟩ := X201.leaveW SI0 SKe (v := some (.ref b179)) (fun h => by rw [Bd.returns] at h; cases h)
            have CHe := CHr.trans CR201 (CHv.at X201 hZ hEW CH201)
            have pqE := pq202
            rw [hA0] at pqE
            refine ⟨_, _, pqE _ ?_, hrun, hended, _, _, rfl, ?_, ?_, hEnd.1, hEnd.2.1, hEnd.2.2.1, hEnd.2.2.2.mono (by decide) (by decide)⟩
            · show Steps pP.tables e below (T201.setTop (mkF m 119 #[.val (.int p0), .val (.int p1), .val (.int p2), .val (.int p3), .val (.int p4), .val (.int p5), .val (.int p6), .val (.int p7)] [(.ref b179)])) _
              exact retOut X201 hx Bd.returns rfl (Or.inr (Or.inr (Or.inr (Or.inr ⟨rfl, rfl, rfl⟩)))) (hb hby d_rm_make_119) hrE
            · show Q_rm_make Z p0 p1 p2 p3 p4 p5 p6 p7 h0 n0 _ T201.heap _
              exact ⟨b179, t201, _, rfl, N201, KC201, Ex201, Fc201, Fv201, by rw [ecs203]; exact vcs203⟩
            · show CHr Z consts_1 s.vm s.heap T201.vm T201.heap
              rw [hh]; exact CHe
          · skip
            have pq204 : ∀ τ, Steps pP.tables e below (s₁.setTop (mkF m 122 #[.val (.int p0), .val (.int p1), .val (.int p2), .val (.int p3), .val (.int p4), .val (.int p5), .val (.int p6), .val (.int p7)] [(.int (5 : Int32)), (.int p0)])) τ → Steps pP.tables e below A0 τ := by
              intro τ κ
              refine pq177 τ ?_
              refine XS.icmpYes X0.here hx rfl (pc0 := 89) (pc' := 120) rfl (hb hby d_rm_make_89) rfl (feq hc89_178).2 (by decide) (by decide) ?_
              refine XS.iloadN X0.here hx rfl (hb hby d_rm_make_120) rfl ?_
              refine XS.iconst X0.here hx rfl (hb hby d_rm_make_121) ?_
              exact κ
            by_cases hc122_205 : p0 = (5 : Int32)
            · skip
              obtain ⟨T206, h206, X206, e206, E206, A206, D206, -, st206⟩ := newO X0 hx hZ hown (hw _ (List.mem_of_getElem? (i := 53) rfl)) (hw _ (List.mem_of_getElem? (i := 6) rfl)) (hw _ (List.mem_of_getElem? (i := 5) rfl)) e0 (g := (mkF m 125 #[.val (.int p0), .val (.int p1), .val (.int p2), .val (.int p3), .val (.int p4), .val (.int p5), .val (.int p6), .val (.int p7)] [])) rfl (hb hby d_rm_make_125) (by decide) (by decide)
              obtain ⟨b206, g206⟩ : ∃ z, z = h0.size := ⟨_, rfl⟩
              rw [← g206] at A206 D206 st206
              have pq207 : ∀ τ, Steps pP.tables e below (T206.setTop (mkF m 128 #[.val (.int p0), .val (.int p1), .val (.int p2), .val (.int p3), .val (.int p4), .val (.int p5), .val (.int p6), .val (.int p7)] [(.ref b206)])) τ → Steps pP.tables e below A0 τ := by
                intro τ κ
                refine pq204 τ ?_
                refine XS.icmpNo X0.here hx rfl (hb hby d_rm_make_122) rfl (teq hc122_205).2 ?_
                refine st206 _ ?_
                exact κ
              have KC206 : Keep h0 h206 [] := KC0.ext E206
              have CH206 := CHv.ext E206 CH0
              have CR206 := CHr.trans CR0 (CHr.ext E206 CH0)
              have SK206 := Nat.le_trans SK0 E206.1
              have Sf206 := Safe.ext (x := b206) E206 CH0 (Safe.new (Nat.le_of_eq g206.symm))
              have F_value_b206 : Fld Z h206 b206 "java/lang/String" "value" "[B" .null := D206 (Or.inr (hw _ (List.mem_of_getElem? (i := 8) rfl))) (ty := (.array .byte)) (by decide)
              have F_coder_b206 : Fld Z h206 b206 "java/lang/String" "coder" "B" (.int (0 : Int32)) := D206 (Or.inr (hw _ (List.mem_of_getElem? (i := 9) rfl))) (ty := .byte) (by decide)
              obtain ⟨T208, h208, k208, X208, e208, E208, A208, st208⟩ := newP X206 hx hZ (hw _ (List.mem_of_getElem? (i := 54) rfl)) e206 (g := (mkF m 130 #[.val (.int p0), .val (.int p1), .val (.int p2), .val (.int p3), .val (.int p4), .val (.int p5), .val (.int p6), .val (.int p7)] [(.int (5 : Int32)), (.ref b206), (.ref b206)])) rfl (hb hby d_rm_make_130) rfl (by decide) (cap := 5) (by decide) (by decide) (by decide) (by decide)
              obtain ⟨b208, g208⟩ : ∃ z, z = h206.size := ⟨_, rfl⟩
              rw [← g208] at A208 st208
              have pq209 : ∀ τ, Steps pP.tables e below (T208.setTop (mkF m 132 #[.val (.int p0), .val (.int p1), .val (.int p2), .val (.int p3), .val (.int p4), .val (.int p5), .val (.int p6), .val (.int p7)] [(.ref b208), (.ref b206), (.ref b206)])) τ → Steps pP.tables e below A0 τ := by
                intro τ κ
                refine pq207 τ ?_
                refine XS.dup X206.here hx rfl (hb hby d_rm_make_128) rfl rfl ?_
                refine XS.iconst X206.here hx rfl (hb hby d_rm_make_129) ?_
                refine st208 _ ?_
                exact κ
              have KC208 : Keep h0 h208 [] := KC206.ext E208
              have CH208 := CHv.ext E208 CH206
              have CR208 := CHr.trans CR206 (CHr.ext E208 CH206)
              have SK208 := Nat.le_trans SK206 E208.1
              have V208 : Arv Z h208 b208 k208 .char (5 : Int32) [(.int (0 : Int32)), (.int (0 : Int32)), (.int (0 : Int32)), (.int (0 : Int32)), (.int (0 : Int32))] (.int (0 : Int32)) := (Arv.new A208 (by decide)).pad (pad_rep [] (.int (0 : Int32)) 5)
              have Sf208 := Safe.ext (x := b208) E208 CH206 (Safe.new (Nat.le_of_eq g208.symm))
              obtain ⟨cl210, Ar210, q210, S210, M210, Hs210, G210⟩ := id V208
              obtain ⟨T210, h210, X210, e210, W210, st210⟩ := stC X208 hx hZ e208 Ar210 (j := (0 : Int32)) (inb_of S210 ⟨by decide, by decide⟩) (g := (mkF m 135 #[.val (.int p0), .val (.int p1), .val (.int p2), .val (.int p3), .val (.int p4), .val (.int p5), .val (.int p6), .val (.int p7)] [(.int p1), (.int (0 : Int32)), (.ref b208), (.ref b208), (.ref b206), (.ref b206)])) rfl rfl (hb hby d_rm_make_135)
              have pq211 : ∀ τ, Steps pP.tables e below (T210.setTop (mkF m 136 #[.val (.int p0), .val (.int p1), .val (.int p2), .val (.int p3), .val (.int p4), .val (.int p5), .val (.int p6), .val (.int p7)] [(.ref b208), (.ref b206), (.ref b206)])) τ → Steps pP.tables e below A0 τ := by
                intro τ κ
                refine pq209 τ ?_
                refine XS.dup X208.here hx rfl (hb hby d_rm_make_132) rfl rfl ?_
                refine XS.iconst X208.here hx rfl (hb hby d_rm_make_133) ?_
                refine XS.iloadN X208.here hx rfl (hb hby d_rm_make_134) rfl ?_
                refine st210 _ ?_
                exact κ
              have KC210 : Keep h0 h210 [] := KC208.wr W210 (Or.inr (Nat.le_trans (Nat.le_trans (Nat.le_refl _) E206.1) (Nat.le_of_eq g208.symm)))
              have CH210 := CHv.wr W210 Sf208 CH208
              have CR210 := CHr.trans CR208 (CHr.wr W210 Sf208 CH208)
              have SK210 := Nat.le_trans SK208 (Keep.of_wr W210).1
              have V210 : Arv Z h210 b208 k208 .char (5 : Int32) [(.int (nar .char p1)), (.int (0 : Int32)), (.int (0 : Int32)), (.int (0 : Int32)), (.int (0 : Int32))] (.int (0 : Int32)) := Arv.set Ar210 q210 S210 M210 Hs210 G210 (fits_nar_char _) W210 0 rfl (Nat.le_of_ble_eq_true rfl)
              have N210 := Fr.snoc X210 N0 (Nat.le_trans (Nat.le_trans Z0 E206.1) (Nat.le_of_eq g208.symm))
              have f213 := (Safe.wr W210 Sf208 CH208 Sf208)
              obtain ⟨cl212, Ar212, q212, S212, M212, Hs212, G212⟩ := id V210
              obtain ⟨T212, h212, X212, e212, W212, st212⟩ := stC X210 hx hZ e210 Ar212 (j := (1 : Int32)) (inb_of S212 ⟨by decide, by decide⟩) (g := (mkF m 139 #[.val (.int p0), .val (.int p1), .val (.int p2), .val (.int p3), .val (.int p4), .val (.int p5), .val (.int p6), .val (.int p7)] [(.int p2), (.int (1 : Int32)), (.ref b208), (.ref b208), (.ref b206), (.ref b206)])) rfl rfl (hb hby d_rm_make_139)
              have pq214 : ∀ τ, Steps pP.tables e below (T212.setTop (mkF m 140 #[.val (.int p0), .val (.int p1), .val (.int p2), .val (.int p3), .val (.int p4), .val (.int p5), .val (.int p6), .val (.int p7)] [(.ref b208), (.ref b206), (.ref b206)])) τ → Steps pP.tables e below A0 τ := by
                intro τ κ
                refine pq211 τ ?_
                refine XS.dup X210.here hx rfl (hb hby d_rm_make_136) rfl rfl ?_
                refine XS.iconst X210.here hx rfl (hb hby d_rm_make_137) ?_
                refine XS.iloadN X210.here hx rfl (hb hby d_rm_make_138) rfl ?_
                refine st212 _ ?_
                exact κ
              have KC212 : Keep h0 h212 [] := KC210.wr W212 (Or.inr (Nat.le_trans (Nat.le_trans (Nat.le_refl _) E206.1) (Nat.le_of_eq g208.symm)))
              have CH212 := CHv.wr W212 f213 CH210
              have CR212 := CHr.trans CR210 (CHr.wr W212 f213 CH210)
              have SK212 := Nat.le_trans SK210 (Keep.of_wr W212).1
              have V212 : Arv Z h212 b208 k208 .char (5 : Int32) [(.int (nar .char p1)), (.int (nar .char p2)), (.int (0 : Int32)), (.int (0 : Int32)), (.int (0 : Int32))] (.int (0 : Int32)) := Arv.set Ar212 q212 S212 M212 Hs212 G212 (fits_nar_char _) W212 1 rfl (Nat.le_of_ble_eq_true rfl)
              have N212 := Fr.snoc X212 N210 (Nat.le_trans (Nat.le_trans Z0 E206.1) (Nat.le_of_eq g208.symm))
              have f216 := (Safe.wr W212 f213 CH210 f213)
              obtain ⟨cl215, Ar215, q215, S215, M215, Hs215, G215⟩ := id V212
              obtain ⟨T215, h215, X215, e215, W215, st215⟩ := stC X212 hx hZ e212 Ar215 (j := (2 : Int32)) (inb_of S215 ⟨by decide, by decide⟩) (g := (mkF m 143 #[.val (.int p0), .val (.int p1), .val (.int p2), .val (.int p3), .val (.int p4), .val (.int p5), .val (.int p6), .val (.int p7)] [(.int p3), (.int (2 : Int32)), (.ref b208), (.ref b208), (.ref b206), (.ref b206)])) rfl rfl (hb hby d_rm_make_143)
              have pq217 : ∀ τ, Steps pP.tables e below (T215.setTop (mkF m 144 #[.val (.int p0), .val (.int p1), .val (.int p2), .val (.int p3), .val (.int p4), .val (.int p5), .val (.int p6), .val (.int p7)] [(.ref b208), (.ref b206), (.ref b206)])) τ → Steps pP.tables e below A0 τ := by
                intro τ κ
                refine pq214 τ ?_
                refine XS.dup X212.here hx rfl (hb hby d_rm_make_140) rfl rfl ?_
                refine XS.iconst X212.here hx rfl (hb hby d_rm_make_141) ?_
                refine XS.iloadN X212.here hx rfl (hb hby d_rm_make_142) rfl ?_
                refine st215 _ ?_
                exact κ
              have KC215 : Keep h0 h215 [] := KC212.wr W215 (Or.inr (Nat.le_trans (Nat.le_trans (Nat.le_refl _) E206.1) (Nat.le_of_eq g208.symm)))
              have CH215 := CHv.wr W215 f216 CH212
              have CR215 := CHr.trans CR212 (CHr.wr W215 f216 CH212)
              have SK215 := Nat.le_trans SK212 (Keep.of_wr W215).1
              have V215 : Arv Z h215 b208 k208 .char (5 : Int32) [(.int (nar .char p1)), (.int (nar .char p2)), (.int (nar .char p3)), (.int (0 : Int32)), (.int (0 : Int32))] (.int (0 : Int32)) := Arv.set Ar215 q215 S215 M215 Hs215 G215 (fits_nar_char _) W215 2 rfl (Nat.le_of_ble_eq_true rfl)
              have N215 := Fr.snoc X215 N212 (Nat.le_trans (Nat.le_trans Z0 E206.1) (Nat.le_of_eq g208.symm))
              have f219 := (Safe.wr W215 f216 CH212 f216)
              obtain ⟨cl218, Ar218, q218, S218, M218, Hs218, G218⟩ := id V215
              obtain ⟨T218, h218, X218, e218, W218, st218⟩ := stC X215 hx hZ e215 Ar218 (j := (3 : Int32)) (inb_of S218 ⟨by decide, by decide⟩) (g := (mkF m 148 #[.val (.int p0), .val (.int p1), .val (.int p2), .val (.int p3), .val (.int p4), .val (.int p5), .val (.int p6), .val (.int p7)] [(.int p4), (.int (3 : Int32)), (.ref b208), (.ref b208), (.ref b206), (.ref b206)])) rfl rfl (hb hby d_rm_make_148)
              have pq220 : ∀ τ, Steps pP.tables e below (T218.setTop (mkF m 149 #[.val (.int p0), .val (.int p1), .val (.int p2), .val (.int p3), .val (.int p4), .val (.int p5), .val (.int p6), .val (.int p7)] [(.ref b208), (.ref b206), (.ref b206)])) τ → Steps pP.tables e below A0 τ := by
                intro τ κ
                refine pq217 τ ?_
                refine XS.dup X215.here hx rfl (hb hby d_rm_make_144) rfl rfl ?_
                refine XS.iconst X215.here hx rfl (hb hby d_rm_make_145) ?_
                refine XS.iload X215.here hx rfl (hb hby d_rm_make_146) rfl ?_
                refine st218 _ ?_
                exact κ
              have KC218 : Keep h0 h218 [] := KC215.wr W218 (Or.inr (Nat.le_trans (Nat.le_trans (Nat.le_refl _) E206.1) (Nat.le_of_eq g208.symm)))
              have CH218 := CHv.wr W218 f219 CH215
              have CR218 := CHr.trans CR215 (CHr.wr W218 f219 CH215)
              have SK218 := Nat.le_trans SK215 (Keep.of_wr W218).1
              have V218 : Arv Z h218 b208 k208 .char (5 : Int32) [(.int (nar .char p1)), (.int (nar .char p2)), (.int (nar .char p3)), (.int (nar .char p4)), (.int (0 : Int32))] (.int (0 : Int32)) := Arv.set Ar218 q218 S218 M218 Hs218 G218 (fits_nar_char _) W218 3 rfl (Nat.le_of_ble_eq_true rfl)
              have N218 := Fr.snoc X218 N215 (Nat.le_trans (Nat.le_trans Z0 E206.1) (Nat.le_of_eq g208.symm))
              have f222 := (Safe.wr W218 f219 CH215 f219)
              obtain ⟨cl221, Ar221, q221, S221, M221, Hs221, G221⟩ := id V218
              obtain ⟨T221, h221, X221, e221, W221, st221⟩ := stC X218 hx hZ e218 Ar221 (j := (4 : Int32)) (inb_of S221 ⟨by decide, by decide⟩) (g := (mkF m 153 #[.val (.int p0), .val (.int p1), .val (.int p2), .val (.int p3), .val (.int p4), .val (.int p5), .val (.int p6), .val (.int p7)] [(.int p5), (.int (4 : Int32)), (.ref b208), (.ref b208), (.ref b206), (.ref b206)])) rfl rfl (hb hby d_rm_make_153)
              have pq223 : ∀ τ, Steps pP.tables e below (T221.setTop (mkF m 154 #[.val (.int p0), .val (.int p1), .val (.int p2), .val (.int p3), .val (.int p4), .val (.int p5), .val (.int p6), .val (.int p7)] [(.ref b208), (.ref b206), (.ref b206)])) τ → Steps pP.tables e below A0 τ := by
                intro τ κ
                refine pq220 τ ?_
                refine XS.dup X218.here hx rfl (hb hby d_rm_make_149) rfl rfl ?_
                refine XS.iconst X218.here hx rfl (hb hby d_rm_make_150) ?_
                refine XS.iload X218.here hx rfl (hb hby d_rm_make_151) rfl ?_
                refine st221 _ ?_
                exact κ
              have KC221 : Keep h0 h221 [] := KC218.wr W221 (Or.inr (Nat.le_trans (Nat.le_trans (Nat.le_refl _) E206.1) (Nat.le_of_eq g208.symm)))
              have CH221 := CHv.wr W221 f222 CH218
              have CR221 := CHr.trans CR218 (CHr.wr W221 f222 CH218)
              have SK221 := Nat.le_trans SK218 (Keep.of_wr W221).1
              have V221 : Arv Z h221 b208 k208 .char (5 : Int32) [(.int (nar .char p1)), (.int (nar .char p2)), (.int (nar .char p3)), (.int (nar .char p4)), (.int (nar .char p5))] (.int (0 : Int32)) := Arv.set Ar221 q221 S221 M221 Hs221 G221 (fits_nar_char _) W221 4 rfl (Nat.le_of_ble_eq_true rfl)
              have N221 := Fr.snoc X221 N218 (Nat.le_trans (Nat.le_trans Z0 E206.1) (Nat.le_of_eq g208.symm))
              have hp224 : ∀ c ∈ ([(nar .char p1), (nar .char p2), (nar .char p3), (nar .char p4), (nar .char p5)] : List Int32), ¬ c < 0 ∧ ¬ (255 : Int32) < c := by
                intro c hc
                simp only [List.mem_cons, List.not_mem_nil, or_false] at hc
                rcases hc with rfl | rfl | rfl | rfl | rfl
                · exact own_narI _ hp1
                · exact own_narI _ hp2
                · exact own_narI _ hp3
                · exact own_narI _ hp4
                · exact own_narI _ hp5
              have f225 := (Nat.le_trans (Nat.le_trans (Nat.le_trans (Nat.le_trans (Nat.le_trans (Nat.le_trans (Nat.le_trans Z0 E206.1) E208.1) (Keep.of_wr W210).1) (Keep.of_wr W212).1) (Keep.of_wr W215).1) (Keep.of_wr W218).1) (Keep.of_wr W221).1)
              have f226 := ((((((A206.ext E208).wr W210).wr W212).wr W215).wr W218).wr W221)
              have f227 := ((((((F_value_b206.ext E208).other W210 (Or.inl (Nat.ne_of_lt (Nat.lt_of_lt_of_le A206.lt (Nat.le_of_eq g208.symm))))).other W212 (Or.inl (Nat.ne_of_lt (Nat.lt_of_lt_of_le A206.lt (Nat.le_of_eq g208.symm))))).other W215 (Or.inl (Nat.ne_of_lt (Nat.lt_of_lt_of_le A206.lt (Nat.le_of_eq g208.symm))))).other W218 (Or.inl (Nat.ne_of_lt (Nat.lt_of_lt_of_le A206.lt (Nat.le_of_eq g208.symm))))).other W221 (Or.inl (Nat.ne_of_lt (Nat.lt_of_lt_of_le A206.lt (Nat.le_of_eq g208.symm)))))
              have f228 := ((((((F_coder_b206.ext E208).other W210 (Or.inl (Nat.ne_of_lt (Nat.lt_of_lt_of_le A206.lt (Nat.le_of_eq g208.symm))))).other W212 (Or.inl (Nat.ne_of_lt (Nat.lt_of_lt_of_le A206.lt (Nat.le_of_eq g208.symm))))).other W215 (Or.inl (Nat.ne_of_lt (Nat.lt_of_lt_of_le A206.lt (Nat.le_of_eq g208.symm))))).other W218 (Or.inl (Nat.ne_of_lt (Nat.lt_of_lt_of_le A206.lt (Nat.le_of_eq g208.symm))))).other W221 (Or.inl (Nat.ne_of_lt (Nat.lt_of_lt_of_le A206.lt (Nat.le_of_eq g208.symm)))))
              have f229 := (((((((X00.ext E206).ext E208).wr W210 (Nat.le_trans (Nat.le_trans Z0 E206.1) (Nat.le_of_eq g208.symm))).wr W212 (Nat.le_trans (Nat.le_trans Z0 E206.1) (Nat.le_of_eq g208.symm))).wr W215 (Nat.le_trans (Nat.le_trans Z0 E206.1) (Nat.le_of_eq g208.symm))).wr W218 (Nat.le_trans (Nat.le_trans Z0 E206.1) (Nat.le_of_eq g208.symm))).wr W221 (Nat.le_trans (Nat.le_trans Z0 E206.1) (Nat.le_of_eq g208.symm)))
              have f230 := (Safe.wr W221 f222 CH218 (Safe.wr W218 f219 CH215 (Safe.wr W215 f216 CH212 (Safe.wr W212 f213 CH210 (Safe.wr W210 Sf208 CH208 (Safe.ext E208 CH206 Sf206))))))
              obtain ⟨_, _, ⟨T231, L231, k231, n231⟩, -, X231, ⟨Lc231, hQ231, l231, y231, z231⟩, st231⟩ := X221.specialBack hx (y := (⟨"java/lang/String", "<init>", "([C)V"⟩ : MethodName)) rfl hown (mvT hZ (hw _ (List.mem_of_getElem? (i := 55) rfl))) (mvT hZ (hw _ (List.mem_of_getElem? (i := 56) rfl))) (mvT hZ (hw _ (List.mem_of_getElem? (i := 57) rfl))) (by decide) (StrChars.Road.backV (W := 1) hZ hws (kI := 4) (hw _ (List.mem_of_getElem? (i := 6) rfl)) (cs := ([(nar .char p1), (nar .char p2), (nar .char p3), (nar .char p4), (nar .char p5)] : List Int32)) (bs := (([(nar .char p1), (nar .char p2), (nar .char p3), (nar .char p4), (nar .char p5)] : List Int32)).map (fun c => c.toInt8.toInt32)) (n := 5) (Nat.le_trans Z0 (Nat.le_of_eq g206.symm)) f225 f226 f227 f228 V221 (O2.ext f229.2) P5 rfl rfl (by decide) (by decide) hp224 rfl (by decide) (by decide)) (g := (mkF m 154 #[.val (.int p0), .val (.int p1), .val (.int p2), .val (.int p3), .val (.int p4), .val (.int p5), .val (.int p6), .val (.int p7)] [(.ref b208), (.ref b206), (.ref b206)])) rfl (by rw [hml]; rfl) (Steps.refl _) (a := b206) (argsL := [(.ref b208)]) (rest := [(.ref b206)]) (lenOf pdo_4 rfl) rfl (by show 2 * 0 + _ ≤ _; exact Nat.le_of_eq rfl) (hb hby d_rm_make_154) (fun _ _ => ⟨rfl, e221, (by decide : 2 + 1 ≤ _), (by decide : 9 + 5 ≤ _)⟩)
              dsimp only [Pt.U, Pt.locs, Pt.cells, Pt.slots] at X231 l231 y231 z231 st231 hQ231
              subst l231 y231 z231
              obtain ⟨rfl, Nq231, K231, Ex231, Fc231, t231, kb231, ta231, tb231, tc231, Fv231, Vt231⟩ := hQ231
              have N231 := Fr.app N221 Nq231
              have pq232 : ∀ τ, Steps pP.tables e below (T231.setTop (mkF m 157 #[.val (.int p0), .val (.int p1), .val (.int p2), .val (.int p3), .val (.int p4), .val (.int p5), .val (.int p6), .val (.int p7)] [(.ref b206)])) τ → Steps pP.tables e below A0 τ := by
                intro τ κ
                refine pq223 τ ?_
                refine st231.trans ?_
                exact κ
              have KC231 : Keep h0 T231.heap [] := KC221.trans K231 (allS (Or.inr (Nat.le_trans (Nat.le_refl _) (Nat.le_of_eq g206.symm))) all0)
              have CH231 := CHv.keep K231 (sfS f230 sf0) CH221
              have CR231 := CHr.trans CR221 (CHr.keep K231 (sfS f230 sf0) CH221)
              have SK231 := Nat.le_trans SK221 K231.1
              have ecs233 : own_cs p0 p1 p2 p3 p4 p5 p6 p7 = [(p1), (p2), (p3), (p4), (p5)] := by simp [own_cs, hc1_102, hc17_115, hc37_133, hc61_154, hc89_178, hc122_205]
              have vcs233 := Vt231
              rw [show nar .char (p1) = (p1) from own_narE _ (hp1)] at vcs233
              rw [show nar .char (p2) = (p2) from own_narE _ (hp2)] at vcs233
              rw [show nar .char (p3) = (p3) from own_narE _ (hp3)] at vcs233
              rw [show nar .char (p4) = (p4) from own_narE _ (hp4)] at vcs233
              rw [show nar .char (p5) = (p5) from own_narE _ (hp5)] at vcs233
              have SKe := SK231
              obtain ⟨fs, hrE, hrun, hended, hEnd⟩ := X231.leaveW SI0 SKe (v := some (.ref b206)) (fun h => by rw [Bd.returns] at h; cases h)
              have CHe := CHr.trans CR231 (CHv.at X231 hZ hEW CH231)
              have pqE := pq232
              rw [hA0] at pqE
              refine ⟨_, _, pqE _ ?_, hrun, hended, _, _, rfl, ?_, ?_, hEnd.1, hEnd.2.1, hEnd.2.2.1, hEnd.2.2.2.mono (by decide) (by decide)⟩
              · show Steps pP.tables e below (T231.setTop (mkF m 157 #[.val (.int p0), .val (.int p1), .val (.int p2), .val (.int p3), .val (.int p4), .val (.int p5), .val (.int p6), .val (.int p7)] [(.ref b206)])) _
                exact retOut X231 hx Bd.returns rfl (Or.inr (Or.inr (Or.inr (Or.inr ⟨rfl, rfl, rfl⟩)))) (hb hby d_rm_make_157) hrE
              · show Q_rm_make Z p0 p1 p2 p3 p4 p5 p6 p7 h0 n0 _ T231.heap _
                exact ⟨b206, t231, _, rfl, N231, KC231, Ex231, Fc231, Fv231, by rw [ecs233]; exact vcs233⟩
              · show CHr Z consts_1 s.vm s.heap T231.vm T231.heap
                rw [hh]; exact CHe
            · skip
              have pq234 : ∀ τ, Steps pP.tables e below (s₁.setTop (mkF m 161 #[.val (.int p0), .val (.int p1), .val (.int p2), .val (.int p3), .val (.int p4), .val (.int p5), .val (.int p6), .val (.int p7)] [(.int (6 : Int32)), (.int p0)])) τ → Steps pP.tables e below A0 τ := by
                intro τ κ
                refine pq204 τ ?_
                refine XS.icmpYes X0.here hx rfl (pc0 := 122) (pc' := 158) rfl (hb hby d_rm_make_122) rfl (feq hc122_205).2 (by decide) (by decide) ?_
                refine XS.iloadN X0.here hx rfl (hb hby d_rm_make_158) rfl ?_
                refine XS.bipush X0.here hx rfl (hb hby d_rm_make_159) ?_
                exact κ
              by_cases hc161_235 : p0 = (6 : Int32)
              · skip
                obtain ⟨T236, h236, X236, e236, E236, A236, D236, -, st236⟩ := newO X0 hx hZ hown (hw _ (List.mem_of_getElem? (i := 53) rfl)) (hw _ (List.mem_of_getElem? (i := 6) rfl)) (hw _ (List.mem_of_getElem? (i := 5) rfl)) e0 (g := (mkF m 164 #[.val (.int p0), .val (.int p1), .val (.int p2), .val (.int p3), .val (.int p4), .val (.int p5), .val (.int p6), .val (.int p7)] [])) rfl (hb hby d_rm_make_164) (by decide) (by decide)
                obtain ⟨b236, g236⟩ : ∃ z, z = h0.size := ⟨_, rfl⟩
                rw [← g236] at A236 D236 st236
                have pq237 : ∀ τ, Steps pP.tables e below (T236.setTop (mkF m 167 #[.val (.int p0), .val (.int p1), .val (.int p2), .val (.int p3), .val (.int p4), .val (.int p5), .val (.int p6), .val (.int p7)] [(.ref b236)])) τ → Steps pP.tables e below A0 τ := by
                  intro τ κ
                  refine pq234 τ ?_
                  refine XS.icmpNo X0.here hx rfl (hb hby d_rm_make_161) rfl (teq hc161_235).2 ?_
                  refine st236 _ ?_
                  exact κ
                have KC236 : Keep h0 h236 [] := KC0.ext E236
                have CH236 := CHv.ext E236 CH0
                have CR236 := CHr.trans CR0 (CHr.ext E236 CH0)
                have SK236 := Nat.le_trans SK0 E236.1
                have Sf236 := Safe.ext (x := b236) E236 CH0 (Safe.new (Nat.le_of_eq g236.symm))
                have F_value_b236 : Fld Z h236 b236 "java/lang/String" "value" "[B" .null := D236 (Or.inr (hw _ (List.mem_of_getElem? (i := 8) rfl))) (ty := (.array .byte)) (by decide)
                have F_coder_b236 : Fld Z h236 b236 "java/lang/String" "coder" "B" (.int (0 : Int32)) := D236 (Or.inr (hw _ (List.mem_of_getElem? (i := 9) rfl))) (ty := .byte) (by decide)
                obtain ⟨T238, h238, k238, X238, e238, E238, A238, st238⟩ := newP X236 hx hZ (hw _ (List.mem_of_getElem? (i := 54) rfl)) e236 (g := (mkF m 170 #[.val (.int p0), .val (.int p1), .val (.int p2), .val (.int p3), .val (.int p4), .val (.int p5), .val (.int p6), .val (.int p7)] [(.int (6 : Int32)), (.ref b236), (.ref b236)])) rfl (hb hby d_rm_make_170) rfl (by decide) (cap := 6) (by decide) (by decide) (by decide) (by decide)
                obtain ⟨b238, g238⟩ : ∃ z, z = h236.size := ⟨_, rfl⟩
                rw [← g238] at A238 st238
                have pq239 : ∀ τ, Steps pP.tables e below (T238.setTop (mkF m 172 #[.val (.int p0), .val (.int p1), .val (.int p2), .val (.int p3), .val (.int p4), .val (.int p5), .val (.int p6), .val (.int p7)] [(.ref b238), (.ref b236), (.ref b236)])) τ → Steps pP.tables e below A0 τ := by
                  intro τ κ
                  refine pq237 τ ?_
                  refine XS.dup X236.here hx rfl (hb hby d_rm_make_167) rfl rfl ?_
                  refine XS.bipush X236.here hx rfl (hb hby d_rm_make_168) ?_
                  refine st238 _ ?_
                  exact κ
                have KC238 : Keep h0 h238 [] := KC236.ext E238
                have CH238 := CHv.ext E238 CH236
                have CR238 := CHr.trans CR236 (CHr.ext E238 CH236)
                have SK238 := Nat.le_trans SK236 E238.1
                have V238 : Arv Z h238 b238 k238 .char (6 : Int32) [(.int (0 : Int32)), (.int (0 : Int32)), (.int (0 : Int32)), (.int (0 : Int32)), (.int (0 : Int32)), (.int (0 : Int32))] (.int (0 : Int32)) := (Arv.new A238 (by decide)).pad (pad_rep [] (.int (0 : Int32)) 6)
                have Sf238 := Safe.ext (x := b238) E238 CH236 (Safe.new (Nat.le_of_eq g238.symm))
                obtain ⟨cl240, Ar240, q240, S240, M240, Hs240, G240⟩ := id V238
                obtain ⟨T240, h240, X240, e240, W240, st240⟩ := stC X238 hx hZ e238 Ar240 (j := (0 : Int32)) (inb_of S240 ⟨by decide, by decide⟩) (g := (mkF m 175 #[.val (.int p0), .val (.int p1), .val (.int p2), .val (.int p3), .val (.int p4), .val (.int p5), .val (.int p6), .val (.int p7)] [(.int p1), (.int (0 : Int32)), (.ref b238), (.ref b238), (.ref b236), (.ref b236)])) rfl rfl (hb hby d_rm_make_175)
                have pq241 : ∀ τ, Steps pP.tables e below (T240.setTop (mkF m 176 #[.val (.int p0), .val (.int p1), .val (.int p2), .val (.int p3), .val (.int p4), .val (.int p5), .val (.int p6), .val (.int p7)] [(.ref b238), (.ref b236), (.ref b236)])) τ → Steps pP.tables e below A0 τ := by
                  intro τ κ
                  refine pq239 τ ?_
                  refine XS.dup X238.here hx rfl (hb hby d_rm_make_172) rfl rfl ?_
                  refine XS.iconst X238.here hx rfl (hb hby d_rm_make_173) ?_
                  refine XS.iloadN X238.here hx rfl (hb hby d_rm_make_174) rfl ?_
                  refine st240 _ ?_
                  exact κ
                have KC240 : Keep h0 h240 [] := KC238.wr W240 (Or.inr (Nat.le_trans (Nat.le_trans (Nat.le_refl _) E236.1) (Nat.le_of_eq g238.symm)))
                have CH240 := CHv.wr W240 Sf238 CH238
                have CR240 := CHr.trans CR238 (CHr.wr W240 Sf238 CH238)
                have SK240 := Nat.le_trans SK238 (Keep.of_wr W240).1
                have V240 : Arv Z h240 b238 k238 .char (6 : Int32) [(.int (nar .char p1)), (.int (0 : Int32)), (.int (0 : Int32)), (.int (0 : Int32)), (.int (0 : Int32)), (.int (0 : Int32))] (.int (0 : Int32)) := Arv.set Ar240 q240 S240 M240 Hs240 G240 (fits_nar_char _) W240 0 rfl (Nat.le_of_ble_eq_true rfl)
                have N240 := Fr.snoc X240 N0 (Nat.le_trans (Nat.le_trans Z0 E236.1) (Nat.le_of_eq g238.symm))
                have f243 := (Safe.wr W240 Sf238 CH238 Sf238)
                obtain ⟨cl242, Ar242, q242, S242, M242, Hs242, G242⟩ := id V240
                obtain ⟨T242, h242, X242, e242, W242, st242⟩ := stC X240 hx hZ e240 Ar242 (j := (1 : Int32)) (inb_of S242 ⟨by decide, by decide⟩) (g := (mkF m 179 #[.val (.int p0), .val (.int p1), .val (.int p2), .val (.int p3), .val (.int p4), .val (.int p5), .val (.int p6), .val (.int p7)] [(.int p2), (.int (1 : Int32)), (.ref b238), (.ref b238), (.ref b236), (.ref b236)])) rfl rfl (hb hby d_rm_make_179)
                have pq244 : ∀ τ, Steps pP.tables e below (T242.setTop (mkF m 180 #[.val (.int p0), .val (.int p1), .val (.int p2), .val (.int p3), .val (.int p4), .val (.int p5), .val (.int p6), .val (.int p7)] [(.ref b238), (.ref b236), (.ref b236)])) τ → Steps pP.tables e below A0 τ := by
                  intro τ κ
                  refine pq241 τ ?_
                  refine XS.dup X240.here hx rfl (hb hby d_rm_make_176) rfl rfl ?_
                  refine XS.iconst X240.here hx rfl (hb hby d_rm_make_177) ?_
                  refine XS.iloadN X240.here hx rfl (hb hby d_rm_make_178) rfl ?_
                  refine st242 _ ?_
                  exact κ
                have KC242 : Keep h0 h242 [] := KC240.wr W242 (Or.inr (Nat.le_trans (Nat.le_trans (Nat.le_refl _) E236.1) (Nat.le_of_eq g238.symm)))
                have CH242 := CHv.wr W242 f243 CH240
                have CR242 := CHr.trans CR240 (CHr.wr W242 f243 CH240)
                have SK242 := Nat.le_trans SK240 (Keep.of_wr W242).1
                have V242 : Arv Z h242 b238 k238 .char (6 : Int32) [(.int (nar .char p1)), (.int (nar .char p2)), (.int (0 : Int32)), (.int (0 : Int32)), (.int (0 : Int32)), (.int (0 : Int32))] (.int (0 : Int32)) := Arv.set Ar242 q242 S242 M242 Hs242 G242 (fits_nar_char _) W242 1 rfl (Nat.le_of_ble_eq_true rfl)
                have N242 := Fr.snoc X242 N240 (Nat.le_trans (Nat.le_trans Z0 E236.1) (Nat.le_of_eq g238.symm))
                have f246 := (Safe.wr W242 f243 CH240 f243)
                obtain ⟨cl245, Ar245, q245, S245, M245, Hs245, G245⟩ := id V242
                obtain ⟨T245, h245, X245, e245, W245, st245⟩ := stC X242 hx hZ e242 Ar245 (j := (2 : Int32)) (inb_of S245 ⟨by decide, by decide⟩) (g := (mkF m 183 #[.val (.int p0), .val (.int p1), .val (.int p2), .val (.int p3), .val (.int p4), .val (.int p5), .val (.int p6), .val (.int p7)] [(.int p3), (.int (2 : Int32)), (.ref b238), (.ref b238), (.ref b236), (.ref b236)])) rfl rfl (hb hby d_rm_make_183)
                have pq247 : ∀ τ, Steps pP.tables e below (T245.setTop (mkF m 184 #[.val (.int p0), .val (.int p1), .val (.int p2), .val (.int p3), .val (.int p4), .val (.int p5), .val (.int p6), .val (.int p7)] [(.ref b238), (.ref b236), (.ref b236)])) τ → Steps pP.tables e below A0 τ := by
                  intro τ κ
                  refine pq244 τ ?_
                  refine XS.dup X242.here hx rfl (hb hby d_rm_make_180) rfl rfl ?_
                  refine XS.iconst X242.here hx rfl (hb hby d_rm_make_181) ?_
                  refine XS.iloadN X242.here hx rfl (hb hby d_rm_make_182) rfl ?_
                  refine st245 _ ?_
                  exact κ
                have KC245 : Keep h0 h245 [] := KC242.wr W245 (Or.inr (Nat.le_trans (Nat.le_trans (Nat.le_refl _) E236.1) (Nat.le_of_eq g238.symm)))
                have CH245 := CHv.wr W245 f246 CH242
                have CR245 := CHr.trans CR242 (CHr.wr W245 f246 CH242)
                have SK245 := Nat.le_trans SK242 (Keep.of_wr W245).1
                have V245 : Arv Z h245 b238 k238 .char (6 : Int32) [(.int (nar .char p1)), (.int (nar .char p2)), (.int (nar .char p3)), (.int (0 : Int32)), (.int (0 : Int32)), (.int (0 : Int32))] (.int (0 : Int32)) := Arv.set Ar245 q245 S245 M245 Hs245 G245 (fits_nar_char _) W245 2 rfl (Nat.le_of_ble_eq_true rfl)
                have N245 := Fr.snoc X245 N242 (Nat.le_trans (Nat.le_trans Z0 E236.1) (Nat.le_of_eq g238.symm))
                have f249 := (Safe.wr W245 f246 CH242 f246)
                obtain ⟨cl248, Ar248, q248, S248, M248, Hs248, G248⟩ := id V245
                obtain ⟨T248, h248, X248, e248, W248, st248⟩ := stC X245 hx hZ e245 Ar248 (j := (3 : Int32)) (inb_of S248 ⟨by decide, by decide⟩) (g := (mkF m 188 #[.val (.int p0), .val (.int p1), .val (.int p2), .val (.int p3), .val (.int p4), .val (.int p5), .val (.int p6), .val (.int p7)] [(.int p4), (.int (3 : Int32)), (.ref b238), (.ref b238), (.ref b236), (.ref b236)])) rfl rfl (hb hby d_rm_make_188)
                have pq250 : ∀ τ, Steps pP.tables e below (T248.setTop (mkF m 189 #[.val (.int p0), .val (.int p1), .val (.int p2), .val (.int p3), .val (.int p4), .val (.int p5), .val (.int p6), .val (.int p7)] [(.ref b238), (.ref b236), (.ref b236)])) τ → Steps pP.tables e below A0 τ := by
                  intro τ κ
                  refine pq247 τ ?_
                  refine XS.dup X245.here hx rfl (hb hby d_rm_make_184) rfl rfl ?_
                  refine XS.iconst X245.here hx rfl (hb hby d_rm_make_185) ?_
                  refine XS.iload X245.here hx rfl (hb hby d_rm_make_186) rfl ?_
                  refine st248 _ ?_
                  exact κ
                have KC248 : Keep h0 h248 [] := KC245.wr W248 (Or.inr (Nat.le_trans (Nat.le_trans (Nat.le_refl _) E236.1) (Nat.le_of_eq g238.symm)))
                have CH248 := CHv.wr W248 f249 CH245
                have CR248 := CHr.trans CR245 (CHr.wr W248 f249 CH245)
                have SK248 := Nat.le_trans SK245 (Keep.of_wr W248).1
                have V248 : Arv Z h248 b238 k238 .char (6 : Int32) [(.int (nar .char p1)), (.int (nar .char p2)), (.int (nar .char p3)), (.int (nar .char p4)), (.int (0 : Int32)), (.int (0 : Int32))] (.int (0 : Int32)) := Arv.set Ar248 q248 S248 M248 Hs248 G248 (fits_nar_char _) W248 3 rfl (Nat.le_of_ble_eq_true rfl)
                have N248 := Fr.snoc X248 N245 (Nat.le_trans (Nat.le_trans Z0 E236.1) (Nat.le_of_eq g238.symm))
                have f252 := (Safe.wr W248 f249 CH245 f249)
                obtain ⟨cl251, Ar251, q251, S251, M251, Hs251, G251⟩ := id V248
                obtain ⟨T251, h251, X251, e251, W251, st251⟩ := stC X248 hx hZ e248 Ar251 (j := (4 : Int32)) (inb_of S251 ⟨by decide, by decide⟩) (g := (mkF m 193 #[.val (.int p0), .val (.int p1), .val (.int p2), .val (.int p3), .val (.int p4), .val (.int p5), .val (.int p6), .val (.int p7)] [(.int p5), (.int (4 : Int32)), (.ref b238), (.ref b238), (.ref b236), (.ref b236)])) rfl rfl (hb hby d_rm_make_193)
                have pq253 : ∀ τ, Steps pP.tables e below (T251.setTop (mkF m 194 #[.val (.int p0), .val (.int p1), .val (.int p2), .val (.int p3), .val (.int p4), .val (.int p5), .val (.int p6), .val (.int p7)] [(.ref b238), (.ref b236), (.ref b236)])) τ → Steps pP.tables e below A0 τ := by
                  intro τ κ
                  refine pq250 τ ?_
                  refine XS.dup X248.here hx rfl (hb hby d_rm_make_189) rfl rfl ?_
                  refine XS.iconst X248.here hx rfl (hb hby d_rm_make_190) ?_
                  refine XS.iload X248.here hx rfl (hb hby d_rm_make_191) rfl ?_
                  refine st251 _ ?_
                  exact κ
                have KC251 : Keep h0 h251 [] := KC248.wr W251 (Or.inr (Nat.le_trans (Nat.le_trans (Nat.le_refl _) E236.1) (Nat.le_of_eq g238.symm)))
                have CH251 := CHv.wr W251 f252 CH248
                have CR251 := CHr.trans CR248 (CHr.wr W251 f252 CH248)
                have SK251 := Nat.le_trans SK248 (Keep.of_wr W251).1
                have V251 : Arv Z h251 b238 k238 .char (6 : Int32) [(.int (nar .char p1)), (.int (nar .char p2)), (.int (nar .char p3)), (.int (nar .char p4)), (.int (nar .char p5)), (.int (0 : Int32))] (.int (0 : Int32)) := Arv.set Ar251 q251 S251 M251 Hs251 G251 (fits_nar_char _) W251 4 rfl (Nat.le_of_ble_eq_true rfl)
                have N251 := Fr.snoc X251 N248 (Nat.le_trans (Nat.le_trans Z0 E236.1) (Nat.le_of_eq g238.symm))
                have f255 := (Safe.wr W251 f252 CH248 f252)
                obtain ⟨cl254, Ar254, q254, S254, M254, Hs254, G254⟩ := id V251
                obtain ⟨T254, h254, X254, e254, W254, st254⟩ := stC X251 hx hZ e251 Ar254 (j := (5 : Int32)) (inb_of S254 ⟨by decide, by decide⟩) (g := (mkF m 198 #[.val (.int p0), .val (.int p1), .val (.int p2), .val (.int p3), .val (.int p4), .val (.int p5), .val (.int p6), .val (.int p7)] [(.int p6), (.int (5 : Int32)), (.ref b238), (.ref b238), (.ref b236), (.ref b236)])) rfl rfl (hb hby d_rm_make_198)
                have pq256 : ∀ τ, Steps pP.tables e below (T254.setTop (mkF m 199 #[.val (.int p0), .val (.int p1), .val (.int p2), .val (.int p3), .val (.int p4), .val (.int p5), .val (.int p6), .val (.int p7)] [(.ref b238), (.ref b236), (.ref b236)])) τ → Steps pP.tables e below A0 τ := by
                  intro τ κ
                  refine pq253 τ ?_
                  refine XS.dup X251.here hx rfl (hb hby d_rm_make_194) rfl rfl ?_
                  refine XS.iconst X251.here hx rfl (hb hby d_rm_make_195) ?_
                  refine XS.iload X251.here hx rfl (hb hby d_rm_make_196) rfl ?_
                  refine st254 _ ?_
                  exact κ
                have KC254 : Keep h0 h254 [] := KC251.wr W254 (Or.inr (Nat.le_trans (Nat.le_trans (Nat.le_refl _) E236.1) (Nat.le_of_eq g238.symm)))
                have CH254 := CHv.wr W254 f255 CH251
                have CR254 := CHr.trans CR251 (CHr.wr W254 f255 CH251)
                have SK254 := Nat.le_trans SK251 (Keep.of_wr W254).1
                have V254 : Arv Z h254 b238 k238 .char (6 : Int32) [(.int (nar .char p1)), (.int (nar .char p2)), (.int (nar .char p3)), (.int (nar .char p4)), (.int (nar .char p5)), (.int (nar .char p6))] (.int (0 : Int32)) := Arv.set Ar254 q254 S254 M254 Hs254 G254 (fits_nar_char _) W254 5 rfl (Nat.le_of_ble_eq_true rfl)
                have N254 := Fr.snoc X254 N251 (Nat.le_trans (Nat.le_trans Z0 E236.1) (Nat.le_of_eq g238.symm))
                have hp257 : ∀ c ∈ ([(nar .char p1), (nar .char p2), (nar .char p3), (nar .char p4), (nar .char p5), (nar .char p6)] : List Int32), ¬ c < 0 ∧ ¬ (255 : Int32) < c := by
                  intro c hc
                  simp only [List.mem_cons, List.not_mem_nil, or_false] at hc
                  rcases hc with rfl | rfl | rfl | rfl | rfl | rfl
                  · exact own_narI _ hp1
                  · exact own_narI _ hp2
                  · exact own_narI _ hp3
                  · exact own_narI _ hp4
                  · exact own_narI _ hp5
                  · exact own_narI _ hp6
                have f258 := (Nat.le_trans (Nat.le_trans (Nat.le_trans (Nat.le_trans (Nat.le_trans (Nat.le_trans (Nat.le_trans (Nat.le_trans Z0 E236.1) E238.1) (Keep.of_wr W240).1) (Keep.of_wr W242).1) (Keep.of_wr W245).1) (Keep.of_wr W248).1) (Keep.of_wr W251).1) (Keep.of_wr W254).1)
                have f259 := (((((((A236.ext E238).wr W240).wr W242).wr W245).wr W248).wr W251).wr W254)
                have f260 := (((((((F_value_b236.ext E238).other W240 (Or.inl (Nat.ne_of_lt (Nat.lt_of_lt_of_le A236.lt (Nat.le_of_eq g238.symm))))).other W242 (Or.inl (Nat.ne_of_lt (Nat.lt_of_lt_of_le A236.lt (Nat.le_of_eq g238.symm))))).other W245 (Or.inl (Nat.ne_of_lt (Nat.lt_of_lt_of_le A236.lt (Nat.le_of_eq g238.symm))))).other W248 (Or.inl (Nat.ne_of_lt (Nat.lt_of_lt_of_le A236.lt (Nat.le_of_eq g238.symm))))).other W251 (Or.inl (Nat.ne_of_lt (Nat.lt_of_lt_of_le A236.lt (Nat.le_of_eq g238.symm))))).other W254 (Or.inl (Nat.ne_of_lt (Nat.lt_of_lt_of_le A236.lt (Nat.le_of_eq g238.symm)))))
                have f261 := (((((((F_coder_b236.ext E238).other W240 (Or.inl (Nat.ne_of_lt (Nat.lt_of_lt_of_le A236.lt (Nat.le_of_eq g238.symm))))).other W242 (Or.inl (Nat.ne_of_lt (Nat.lt_of_lt_of_le A236.lt (Nat.le_of_eq g238.symm))))).other W245 (Or.inl (Nat.ne_of_lt (Nat.lt_of_lt_of_le A236.lt (Nat.le_of_eq g238.symm))))).other W248 (Or.inl (Nat.ne_of_lt (Nat.lt_of_lt_of_le A236.lt (Nat.le_of_eq g238.symm))))).other W251 (Or.inl (Nat.ne_of_lt (Nat.lt_of_lt_of_le A236.lt (Nat.le_of_eq g238.symm))))).other W254 (Or.inl (Nat.ne_of_lt (Nat.lt_of_lt_of_le A236.lt (Nat.le_of_eq g238.symm)))))
                have f262 := ((((((((X00.ext E236).ext E238).wr W240 (Nat.le_trans (Nat.le_trans Z0 E236.1) (Nat.le_of_eq g238.symm))).wr W242 (Nat.le_trans (Nat.le_trans Z0 E236.1) (Nat.le_of_eq g238.symm))).wr W245 (Nat.le_trans (Nat.le_trans Z0 E236.1) (Nat.le_of_eq g238.symm))).wr W248 (Nat.le_trans (Nat.le_trans Z0 E236.1) (Nat.le_of_eq g238.symm))).wr W251 (Nat.le_trans (Nat.le_trans Z0 E236.1) (Nat.le_of_eq g238.symm))).wr W254 (Nat.le_trans (Nat.le_trans Z0 E236.1) (Nat.le_of_eq g238.symm)))
                have f263 := (Safe.wr W254 f255 CH251 (Safe.wr W251 f252 CH248 (Safe.wr W248 f249 CH245 (Safe.wr W245 f246 CH242 (Safe.wr W242 f243 CH240 (Safe.wr W240 Sf238 CH238 (Safe.ext E238 CH236 Sf236)))))))
                obtain ⟨_, _, ⟨T264, L264, k264, n264⟩, -, X264, ⟨Lc264, hQ264, l264, y264, z264⟩, st264⟩ := X254.specialBack hx (y := (⟨"java/lang/String", "<init>", "([C)V"⟩ : MethodName)) rfl hown (mvT hZ (hw _ (List.mem_of_getElem? (i := 55) rfl))) (mvT hZ (hw _ (List.mem_of_getElem? (i := 56) rfl))) (mvT hZ (hw _ (List.mem_of_getElem? (i := 57) rfl))) (by decide) (StrChars.Road.backV (W := 1) hZ hws (kI := 4) (hw _ (List.mem_of_getElem? (i := 6) rfl)) (cs := ([(nar .char p1), (nar .char p2), (nar .char p3), (nar .char p4), (nar .char p5), (nar .char p6)] : List Int32)) (bs := (([(nar .char p1), (nar .char p2), (nar .char p3), (nar .char p4), (nar .char p5), (nar .char p6)] : List Int32)).map (fun c => c.toInt8.toInt32)) (n := 6) (Nat.le_trans Z0 (Nat.le_of_eq g236.symm)) f258 f259 f260 f261 V254 (O2.ext f262.2) P5 rfl rfl (by decide) (by decide) hp257 rfl (by decide) (by decide)) (g := (mkF m 199 #[.val (.int p0), .val (.int p1), .val (.int p2), .val (.int p3), .val (.int p4), .val (.int p5), .val (.int p6), .val (.int p7)] [(.ref b238), (.ref b236), (.ref b236)])) rfl (by rw [hml]; rfl) (Steps.refl _) (a := b236) (argsL := [(.ref b238)]) (rest := [(.ref b236)]) (lenOf pdo_4 rfl) rfl (by show 2 * 0 + _ ≤ _; exact Nat.le_of_eq rfl) (hb hby d_rm_make_199) (fun _ _ => ⟨rfl, e254, (by decide : 2 + 1 ≤ _), (by decide : 10 + 6 ≤ _)⟩)
                dsimp only [Pt.U, Pt.locs, Pt.cells, Pt.slots] at X264 l264 y264 z264 st264 hQ264
                subst l264 y264 z264
                obtain ⟨rfl, Nq264, K264, Ex264, Fc264, t264, kb264, ta264, tb264, tc264, Fv264, Vt264⟩ := hQ264
                have N264 := Fr.app N254 Nq264
                have pq265 : ∀ τ, Steps pP.tables e below (T264.setTop (mkF m 202 #[.val (.int p0), .val (.int p1), .val (.int p2), .val (.int p3), .val (.int p4), .val (.int p5), .val (.int p6), .val (.int p7)] [(.ref b236)])) τ → Steps pP.tables e below A0 τ := by
                  intro τ κ
                  refine pq256 τ ?_
                  refine st264.trans ?_
                  exact κ
                have KC264 : Keep h0 T264.heap [] := KC254.trans K264 (allS (Or.inr (Nat.le_trans (Nat.le_refl _) (Nat.le_of_eq g236.symm))) all0)
                have CH264 := CHv.keep K264 (sfS f263 sf0) CH254
                have CR264 := CHr.trans CR254 (CHr.keep K264 (sfS f263 sf0) CH254)
                have SK264 := Nat.le_trans SK254 K264.1
                have ecs266 : own_cs p0 p1 p2 p3 p4 p5 p6 p7 = [(p1), (p2), (p3), (p4), (p5), (p6)] := by simp [own_cs, hc1_102, hc17_115, hc37_133, hc61_154, hc89_178, hc122_205, hc161_235]
                have vcs266 := Vt264
                rw [show nar .char (p1) = (p1) from own_narE _ (hp1)] at vcs266
                rw [show nar .char (p2) = (p2) from own_narE _ (hp2)] at vcs266
                rw [show nar .char (p3) = (p3) from own_narE _ (hp3)] at vcs266
                rw [show nar .char (p4) = (p4) from own_narE _ (hp4)] at vcs266
                rw [show nar .char (p5) = (p5) from own_narE _ (hp5)] at vcs266
                rw [show nar .char (p6) = (p6) from own_narE _ (hp6)] at vcs266
                have SKe := SK264
                obtain ⟨fs, hrE, hrun, hended, hEnd⟩ := X264.leaveW SI0 SKe (v := some (.ref b236)) (fun h => by rw [Bd.returns] at h; cases h)
                have CHe := CHr.trans CR264 (CHv.at X264 hZ hEW CH264)
                have pqE := pq265
                rw [hA0] at pqE
                refine ⟨_, _, pqE _ ?_, hrun, hended, _, _, rfl, ?_, ?_, hEnd.1, hEnd.2.1, hEnd.2.2.1, hEnd.2.2.2.mono (by decide) (by decide)⟩
                · show Steps pP.tables e below (T264.setTop (mkF m 202 #[.val (.int p0), .val (.int p1), .val (.int p2), .val (.int p3), .val (.int p4), .val (.int p5), .val (.int p6), .val (.int p7)] [(.ref b236)])) _
                  exact retOut X264 hx Bd.returns rfl (Or.inr (Or.inr (Or.inr (Or.inr ⟨rfl, rfl, rfl⟩)))) (hb hby d_rm_make_202) hrE
                · show Q_rm_make Z p0 p1 p2 p3 p4 p5 p6 p7 h0 n0 _ T264.heap _
                  exact ⟨b236, t264, _, rfl, N264, KC264, Ex264, Fc264, Fv264, by rw [ecs266]; exact vcs266⟩
                · show CHr Z consts_1 s.vm s.heap T264.vm T264.heap
                  rw [hh]; exact CHe
              · skip
                obtain ⟨T267, h267, X267, e267, E267, A267, D267, -, st267⟩ := newO X0 hx hZ hown (hw _ (List.mem_of_getElem? (i := 53) rfl)) (hw _ (List.mem_of_getElem? (i := 6) rfl)) (hw _ (List.mem_of_getElem? (i := 5) rfl)) e0 (g := (mkF m 203 #[.val (.int p0), .val (.int p1), .val (.int p2), .val (.int p3), .val (.int p4), .val (.int p5), .val (.int p6), .val (.int p7)] [])) rfl (hb hby d_rm_make_203) (by decide) (by decide)
                obtain ⟨b267, g267⟩ : ∃ z, z = h0.size := ⟨_, rfl⟩
                rw [← g267] at A267 D267 st267
                have pq268 : ∀ τ, Steps pP.tables e below (T267.setTop (mkF m 206 #[.val (.int p0), .val (.int p1), .val (.int p2), .val (.int p3), .val (.int p4), .val (.int p5), .val (.int p6), .val (.int p7)] [(.ref b267)])) τ → Steps pP.tables e below A0 τ := by
                  intro τ κ
                  refine pq234 τ ?_
                  refine XS.icmpYes X0.here hx rfl (pc0 := 161) (pc' := 203) rfl (hb hby d_rm_make_161) rfl (feq hc161_235).2 (by decide) (by decide) ?_
                  refine st267 _ ?_
                  exact κ
                have KC267 : Keep h0 h267 [] := KC0.ext E267
                have CH267 := CHv.ext E267 CH0
                have CR267 := CHr.trans CR0 (CHr.ext E267 CH0)
                have SK267 := Nat.le_trans SK0 E267.1
                have Sf267 := Safe.ext (x := b267) E267 CH0 (Safe.new (Nat.le_of_eq g267.symm))
                have F_value_b267 : Fld Z h267 b267 "java/lang/String" "value" "[B" .null := D267 (Or.inr (hw _ (List.mem_of_getElem? (i := 8) rfl))) (ty := (.array .byte)) (by decide)
                have F_coder_b267 : Fld Z h267 b267 "java/lang/String" "coder" "B" (.int (0 : Int32)) := D267 (Or.inr (hw _ (List.mem_of_getElem? (i := 9) rfl))) (ty := .byte) (by decide)
                obtain ⟨T269, h269, k269, X269, e269, E269, A269, st269⟩ := newP X267 hx hZ (hw _ (List.mem_of_getElem? (i := 54) rfl)) e267 (g := (mkF m 209 #[.val (.int p0), .val (.int p1), .val (.int p2), .val (.int p3), .val (.int p4), .val (.int p5), .val (.int p6), .val (.int p7)] [(.int (7 : Int32)), (.ref b267), (.ref b267)])) rfl (hb hby d_rm_make_209) rfl (by decide) (cap := 7) (by decide) (by decide) (by decide) (by decide)
                obtain ⟨b269, g269⟩ : ∃ z, z = h267.size := ⟨_, rfl⟩
                rw [← g269] at A269 st269
                have pq270 : ∀ τ, Steps pP.tables e below (T269.setTop (mkF m 211 #[.val (.int p0), .val (.int p1), .val (.int p2), .val (.int p3), .val (.int p4), .val (.int p5), .val (.int p6), .val (.int p7)] [(.ref b269), (.ref b267), (.ref b267)])) τ → Steps pP.tables e below A0 τ := by
                  intro τ κ
                  refine pq268 τ ?_
                  refine XS.dup X267.here hx rfl (hb hby d_rm_make_206) rfl rfl ?_
                  refine XS.bipush X267.here hx rfl (hb hby d_rm_make_207) ?_
                  refine st269 _ ?_
                  exact κ
                have KC269 : Keep h0 h269 [] := KC267.ext E269
                have CH269 := CHv.ext E269 CH267
                have CR269 := CHr.trans CR267 (CHr.ext E269 CH267)
                have SK269 := Nat.le_trans SK267 E269.1
                have V269 : Arv Z h269 b269 k269 .char (7 : Int32) [(.int (0 : Int32)), (.int (0 : Int32)), (.int (0 : Int32)), (.int (0 : Int32)), (.int (0 : Int32)), (.int (0 : Int32)), (.int (0 : Int32))] (.int (0 : Int32)) := (Arv.new A269 (by decide)).pad (pad_rep [] (.int (0 : Int32)) 7)
                have Sf269 := Safe.ext (x := b269) E269 CH267 (Safe.new (Nat.le_of_eq g269.symm))
                obtain ⟨cl271, Ar271, q271, S271, M271, Hs271, G271⟩ := id V269
                obtain ⟨T271, h271, X271, e271, W271, st271⟩ := stC X269 hx hZ e269 Ar271 (j := (0 : Int32)) (inb_of S271 ⟨by decide, by decide⟩) (g := (mkF m 214 #[.val (.int p0), .val (.int p1), .val (.int p2), .val (.int p3), .val (.int p4), .val (.int p5), .val (.int p6), .val (.int p7)] [(.int p1), (.int (0 : Int32)), (.ref b269), (.ref b269), (.ref b267), (.ref b267)])) rfl rfl (hb hby d_rm_make_214)
                have pq272 : ∀ τ, Steps pP.tables e below (T271.setTop (mkF m 215 #[.val (.int p0), .val (.int p1), .val (.int p2), .val (.int p3), .val (.int p4), .val (.int p5), .val (.int p6), .val (.int p7)] [(.ref b269), (.ref b267), (.ref b267)])) τ → Steps pP.tables e below A0 τ := by
                  intro τ κ
                  refine pq270 τ ?_
                  refine XS.dup X269.here hx rfl (hb hby d_rm_make_211) rfl rfl ?_
                  refine XS.iconst X269.here hx rfl (hb hby d_rm_make_212) ?_
                  refine XS.iloadN X269.here hx rfl (hb hby d_rm_make_213) rfl ?_
                  refine st271 _ ?_
                  exact κ
                have KC271 : Keep h0 h271 [] := KC269.wr W271 (Or.inr (Nat.le_trans (Nat.le_trans (Nat.le_refl _) E267.1) (Nat.le_of_eq g269.symm)))
                have CH271 := CHv.wr W271 Sf269 CH269
                have CR271 := CHr.trans CR269 (CHr.wr W271 Sf269 CH269)
                have SK271 := Nat.le_trans SK269 (Keep.of_wr W271).1
                have V271 : Arv Z h271 b269 k269 .char (7 : Int32) [(.int (nar .char p1)), (.int (0 : Int32)), (.int (0 : Int32)), (.int (0 : Int32)), (.int (0 : Int32)), (.int (0 : Int32)), (.int (0 : Int32))] (.int (0 : Int32)) := Arv.set Ar271 q271 S271 M271 Hs271 G271 (fits_nar_char _) W271 0 rfl (Nat.le_of_ble_eq_true rfl)
                have N271 := Fr.snoc X271 N0 (Nat.le_trans (Nat.le_trans Z0 E267.1) (Nat.le_of_eq g269.symm))
                have f274 := (Safe.wr W271 Sf269 CH269 Sf269)
                obtain ⟨cl273, Ar273, q273, S273, M273, Hs273, G273⟩ := id V271
                obtain ⟨T273, h273, X273, e273, W273, st273⟩ := stC X271 hx hZ e271 Ar273 (j := (1 : Int32)) (inb_of S273 ⟨by decide, by decide⟩) (g := (mkF m 218 #[.val (.int p0), .val (.int p1), .val (.int p2), .val (.int p3), .val (.int p4), .val (.int p5), .val (.int p6), .val (.int p7)] [(.int p2), (.int (1 : Int32)), (.ref b269), (.ref b269), (.ref b267), (.ref b267)])) rfl rfl (hb hby d_rm_make_218)
                have pq275 : ∀ τ, Steps pP.tables e below (T273.setTop (mkF m 219 #[.val (.int p0), .val (.int p1), .val (.int p2), .val (.int p3), .val (.int p4), .val (.int p5), .val (.int p6), .val (.int p7)] [(.ref b269), (.ref b267), (.ref b267)])) τ → Steps pP.tables e below A0 τ := by
                  intro τ κ
                  refine pq272 τ ?_
                  refine XS.dup X271.here hx rfl (hb hby d_rm_make_215) rfl rfl ?_
                  refine XS.iconst X271.here hx rfl (hb hby d_rm_make_216) ?_
                  refine XS.iloadN X271.here hx rfl (hb hby d_rm_make_217) rfl ?_
                  refine st273 _ ?_
                  exact κ
                have KC273 : Keep h0 h273 [] := KC271.wr W273 (Or.inr (Nat.le_trans (Nat.le_trans (Nat.le_refl _) E267.1) (Nat.le_of_eq g269.symm)))
                have CH273 := CHv.wr W273 f274 CH271
                have CR273 := CHr.trans CR271 (CHr.wr W273 f274 CH271)
                have SK273 := Nat.le_trans SK271 (Keep.of_wr W273).1
                have V273 : Arv Z h273 b269 k269 .char (7 : Int32) [(.int (nar .char p1)), (.int (nar .char p2)), (.int (0 : Int32)), (.int (0 : Int32)), (.int (0 : Int32)), (.int (0 : Int32)), (.int (0 : Int32))] (.int (0 : Int32)) := Arv.set Ar273 q273 S273 M273 Hs273 G273 (fits_nar_char _) W273 1 rfl (Nat.le_of_ble_eq_true rfl)
                have N273 := Fr.snoc X273 N271 (Nat.le_trans (Nat.le_trans Z0 E267.1) (Nat.le_of_eq g269.symm))
                have f277 := (Safe.wr W273 f274 CH271 f274)
                obtain ⟨cl276, Ar276, q276, S276, M276, Hs276, G276⟩ := id V273
                obtain ⟨T276, h276, X276, e276, W276, st276⟩ := stC X273 hx hZ e273 Ar276 (j := (2 : Int32)) (inb_of S276 ⟨by decide, by decide⟩) (g := (mkF m 222 #[.val (.int p0), .val (.int p1), .val (.int p2), .val (.int p3), .val (.int p4), .val (.int p5), .val (.int p6), .val (.int p7)] [(.int p3), (.int (2 : Int32)), (.ref b269), (.ref b269), (.ref b267), (.ref b267)])) rfl rfl (hb hby d_rm_make_222)
                have pq278 : ∀ τ, Steps pP.tables e below (T276.setTop (mkF m 223 #[.val (.int p0), .val (.int p1), .val (.int p2), .val (.int p3), .val (.int p4), .val (.int p5), .val (.int p6), .val (.int p7)] [(.ref b269), (.ref b267), (.ref b267)])) τ → Steps pP.tables e below A0 τ := by
                  intro τ κ
                  refine pq275 τ ?_
                  refine XS.dup X273.here hx rfl (hb hby d_rm_make_219) rfl rfl ?_
                  refine XS.iconst X273.here hx rfl (hb hby d_rm_make_220) ?_
                  refine XS.iloadN X273.here hx rfl (hb hby d_rm_make_221) rfl ?_
                  refine st276 _ ?_
                  exact κ
                have KC276 : Keep h0 h276 [] := KC273.wr W276 (Or.inr (Nat.le_trans (Nat.le_trans (Nat.le_refl _) E267.1) (Nat.le_of_eq g269.symm)))
                have CH276 := CHv.wr W276 f277 CH273
                have CR276 := CHr.trans CR273 (CHr.wr W276 f277 CH273)
                have SK276 := Nat.le_trans SK273 (Keep.of_wr W276).1
                have V276 : Arv Z h276 b269 k269 .char (7 : Int32) [(.int (nar .char p1)), (.int (nar .char p2)), (.int (nar .char p3)), (.int (0 : Int32)), (.int (0 : Int32)), (.int (0 : Int32)), (.int (0 : Int32))] (.int (0 : Int32)) := Arv.set Ar276 q276 S276 M276 Hs276 G276 (fits_nar_char _) W276 2 rfl (Nat.le_of_ble_eq_true rfl)
                have N276 := Fr.snoc X276 N273 (Nat.le_trans (Nat.le_trans Z0 E267.1) (Nat.le_of_eq g269.symm))
                have f280 := (Safe.wr W276 f277 CH273 f277)
                obtain ⟨cl279, Ar279, q279, S279, M279, Hs279, G279⟩ := id V276
                obtain ⟨T279, h279, X279, e279, W279, st279⟩ := stC X276 hx hZ e276 Ar279 (j := (3 : Int32)) (inb_of S279 ⟨by decide, by decide⟩) (g := (mkF m 227 #[.val (.int p0), .val (.int p1), .val (.int p2), .val (.int p3), .val (.int p4), .val (.int p5), .val (.int p6), .val (.int p7)] [(.int p4), (.int (3 : Int32)), (.ref b269), (.ref b269), (.ref b267), (.ref b267)])) rfl rfl (hb hby d_rm_make_227)
                have pq281 : ∀ τ, Steps pP.tables e below (T279.setTop (mkF m 228 #[.val (.int p0), .val (.int p1), .val (.int p2), .val (.int p3), .val (.int p4), .val (.int p5), .val (.int p6), .val (.int p7)] [(.ref b269), (.ref b267), (.ref b267)])) τ → Steps pP.tables e below A0 τ := by
                  intro τ κ
                  refine pq278 τ ?_
                  refine XS.dup X276.here hx rfl (hb hby d_rm_make_223) rfl rfl ?_
                  refine XS.iconst X276.here hx rfl (hb hby d_rm_make_224) ?_
                  refine XS.iload X276.here hx rfl (hb hby d_rm_make_225) rfl ?_
                  refine st279 _ ?_
                  exact κ
                have KC279 : Keep h0 h279 [] := KC276.wr W279 (Or.inr (Nat.le_trans (Nat.le_trans (Nat.le_refl _) E267.1) (Nat.le_of_eq g269.symm)))
                have CH279 := CHv.wr W279 f280 CH276
                have CR279 := CHr.trans CR276 (CHr.wr W279 f280 CH276)
                have SK279 := Nat.le_trans SK276 (Keep.of_wr W279).1
                have V279 : Arv Z h279 b269 k269 .char (7 : Int32) [(.int (nar .char p1)), (.int (nar .char p2)), (.int (nar .char p3)), (.int (nar .char p4)), (.int (0 : Int32)), (.int (0 : Int32)), (.int (0 : Int32))] (.int (0 : Int32)) := Arv.set Ar279 q279 S279 M279 Hs279 G279 (fits_nar_char _) W279 3 rfl (Nat.le_of_ble_eq_true rfl)
                have N279 := Fr.snoc X279 N276 (Nat.le_trans (Nat.le_trans Z0 E267.1) (Nat.le_of_eq g269.symm))
                have f283 := (Safe.wr W279 f280 CH276 f280)
                obtain ⟨cl282, Ar282, q282, S282, M282, Hs282, G282⟩ := id V279
                obtain ⟨T282, h282, X282, e282, W282, st282⟩ := stC X279 hx hZ e279 Ar282 (j := (4 : Int32)) (inb_of S282 ⟨by decide, by decide⟩) (g := (mkF m 232 #[.val (.int p0), .val (.int p1), .val (.int p2), .val (.int p3), .val (.int p4), .val (.int p5), .val (.int p6), .val (.int p7)] [(.int p5), (.int (4 : Int32)), (.ref b269), (.ref b269), (.ref b267), (.ref b267)])) rfl rfl (hb hby d_rm_make_232)
                have pq284 : ∀ τ, Steps pP.tables e below (T282.setTop (mkF m 233 #[.val (.int p0), .val (.int p1), .val (.int p2), .val (.int p3), .val (.int p4), .val (.int p5), .val (.int p6), .val (.int p7)] [(.ref b269), (.ref b267), (.ref b267)])) τ → Steps pP.tables e below A0 τ := by
                  intro τ κ
                  refine pq281 τ ?_
                  refine XS.dup X279.here hx rfl (hb hby d_rm_make_228) rfl rfl ?_
                  refine XS.iconst X279.here hx rfl (hb hby d_rm_make_229) ?_
                  refine XS.iload X279.here hx rfl (hb hby d_rm_make_230) rfl ?_
                  refine st282 _ ?_
                  exact κ
                have KC282 : Keep h0 h282 [] := KC279.wr W282 (Or.inr (Nat.le_trans (Nat.le_trans (Nat.le_refl _) E267.1) (Nat.le_of_eq g269.symm)))
                have CH282 := CHv.wr W282 f283 CH279
                have CR282 := CHr.trans CR279 (CHr.wr W282 f283 CH279)
                have SK282 := Nat.le_trans SK279 (Keep.of_wr W282).1
                have V282 : Arv Z h282 b269 k269 .char (7 : Int32) [(.int (nar .char p1)), (.int (nar .char p2)), (.int (nar .char p3)), (.int (nar .char p4)), (.int (nar .char p5)), (.int (0 : Int32)), (.int (0 : Int32))] (.int (0 : Int32)) := Arv.set Ar282 q282 S282 M282 Hs282 G282 (fits_nar_char _) W282 4 rfl (Nat.le_of_ble_eq_true rfl)
                have N282 := Fr.snoc X282 N279 (Nat.le_trans (Nat.le_trans Z0 E267.1) (Nat.le_of_eq g269.symm))
                have f286 := (Safe.wr W282 f283 CH279 f283)
                obtain ⟨cl285, Ar285, q285, S285, M285, Hs285, G285⟩ := id V282
                obtain ⟨T285, h285, X285, e285, W285, st285⟩ := stC X282 hx hZ e282 Ar285 (j := (5 : Int32)) (inb_of S285 ⟨by decide, by decide⟩) (g := (mkF m 237 #[.val (.int p0), .val (.int p1), .val (.int p2), .val (.int p3), .val (.int p4), .val (.int p5), .val (.int p6), .val (.int p7)] [(.int p6), (.int (5 : Int32)), (.ref b269), (.ref b269), (.ref b267), (.ref b267)])) rfl rfl (hb hby d_rm_make_237)
                have pq287 : ∀ τ, Steps pP.tables e below (T285.setTop (mkF m 238 #[.val (.int p0), .val (.int p1), .val (.int p2), .val (.int p3), .val (.int p4), .val (.int p5), .val (.int p6), .val (.int p7)] [(.ref b269), (.ref b267), (.ref b267)])) τ → Steps pP.tables e below A0 τ := by
                  intro τ κ
                  refine pq284 τ ?_
                  refine XS.dup X282.here hx rfl (hb hby d_rm_make_233) rfl rfl ?_
                  refine XS.iconst X282.here hx rfl (hb hby d_rm_make_234) ?_
                  refine XS.iload X282.here hx rfl (hb hby d_rm_make_235) rfl ?_
                  refine st285 _ ?_
                  exact κ
                have KC285 : Keep h0 h285 [] := KC282.wr W285 (Or.inr (Nat.le_trans (Nat.le_trans (Nat.le_refl _) E267.1) (Nat.le_of_eq g269.symm)))
                have CH285 := CHv.wr W285 f286 CH282
                have CR285 := CHr.trans CR282 (CHr.wr W285 f286 CH282)
                have SK285 := Nat.le_trans SK282 (Keep.of_wr W285).1
                have V285 : Arv Z h285 b269 k269 .char (7 : Int32) [(.int (nar .char p1)), (.int (nar .char p2)), (.int (nar .char p3)), (.int (nar .char p4)), (.int (nar .char p5)), (.int (nar .char p6)), (.int (0 : Int32))] (.int (0 : Int32)) := Arv.set Ar285 q285 S285 M285 Hs285 G285 (fits_nar_char _) W285 5 rfl (Nat.le_of_ble_eq_true rfl)
                have N285 := Fr.snoc X285 N282 (Nat.le_trans (Nat.le_trans Z0 E267.1) (Nat.le_of_eq g269.symm))
                have f289 := (Safe.wr W285 f286 CH282 f286)
                obtain ⟨cl288, Ar288, q288, S288, M288, Hs288, G288⟩ := id V285
                obtain ⟨T288, h288, X288, e288, W288, st288⟩ := stC X285 hx hZ e285 Ar288 (j := (6 : Int32)) (inb_of S288 ⟨by decide, by decide⟩) (g := (mkF m 243 #[.val (.int p0), .val (.int p1), .val (.int p2), .val (.int p3), .val (.int p4), .val (.int p5), .val (.int p6), .val (.int p7)] [(.int p7), (.int (6 : Int32)), (.ref b269), (.ref b269), (.ref b267), (.ref b267)])) rfl rfl (hb hby d_rm_make_243)
                have pq290 : ∀ τ, Steps pP.tables e below (T288.setTop (mkF m 244 #[.val (.int p0), .val (.int p1), .val (.int p2), .val (.int p3), .val (.int p4), .val (.int p5), .val (.int p6), .val (.int p7)] [(.ref b269), (.ref b267), (.ref b267)])) τ → Steps pP.tables e below A0 τ := by
                  intro τ κ
                  refine pq287 τ ?_
                  refine XS.dup X285.here hx rfl (hb hby d_rm_make_238) rfl rfl ?_
                  refine XS.bipush X285.here hx rfl (hb hby d_rm_make_239) ?_
                  refine XS.iload X285.here hx rfl (hb hby d_rm_make_241) rfl ?_
                  refine st288 _ ?_
                  exact κ
                have KC288 : Keep h0 h288 [] := KC285.wr W288 (Or.inr (Nat.le_trans (Nat.le_trans (Nat.le_refl _) E267.1) (Nat.le_of_eq g269.symm)))
                have CH288 := CHv.wr W288 f289 CH285
                have CR288 := CHr.trans CR285 (CHr.wr W288 f289 CH285)
                have SK288 := Nat.le_trans SK285 (Keep.of_wr W288).1
                have V288 : Arv Z h288 b269 k269 .char (7 : Int32) [(.int (nar .char p1)), (.int (nar .char p2)), (.int (nar .char p3)), (.int (nar .char p4)), (.int (nar .char p5)), (.int (nar .char p6)), (.int (nar .char p7))] (.int (0 : Int32)) := Arv.set Ar288 q288 S288 M288 Hs288 G288 (fits_nar_char _) W288 6 rfl (Nat.le_of_ble_eq_true rfl)
                have N288 := Fr.snoc X288 N285 (Nat.le_trans (Nat.le_trans Z0 E267.1) (Nat.le_of_eq g269.symm))
                have hp291 : ∀ c ∈ ([(nar .char p1), (nar .char p2), (nar .char p3), (nar .char p4), (nar .char p5), (nar .char p6), (nar .char p7)] : List Int32), ¬ c < 0 ∧ ¬ (255 : Int32) < c := by
                  intro c hc
                  simp only [List.mem_cons, List.not_mem_nil, or_false] at hc
                  rcases hc with rfl | rfl | rfl | rfl | rfl | rfl | rfl
                  · exact own_narI _ hp1
                  · exact own_narI _ hp2
                  · exact own_narI _ hp3
                  · exact own_narI _ hp4
                  · exact own_narI _ hp5
                  · exact own_narI _ hp6
                  · exact own_narI _ hp7
                have f292 := (Nat.le_trans (Nat.le_trans (Nat.le_trans (Nat.le_trans (Nat.le_trans (Nat.le_trans (Nat.le_trans (Nat.le_trans (Nat.le_trans Z0 E267.1) E269.1) (Keep.of_wr W271).1) (Keep.of_wr W273).1) (Keep.of_wr W276).1) (Keep.of_wr W279).1) (Keep.of_wr W282).1) (Keep.of_wr W285).1) (Keep.of_wr W288).1)
                have f293 := ((((((((A267.ext E269).wr W271).wr W273).wr W276).wr W279).wr W282).wr W285).wr W288)
                have f294 := ((((((((F_value_b267.ext E269).other W271 (Or.inl (Nat.ne_of_lt (Nat.lt_of_lt_of_le A267.lt (Nat.le_of_eq g269.symm))))).other W273 (Or.inl (Nat.ne_of_lt (Nat.lt_of_lt_of_le A267.lt (Nat.le_of_eq g269.symm))))).other W276 (Or.inl (Nat.ne_of_lt (Nat.lt_of_lt_of_le A267.lt (Nat.le_of_eq g269.symm))))).other W279 (Or.inl (Nat.ne_of_lt (Nat.lt_of_lt_of_le A267.lt (Nat.le_of_eq g269.symm))))).other W282 (Or.inl (Nat.ne_of_lt (Nat.lt_of_lt_of_le A267.lt (Nat.le_of_eq g269.symm))))).other W285 (Or.inl (Nat.ne_of_lt (Nat.lt_of_lt_of_le A267.lt (Nat.le_of_eq g269.symm))))).other W288 (Or.inl (Nat.ne_of_lt (Nat.lt_of_lt_of_le A267.lt (Nat.le_of_eq g269.symm)))))
                have f295 := ((((((((F_coder_b267.ext E269).other W271 (Or.inl (Nat.ne_of_lt (Nat.lt_of_lt_of_le A267.lt (Nat.le_of_eq g269.symm))))).other W273 (Or.inl (Nat.ne_of_lt (Nat.lt_of_lt_of_le A267.lt (Nat.le_of_eq g269.symm))))).other W276 (Or.inl (Nat.ne_of_lt (Nat.lt_of_lt_of_le A267.lt (Nat.le_of_eq g269.symm))))).other W279 (Or.inl (Nat.ne_of_lt (Nat.lt_of_lt_of_le A267.lt (Nat.le_of_eq g269.symm))))).other W282 (Or.inl (Nat.ne_of_lt (Nat.lt_of_lt_of_le A267.lt (Nat.le_of_eq g269.symm))))).other W285 (Or.inl (Nat.ne_of_lt (Nat.lt_of_lt_of_le A267.lt (Nat.le_of_eq g269.symm))))).other W288 (Or.inl (Nat.ne_of_lt (Nat.lt_of_lt_of_le A267.lt (Nat.le_of_eq g269.symm)))))
                have f296 := (((((((((X00.ext E267).ext E269).wr W271 (Nat.le_trans (Nat.le_trans Z0 E267.1) (Nat.le_of_eq g269.symm))).wr W273 (Nat.le_trans (Nat.le_trans Z0 E267.1) (Nat.le_of_eq g269.symm))).wr W276 (Nat.le_trans (Nat.le_trans Z0 E267.1) (Nat.le_of_eq g269.symm))).wr W279 (Nat.le_trans (Nat.le_trans Z0 E267.1) (Nat.le_of_eq g269.symm))).wr W282 (Nat.le_trans (Nat.le_trans Z0 E267.1) (Nat.le_of_eq g269.symm))).wr W285 (Nat.le_trans (Nat.le_trans Z0 E267.1) (Nat.le_of_eq g269.symm))).wr W288 (Nat.le_trans (Nat.le_trans Z0 E267.1) (Nat.le_of_eq g269.symm)))
                have f297 := (Safe.wr W288 f289 CH285 (Safe.wr W285 f286 CH282 (Safe.wr W282 f283 CH279 (Safe.wr W279 f280 CH276 (Safe.wr W276 f277 CH273 (Safe.wr W273 f274 CH271 (Safe.wr W271 Sf269 CH269 (Safe.ext E269 CH267 Sf267))))))))
                obtain ⟨_, _, ⟨T298, L298, k298, n298⟩, -, X298, ⟨Lc298, hQ298, l298, y298, z298⟩, st298⟩ := X288.specialBack hx (y := (⟨"java/lang/String", "<init>", "([C)V"⟩ : MethodName)) rfl hown (mvT hZ (hw _ (List.mem_of_getElem? (i := 55) rfl))) (mvT hZ (hw _ (List.mem_of_getElem? (i := 56) rfl))) (mvT hZ (hw _ (List.mem_of_getElem? (i := 57) rfl))) (by decide) (StrChars.Road.backV (W := 1) hZ hws (kI := 4) (hw _ (List.mem_of_getElem? (i := 6) rfl)) (cs := ([(nar .char p1), (nar .char p2), (nar .char p3), (nar .char p4), (nar .char p5), (nar .char p6), (nar .char p7)] : List Int32)) (bs := (([(nar .char p1), (nar .char p2), (nar .char p3), (nar .char p4), (nar .char p5), (nar .char p6), (nar .char p7)] : List Int32)).map (fun c => c.toInt8.toInt32)) (n := 7) (Nat.le_trans Z0 (Nat.le_of_eq g267.symm)) f292 f293 f294 f295 V288 (O2.ext f296.2) P5 rfl rfl (by decide) (by decide) hp291 rfl (by decide) (by decide)) (g := (mkF m 244 #[.val (.int p0), .val (.int p1), .val (.int p2), .val (.int p3), .val (.int p4), .val (.int p5), .val (.int p6), .val (.int p7)] [(.ref b269), (.ref b267), (.ref b267)])) rfl (by rw [hml]; rfl) (Steps.refl _) (a := b267) (argsL := [(.ref b269)]) (rest := [(.ref b267)]) (lenOf pdo_4 rfl) rfl (by show 2 * 0 + _ ≤ _; exact Nat.le_of_eq rfl) (hb hby d_rm_make_244) (fun _ _ => ⟨rfl, e288, (by decide : 2 + 1 ≤ _), (by decide : 11 + 7 ≤ _)⟩)
                dsimp only [Pt.U, Pt.locs, Pt.cells, Pt.slots] at X298 l298 y298 z298 st298 hQ298
                subst l298 y298 z298
                obtain ⟨rfl, Nq298, K298, Ex298, Fc298, t298, kb298, ta298, tb298, tc298, Fv298, Vt298⟩ := hQ298
                have N298 := Fr.app N288 Nq298
                have pq299 : ∀ τ, Steps pP.tables e below (T298.setTop (mkF m 247 #[.val (.int p0), .val (.int p1), .val (.int p2), .val (.int p3), .val (.int p4), .val (.int p5), .val (.int p6), .val (.int p7)] [(.ref b267)])) τ → Steps pP.tables e below A0 τ := by
                  intro τ κ
                  refine pq290 τ ?_
                  refine st298.trans ?_
                  exact κ
                have KC298 : Keep h0 T298.heap [] := KC288.trans K298 (allS (Or.inr (Nat.le_trans (Nat.le_refl _) (Nat.le_of_eq g267.symm))) all0)
                have CH298 := CHv.keep K298 (sfS f297 sf0) CH288
                have CR298 := CHr.trans CR288 (CHr.keep K298 (sfS f297 sf0) CH288)
                have SK298 := Nat.le_trans SK288 K298.1
                have ecs300 : own_cs p0 p1 p2 p3 p4 p5 p6 p7 = [(p1), (p2), (p3), (p4), (p5), (p6), (p7)] := by simp [own_cs, hc1_102, hc17_115, hc37_133, hc61_154, hc89_178, hc122_205, hc161_235]
                have vcs300 := Vt298
                rw [show nar .char (p1) = (p1) from own_narE _ (hp1)] at vcs300
                rw [show nar .char (p2) = (p2) from own_narE _ (hp2)] at vcs300
                rw [show nar .char (p3) = (p3) from own_narE _ (hp3)] at vcs300
                rw [show nar .char (p4) = (p4) from own_narE _ (hp4)] at vcs300
                rw [show nar .char (p5) = (p5) from own_narE _ (hp5)] at vcs300
                rw [show nar .char (p6) = (p6) from own_narE _ (hp6)] at vcs300
                rw [show nar .char (p7) = (p7) from own_narE _ (hp7)] at vcs300
                have SKe := SK298
                obtain ⟨fs, hrE, hrun, hended, hEnd⟩ := X298.leaveW SI0 SKe (v := some (.ref b267)) (fun h => by rw [Bd.returns] at h; cases h)
                have CHe := CHr.trans CR298 (CHv.at X298 hZ hEW CH298)
                have pqE := pq299
                rw [hA0] at pqE
                refine ⟨_, _, pqE _ ?_, hrun, hended, _, _, rfl, ?_, ?_, hEnd.1, hEnd.2.1, hEnd.2.2.1, hEnd.2.2.2.mono (by decide) (by decide)⟩
                · show Steps pP.tables e below (T298.setTop (mkF m 247 #[.val (.int p0), .val (.int p1), .val (.int p2), .val (.int p3), .val (.int p4), .val (.int p5), .val (.int p6), .val (.int p7)] [(.ref b267)])) _
                  exact retOut X298 hx Bd.returns rfl (Or.inr (Or.inr (Or.inr (Or.inr ⟨rfl, rfl, rfl⟩)))) (hb hby d_rm_make_247) hrE
                · show Q_rm_make Z p0 p1 p2 p3 p4 p5 p6 p7 h0 n0 _ T298.heap _
                  exact ⟨b267, t298, _, rfl, N298, KC298, Ex298, Fc298, Fv298, by rw [ecs300]; exact vcs300⟩
                · show CHr Z consts_1 s.vm s.heap T298.vm T298.heap
                  rw [hh]; exact CHe
def Q_ref (ds : List Int32) (i0 i1 i2 i3 i4 : Addr) (h0 : Heap) (n0 : Nat) (v : Option Value) (h : Heap) (L : List Loc) : Prop := v = some (own_pick ds i0 i1 i2 i3 i4) ∧ Fr n0 L ∧ Keep h0 h []
theorem d_rm_ref_0 : decode method_6_code 0 = .ok (.aload_n 0, 1) := by decide +kernel
theorem d_rm_ref_1 : decode method_6_code 1 = .ok (.ifnonnull 5, 3) := by decide +kernel
theorem d_rm_ref_6 : decode method_6_code 6 = .ok (.aload_n 0, 1) := by decide +kernel
theorem d_rm_ref_7 : decode method_6_code 7 = .ok (.ldc 36, 2) := by decide +kernel
theorem d_rm_ref_9 : decode method_6_code 9 = .ok (.invokevirtual 57, 3) := by decide +kernel
theorem d_rm_ref_12 : decode method_6_code 12 = .ok (.ifCond .eq 7, 3) := by decide +kernel
theorem d_rm_ref_15 : decode method_6_code 15 = .ok (.getstatic 61, 3) := by decide +kernel
theorem d_rm_ref_18 : decode method_6_code 18 = .ok (.areturn, 1) := by decide +kernel
theorem d_rm_ref_19 : decode method_6_code 19 = .ok (.aload_n 0, 1) := by decide +kernel
theorem d_rm_ref_20 : decode method_6_code 20 = .ok (.ldc 38, 2) := by decide +kernel
theorem d_rm_ref_22 : decode method_6_code 22 = .ok (.invokevirtual 57, 3) := by decide +kernel
theorem d_rm_ref_25 : decode method_6_code 25 = .ok (.ifCond .eq 7, 3) := by decide +kernel
theorem d_rm_ref_28 : decode method_6_code 28 = .ok (.getstatic 65, 3) := by decide +kernel
theorem d_rm_ref_31 : decode method_6_code 31 = .ok (.areturn, 1) := by decide +kernel
theorem d_rm_ref_32 : decode method_6_code 32 = .ok (.aload_n 0, 1) := by decide +kernel
theorem d_rm_ref_33 : decode method_6_code 33 = .ok (.ldc 40, 2) := by decide +kernel
theorem d_rm_ref_35 : decode method_6_code 35 = .ok (.invokevirtual 57, 3) := by decide +kernel
theorem d_rm_ref_38 : decode method_6_code 38 = .ok (.ifCond .eq 7, 3) := by decide +kernel
theorem d_rm_ref_41 : decode method_6_code 41 = .ok (.getstatic 68, 3) := by decide +kernel
theorem d_rm_ref_44 : decode method_6_code 44 = .ok (.areturn, 1) := by decide +kernel
theorem d_rm_ref_45 : decode method_6_code 45 = .ok (.aload_n 0, 1) := by decide +kernel
theorem d_rm_ref_46 : decode method_6_code 46 = .ok (.ldc 42, 2) := by decide +kernel
theorem d_rm_ref_48 : decode method_6_code 48 = .ok (.invokevirtual 57, 3) := by decide +kernel
theorem d_rm_ref_51 : decode method_6_code 51 = .ok (.ifCond .eq 7, 3) := by decide +kernel
theorem d_rm_ref_54 : decode method_6_code 54 = .ok (.getstatic 71, 3) := by decide +kernel
theorem d_rm_ref_57 : decode method_6_code 57 = .ok (.areturn, 1) := by decide +kernel
theorem d_rm_ref_58 : decode method_6_code 58 = .ok (.aload_n 0, 1) := by decide +kernel
theorem d_rm_ref_59 : decode method_6_code 59 = .ok (.ldc 44, 2) := by decide +kernel
theorem d_rm_ref_61 : decode method_6_code 61 = .ok (.invokevirtual 57, 3) := by decide +kernel
theorem d_rm_ref_64 : decode method_6_code 64 = .ok (.ifCond .eq 7, 3) := by decide +kernel
theorem d_rm_ref_67 : decode method_6_code 67 = .ok (.getstatic 74, 3) := by decide +kernel
theorem d_rm_ref_70 : decode method_6_code 70 = .ok (.areturn, 1) := by decide +kernel
theorem d_rm_ref_71 : decode method_6_code 71 = .ok (.aconst_null, 1) := by decide +kernel
theorem d_rm_ref_72 : decode method_6_code 72 = .ok (.areturn, 1) := by decide +kernel
theorem ef_rm_ref (m : MethodId) (x0 : Addr) : entryFrame m #[(.ref x0)] 1 = mkF m 0 #[.val (.ref x0)] [] := by first | (simp [entryFrame, mkF, argsToLocals, Value.category]; done) | rfl
set_option maxRecDepth 65536 in
set_option maxHeartbeats 3000000 in
theorem rm_ref (l : Launch) (Z : State) (a0 : Array Value) (hw : ∀ d ∈ tables_1, d.before a0 Z = true) (hEW : EW Z a0 consts_1) (ws : List Jvm.Cond) (a t : Addr) (kb : ClassId) (ds : List Int32) (i0 i1 i2 i3 i4 : Addr) (G1 : Int32) (h0 : Heap) (n0 : Nat) (Z0 : n0 ≤ h0.size) (OS0 : Sta Z Z.heap "interfold/model/LogicType" "INT" "Linterfold/model/LogicType;" (.ref i0)) (OS1 : Sta Z Z.heap "interfold/model/LogicType" "LONG" "Linterfold/model/LogicType;" (.ref i1)) (OS2 : Sta Z Z.heap "interfold/model/LogicType" "DOUBLE" "Linterfold/model/LogicType;" (.ref i2)) (OS3 : Sta Z Z.heap "interfold/model/LogicType" "BOOLEAN" "Linterfold/model/LogicType;" (.ref i3)) (OS4 : Sta Z Z.heap "interfold/model/LogicType" "STRING" "Linterfold/model/LogicType;" (.ref i4)) (O2 : Sta Z Z.heap "java/lang/String" "COMPACT_STRINGS" "Z" (.int G1)) (P5 : ¬ (G1 = (0 : Int32))) (X00 : Old Z n0 h0) (E_a : Exa Z h0 a "java/lang/String") (F_c : Fld Z h0 a "java/lang/String" "coder" "B" (.int 0)) (F_v : Fld Z h0 a "java/lang/String" "value" "[B" (.ref t)) (V_t : Arv Z h0 t kb .byte (Int32.ofNat ds.length) (((ds).map (fun c : Int32 => c.toInt8.toInt32)).map Value.int) (.int 0)) (hds : ∀ c ∈ ds, ¬ c < 0 ∧ ¬ (255 : Int32) < c) (hlen : ds.length ≤ 4000) :
    MetFree l (⟨"interfold/model/LogicTypeNamedPinLaw", "ref", "(Ljava/lang/String;)Linterfold/model/LogicType;"⟩ : MethodName) (head1 (Jvm.Cond.code (⟨"interfold/model/LogicTypeNamedPinLaw", "ref", "(Ljava/lang/String;)Linterfold/model/LogicType;"⟩ : MethodName) method_6_code 1 (some (.object "interfold/model/LogicType")) :: ws) ({ frames := 2, cells := 10, slots := 124, locals := 28 } : Room)) (fun αs U => αs = #[(.ref a)] ∧ Z.Warmed39 U.vm ∧ U.heap = h0 ∧ CHv Z consts_1 U.vm h0) (fun _ _ _ _ _ => True) (fun _ U o U' => ∃ v L, o = .returned v ∧ Q_ref ds i0 i1 i2 i3 i4 h0 n0 v U'.heap L ∧ CHr Z consts_1 U.vm U.heap U'.vm U'.heap ∧ ReturnedEndW U o U' L ({ frames := 2, cells := 10, slots := 124, locals := 28 } : Room).cells ({ frames := 2, cells := 10, slots := 124, locals := 28 } : Room).slots) := by
  refine MetFree.of_bodySF (plainFor_of_name pno_1) hisR ?_
  intro pP e s m args below meth cC s₁ Bd hml0 hP hK
  obtain ⟨rfl, hZ, hh, CH0⟩ := hP
  have hx := Bd.exec
  have hby := Bd.bytes
  have hml : cC.maxLocals = 1 := hml0
  have hown : s.vm.findClass "interfold/model/LogicTypeNamedPinLaw" = some m.cls := findClass_of_methodNamed Bd.named
  have hnm := (name_of_methodNamed Bd.named Bd.method).1
  have X0 : Stand pP l e ({ frames := 2, cells := 10, slots := 124, locals := 28 } : Room) (s.setVm s.vm) m #[(.ref a)] below meth cC s₁ [] 0 0 := Stand.of_body Bd
  have e0 : s₁.heap = h0 := by rw [← hh, Bd.state]; rfl
  have N0 := Fr.nil n0
  have KC0 : Keep h0 h0 [] := Keep.refl h0 _
  replace hZ : Z.Warmed39 (s.setVm s.vm).vm := hZ
  replace hown : (s.setVm s.vm).vm.findClass "interfold/model/LogicTypeNamedPinLaw" = some m.cls := hown
  have SI0 : s.Since s.vm h0.size := (State.WarmedH.refl s).since _
  have SK0 : h0.size ≤ h0.size := Nat.le_refl _
  have CR0 : CHr Z consts_1 s.vm h0 s.vm h0 := CHr.refl CH0
  obtain ⟨A0, hA0⟩ : ∃ z, z = s₁.setTop (entryFrame m #[(.ref a)] 1) := ⟨_, rfl⟩
  have pre0 : ∀ τ, Steps pP.tables e below (s₁.setTop (mkF m 0 #[.val (.ref a)] [])) τ → Steps pP.tables e below A0 τ := fun τ κ => by rw [hA0]; exact castTop (ef_rm_ref m a) κ
  have wS : ∀ a ∈ Bundle.stringAtoms, a.before a0 Z = true := fun d hd => hw d ((by decide +kernel : ∀ d ∈ Bundle.stringAtoms, d ∈ tables_1) d hd)
  have heq : ∀ d ∈ StrChars.Road.wordsEq, d.before a0 Z = true := fun d hd => hw d ((by decide +kernel : ∀ d ∈ StrChars.Road.wordsEq, d ∈ tables_1) d hd)
  obtain ⟨b101, T101, h101, k101, t101, kb101, X101, e101, E101, SI101, SK101, Z101, O101, A101, Fc101, Fv101, V101, lt101, ltt101, C101, L101, ne101, st101⟩ := ldcCH (s := s) (vm0 := s.vm) (EL := consts_1) X0 hx hZ hown (hw _ (List.mem_of_getElem? (i := 4) rfl)) wS e0 SI0 SK0 hEW (by decide) CH0 (vs := [(.int (105 : Int32)), (.int (110 : Int32)), (.int (116 : Int32))]) (z := (3 : Int32)) (by decide) (by decide) (by decide) (g := (mkF m 7 #[.val (.ref a)] [(.ref a)])) rfl (hb hby d_rm_ref_7) (n := 12) (by decide) (by decide) (by decide) (by decide)
  have pq102 : ∀ τ, Steps pP.tables e below (T101.setTop (mkF m 9 #[.val (.ref a)] [(.ref b101), (.ref a)])) τ → Steps pP.tables e below A0 τ := by
    intro τ κ
    refine pre0 τ ?_
    refine XS.aloadN X0.here hx rfl (hb hby d_rm_ref_0) rfl rfl ?_
    refine XS.ifnonnullYes X0.here hx rfl (pc0 := 1) (pc' := 6) rfl (hb hby d_rm_ref_1) rfl (by decide) (by decide) ?_
    refine XS.aloadN X0.here hx rfl (hb hby d_rm_ref_6) rfl rfl ?_
    refine st101 _ ?_
    exact κ
  have K101 : Keep h0 h101 [] := (Keep.refl _ _).ext E101
  have KC101 : Keep h0 h101 [] := KC0.trans K101 all0
  have CH101 := C101.1
  have CR101 := CHr.trans CR0 C101
  have Vc101 : Arv Z h101 t101 kb101 .byte (Int32.ofNat (([105, 110, 116] : List Int32)).length) (((([105, 110, 116] : List Int32)).map (fun c : Int32 => c.toInt8.toInt32)).map Value.int) (.int 0) := by first | exact V101 | exact own_cast (by decide) (by decide) V101
  have f103 := (E_a.keep K101)
  have f104 := (F_v.keep K101 nin0)
  have f105 := (F_c.keep K101 nin0)
  have f106 := (V_t.keep K101 nin0)
  have f107 := (X00.keep K101 all0)
  obtain ⟨cq109, kq109, q109a, q109b, q109c⟩ := isOf Z101 e101 f103
  obtain ⟨_, _, ⟨T108, L108, k108, n108⟩, -, X108, ⟨Lc108, hQ108, l108, y108, z108⟩, st108⟩ := X101.virtualBack hx (y := (⟨"java/lang/String", "equals", "(Ljava/lang/Object;)Z"⟩ : MethodName)) (z := (⟨"java/lang/String", "equals", "(Ljava/lang/Object;)Z"⟩ : MethodName)) O101 (mvT Z101 (hw _ (List.mem_of_getElem? (i := 78) rfl))) (mvT Z101 (hw _ (List.mem_of_getElem? (i := 79) rfl))) (notFace_of_selects (args := #[]) (mvT Z101 (hw _ (List.mem_of_getElem? (i := 81) rfl)))) (mvT Z101 (hw _ (List.mem_of_getElem? (i := 81) rfl))) (mvT Z101 (hw _ (List.mem_of_getElem? (i := 80) rfl))) (by decide) (StrChars.Road.eqW (W := 0) Z101 heq (kI := 4) (hw _ (List.mem_of_getElem? (i := 6) rfl)) (cs := ds) (ds := ([105, 110, 116] : List Int32)) f103 f104 f105 f106 (StrChars.Road.codOf rfl (fun x hx => (hds x hx).2)) (own_up _ hds) hlen A101 Fv101 Fc101 Vc101 (StrChars.Road.codOf rfl (fun x hx => ((by decide : ∀ c ∈ (([105, 110, 116] : List Int32) : List Int32), ¬ c < 0 ∧ ¬ (255 : Int32) < c) x hx).2)) (own_up _ (by decide : ∀ c ∈ (([105, 110, 116] : List Int32) : List Int32), ¬ c < 0 ∧ ¬ (255 : Int32) < c)) (by decide) (O2.ext f107.2) P5 (by decide) (by decide)) q109a q109c (g := (mkF m 9 #[.val (.ref a)] [(.ref b101), (.ref a)])) rfl (by rw [hml]; rfl) (Steps.refl _) (argsL := [(.ref b101)]) (rest := []) (lenOf pdo_5 rfl) rfl (by show 2 * 0 + _ ≤ _; exact Nat.le_of_eq rfl) (hb hby d_rm_ref_9) (fun _ _ => ⟨rfl, e101, (by decide : 2 + 0 ≤ _), (by decide : 16 + 0 ≤ _)⟩)
  dsimp only [Pt.U, Pt.locs, Pt.cells, Pt.slots] at X108 l108 y108 z108 st108 hQ108
  subst l108 y108 z108
  obtain ⟨hv108, rfl, eq108⟩ := hQ108
  have N108 := Fr.app N0 (Fr.nil n0)
  rcases hv108 with ⟨rfl, hcs108⟩ | ⟨rfl, hcs108⟩
  · skip
    have pq110 : ∀ τ, Steps pP.tables e below (T108.setTop (mkF m 12 #[.val (.ref a)] [(.int (1 : Int32))])) τ → Steps pP.tables e below A0 τ := by
      intro τ κ
      refine pq102 τ ?_
      refine st108.trans ?_
      exact κ
    obtain ⟨T111, X111, e111, st111⟩ := getS2 X108 hx Z101 O101 (host := "") (Or.inl (hw _ (List.mem_of_getElem? (i := 87) rfl))) Via.refl eq108 (OS0.ext f107.2) (g := (mkF m 15 #[.val (.ref a)] [])) rfl (hb hby d_rm_ref_15)
    have pq112 : ∀ τ, Steps pP.tables e below (T111.setTop (mkF m 18 #[.val (.ref a)] [(.ref i0)])) τ → Steps pP.tables e below A0 τ := by
      intro τ κ
      refine pq110 τ ?_
      refine XS.ifNo X108.here hx rfl (hb hby d_rm_ref_12) rfl ((if0 _ _).trans (feq (by decide : ¬ ((1 : Int32) = (0 : Int32)))).1) ?_
      refine st111 _ ?_
      exact κ
    have SKe := Nat.le_trans SK101 (Nat.le_of_eq (congrArg (fun z : Heap => Array.size z) (Eq.symm e111)))
    obtain ⟨fs, hrE, hrun, hended, hEnd⟩ := X111.leaveW SI101 SKe (v := some (.ref i0)) (fun h => by rw [Bd.returns] at h; cases h)
    have CHe := CHr.trans CR101 (CHv.at X111 Z101 hEW CH101)
    have pqE := pq112
    rw [hA0] at pqE
    refine ⟨_, _, pqE _ ?_, hrun, hended, _, _, rfl, ?_, ?_, hEnd.1, hEnd.2.1, hEnd.2.2.1, hEnd.2.2.2.mono (by decide) (by decide)⟩
    · show Steps pP.tables e below (T111.setTop (mkF m 18 #[.val (.ref a)] [(.ref i0)])) _
      exact retOut X111 hx Bd.returns rfl (Or.inr (Or.inr (Or.inr (Or.inr ⟨rfl, rfl, rfl⟩)))) (hb hby d_rm_ref_18) hrE
    · show Q_ref ds i0 i1 i2 i3 i4 h0 n0 _ T111.heap _
      rw [e111]
      exact ⟨by rw [own_pick, if_pos hcs108], N108, KC101⟩
    · show CHr Z consts_1 s.vm s.heap T111.vm T111.heap
      first | (rw [hh, e111]; exact CHe) | (rw [hh]; exact CHe)
  · skip
    have pq113 : ∀ τ, Steps pP.tables e below (T108.setTop (mkF m 12 #[.val (.ref a)] [(.int (0 : Int32))])) τ → Steps pP.tables e below A0 τ := by
      intro τ κ
      refine pq102 τ ?_
      refine st108.trans ?_
      exact κ
    obtain ⟨b114, T114, h114, k114, t114, kb114, X114, e114, E114, SI114, SK114, Z114, O114, A114, Fc114, Fv114, V114, lt114, ltt114, C114, L114, ne114, st114⟩ := ldcCH (s := s) (vm0 := T101.vm) (EL := consts_1) X108 hx Z101 O101 (hw _ (List.mem_of_getElem? (i := 115) rfl)) wS eq108 SI101 SK101 hEW (by decide) CH101 (vs := [(.int (108 : Int32)), (.int (111 : Int32)), (.int (110 : Int32)), (.int (103 : Int32))]) (z := (4 : Int32)) (by decide) (by decide) (by decide) (g := (mkF m 20 #[.val (.ref a)] [(.ref a)])) rfl (hb hby d_rm_ref_20) (n := 16) (by decide) (by decide) (by decide) (by decide)
    have pq115 : ∀ τ, Steps pP.tables e below (T114.setTop (mkF m 22 #[.val (.ref a)] [(.ref b114), (.ref a)])) τ → Steps pP.tables e below A0 τ := by
      intro τ κ
      refine pq113 τ ?_
      refine XS.ifYes X108.here hx rfl (pc0 := 12) (pc' := 19) rfl (hb hby d_rm_ref_12) rfl ((if0 _ _).trans (teq (by decide : ((0 : Int32) = (0 : Int32)))).1) (by decide) (by decide) ?_
      refine XS.aloadN X108.here hx rfl (hb hby d_rm_ref_19) rfl rfl ?_
      refine st114 _ ?_
      exact κ
    have K114 : Keep h101 h114 [] := (Keep.refl _ _).ext E114
    have KC114 : Keep h0 h114 [] := KC101.trans K114 all0
    have CH114 := C114.1
    have CR114 := CHr.trans CR101 C114
    have Vc114 : Arv Z h114 t114 kb114 .byte (Int32.ofNat (([108, 111, 110, 103] : List Int32)).length) (((([108, 111, 110, 103] : List Int32)).map (fun c : Int32 => c.toInt8.toInt32)).map Value.int) (.int 0) := by first | exact V114 | exact own_cast (by decide) (by decide) V114
    have f116 := (f103.keep K114)
    have f117 := (f104.keep K114 nin0)
    have f118 := (f105.keep K114 nin0)
    have f119 := (f106.keep K114 nin0)
    have f120 := (f107.keep K114 all0)
    obtain ⟨cq122, kq122, q122a, q122b, q122c⟩ := isOf Z114 e114 f116
    obtain ⟨_, _, ⟨T121, L121, k121, n121⟩, -, X121, ⟨Lc121, hQ121, l121, y121, z121⟩, st121⟩ := X114.virtualBack hx (y := (⟨"java/lang/String", "equals", "(Ljava/lang/Object;)Z"⟩ : MethodName)) (z := (⟨"java/lang/String", "equals", "(Ljava/lang/Object;)Z"⟩ : MethodName)) O114 (mvT Z114 (hw _ (List.mem_of_getElem? (i := 78) rfl))) (mvT Z114 (hw _ (List.mem_of_getElem? (i := 79) rfl))) (notFace_of_selects (args := #[]) (mvT Z114 (hw _ (List.mem_of_getElem? (i := 81) rfl)))) (mvT Z114 (hw _ (List.mem_of_getElem? (i := 81) rfl))) (mvT Z114 (hw _ (List.mem_of_getElem? (i := 80) rfl))) (by decide) (StrChars.Road.eqW (W := 0) Z114 heq (kI := 4) (hw _ (List.mem_of_getElem? (i := 6) rfl)) (cs := ds) (ds := ([108, 111, 110, 103] : List Int32)) f116 f117 f118 f119 (StrChars.Road.codOf rfl (fun x hx => (hds x hx).2)) (own_up _ hds) hlen A114 Fv114 Fc114 Vc114 (StrChars.Road.codOf rfl (fun x hx => ((by decide : ∀ c ∈ (([108, 111, 110, 103] : List Int32) : List Int32), ¬ c < 0 ∧ ¬ (255 : Int32) < c) x hx).2)) (own_up _ (by decide : ∀ c ∈ (([108, 111, 110, 103] : List Int32) : List Int32), ¬ c < 0 ∧ ¬ (255 : Int32) < c)) (by decide) (O2.ext f120.2) P5 (by decide) (by decide)) q122a q122c (g := (mkF m 22 #[.val (.ref a)] [(.ref b114), (.ref a)])) rfl (by rw [hml]; rfl) (Steps.refl _) (argsL := [(.ref b114)]) (rest := []) (lenOf pdo_5 rfl) rfl (by show 2 * 0 + _ ≤ _; exact Nat.le_of_eq rfl) (hb hby d_rm_ref_22) (fun _ _ => ⟨rfl, e114, (by decide : 4 + 0 ≤ _), (by decide : 36 + 0 ≤ _)⟩)
    dsimp only [Pt.U, Pt.locs, Pt.cells, Pt.slots] at X121 l121 y121 z121 st121 hQ121
    subst l121 y121 z121
    obtain ⟨hv121, rfl, eq121⟩ := hQ121
    have N121 := Fr.app N108 (Fr.nil n0)
    rcases hv121 with ⟨rfl, hcs121⟩ | ⟨rfl, hcs121⟩
    · skip
      have pq123 : ∀ τ, Steps pP.tables e below (T121.setTop (mkF m 25 #[.val (.ref a)] [(.int (1 : Int32))])) τ → Steps pP.tables e below A0 τ := by
        intro τ κ
        refine pq115 τ ?_
        refine st121.trans ?_
        exact κ
      obtain ⟨T124, X124, e124, st124⟩ := getS2 X121 hx Z114 O114 (host := "") (Or.inl (hw _ (List.mem_of_getElem? (i := 123) rfl))) Via.refl eq121 (OS1.ext f120.2) (g := (mkF m 28 #[.val (.ref a)] [])) rfl (hb hby d_rm_ref_28)
      have pq125 : ∀ τ, Steps pP.tables e below (T124.setTop (mkF m 31 #[.val (.ref a)] [(.ref i1)])) τ → Steps pP.tables e below A0 τ := by
        intro τ κ
        refine pq123 τ ?_
        refine XS.ifNo X121.here hx rfl (hb hby d_rm_ref_25) rfl ((if0 _ _).trans (feq (by decide : ¬ ((1 : Int32) = (0 : Int32)))).1) ?_
        refine st124 _ ?_
        exact κ
      have SKe := Nat.le_trans SK114 (Nat.le_of_eq (congrArg (fun z : Heap => Array.size z) (Eq.symm e124)))
      obtain ⟨fs, hrE, hrun, hended, hEnd⟩ := X124.leaveW SI114 SKe (v := some (.ref i1)) (fun h => by rw [Bd.returns] at h; cases h)
      have CHe := CHr.trans CR114 (CHv.at X124 Z114 hEW CH114)
      have pqE := pq125
      rw [hA0] at pqE
      refine ⟨_, _, pqE _ ?_, hrun, hended, _, _, rfl, ?_, ?_, hEnd.1, hEnd.2.1, hEnd.2.2.1, hEnd.2.2.2.mono (by decide) (by decide)⟩
      · show Steps pP.tables e below (T124.setTop (mkF m 31 #[.val (.ref a)] [(.ref i1)])) _
        exact retOut X124 hx Bd.returns rfl (Or.inr (Or.inr (Or.inr (Or.inr ⟨rfl, rfl, rfl⟩)))) (hb hby d_rm_ref_31) hrE
      · show Q_ref ds i0 i1 i2 i3 i4 h0 n0 _ T124.heap _
        rw [e124]
        exact ⟨by rw [own_pick, if_neg hcs108, if_pos hcs121], N121, KC114⟩
      · show CHr Z consts_1 s.vm s.heap T124.vm T124.heap
        first | (rw [hh, e124]; exact CHe) | (rw [hh]; exact CHe)
    · skip
      have pq126 : ∀ τ, Steps pP.tables e below (T121.setTop (mkF m 25 #[.val (.ref a)] [(.int (0 : Int32))])) τ → Steps pP.tables e below A0 τ := by
        intro τ κ
        refine pq115 τ ?_
        refine st121.trans ?_
        exact κ
      obtain ⟨b127, T127, h127, k127, t127, kb127, X127, e127, E127, SI127, SK127, Z127, O127, A127, Fc127, Fv127, V127, lt127, ltt127, C127, L127, ne127, st127⟩ := ldcCH (s := s) (vm0 := T114.vm) (EL := consts_1) X121 hx Z114 O114 (hw _ (List.mem_of_getElem? (i := 117) rfl)) wS eq121 SI114 SK114 hEW (by decide) CH114 (vs := [(.int (100 : Int32)), (.int (111 : Int32)), (.int (117 : Int32)), (.int (98 : Int32)), (.int (108 : Int32)), (.int (101 : Int32))]) (z := (6 : Int32)) (by decide) (by decide) (by decide) (g := (mkF m 33 #[.val (.ref a)] [(.ref a)])) rfl (hb hby d_rm_ref_33) (n := 24) (by decide) (by decide) (by decide) (by decide)
      have pq128 : ∀ τ, Steps pP.tables e below (T127.setTop (mkF m 35 #[.val (.ref a)] [(.ref b127), (.ref a)])) τ → Steps pP.tables e below A0 τ := by
        intro τ κ
        refine pq126 τ ?_
        refine XS.ifYes X121.here hx rfl (pc0 := 25) (pc' := 32) rfl (hb hby d_rm_ref_25) rfl ((if0 _ _).trans (teq (by decide : ((0 : Int32) = (0 : Int32)))).1) (by decide) (by decide) ?_
        refine XS.aloadN X121.here hx rfl (hb hby d_rm_ref_32) rfl rfl ?_
        refine st127 _ ?_
        exact κ
      have K127 : Keep h114 h127 [] := (Keep.refl _ _).ext E127
      have KC127 : Keep h0 h127 [] := KC114.trans K127 all0
      have CH127 := C127.1
      have CR127 := CHr.trans CR114 C127
      have Vc127 : Arv Z h127 t127 kb127 .byte (Int32.ofNat (([100, 111, 117, 98, 108, 101] : List Int32)).length) (((([100, 111, 117, 98, 108, 101] : List Int32)).map (fun c : Int32 => c.toInt8.toInt32)).map Value.int) (.int 0) := by first | exact V127 | exact own_cast (by decide) (by decide) V127
      have f129 := (f116.keep K127)
      have f130 := (f117.keep K127 nin0)
      have f131 := (f118.keep K127 nin0)
      have f132 := (f119.keep K127 nin0)
      have f133 := (f120.keep K127 all0)
      obtain ⟨cq135, kq135, q135a, q135b, q135c⟩ := isOf Z127 e127 f129
      obtain ⟨_, _, ⟨T134, L134, k134, n134⟩, -, X134, ⟨Lc134, hQ134, l134, y134, z134⟩, st134⟩ := X127.virtualBack hx (y := (⟨"java/lang/String", "equals", "(Ljava/lang/Object;)Z"⟩ : MethodName)) (z := (⟨"java/lang/String", "equals", "(Ljava/lang/Object;)Z"⟩ : MethodName)) O127 (mvT Z127 (hw _ (List.mem_of_getElem? (i := 78) rfl))) (mvT Z127 (hw _ (List.mem_of_getElem? (i := 79) rfl))) (notFace_of_selects (args := #[]) (mvT Z127 (hw _ (List.mem_of_getElem? (i := 81) rfl)))) (mvT Z127 (hw _ (List.mem_of_getElem? (i := 81) rfl))) (mvT Z127 (hw _ (List.mem_of_getElem? (i := 80) rfl))) (by decide) (StrChars.Road.eqW (W := 0) Z127 heq (kI := 4) (hw _ (List.mem_of_getElem? (i := 6) rfl)) (cs := ds) (ds := ([100, 111, 117, 98, 108, 101] : List Int32)) f129 f130 f131 f132 (StrChars.Road.codOf rfl (fun x hx => (hds x hx).2)) (own_up _ hds) hlen A127 Fv127 Fc127 Vc127 (StrChars.Road.codOf rfl (fun x hx => ((by decide : ∀ c ∈ (([100, 111, 117, 98, 108, 101] : List Int32) : List Int32), ¬ c < 0 ∧ ¬ (255 : Int32) < c) x hx).2)) (own_up _ (by decide : ∀ c ∈ (([100, 111, 117, 98, 108, 101] : List Int32) : List Int32), ¬ c < 0 ∧ ¬ (255 : Int32) < c)) (by decide) (O2.ext f133.2) P5 (by decide) (by decide)) q135a q135c (g := (mkF m 35 #[.val (.ref a)] [(.ref b127), (.ref a)])) rfl (by rw [hml]; rfl) (Steps.refl _) (argsL := [(.ref b127)]) (rest := []) (lenOf pdo_5 rfl) rfl (by show 2 * 0 + _ ≤ _; exact Nat.le_of_eq rfl) (hb hby d_rm_ref_35) (fun _ _ => ⟨rfl, e127, (by decide : 6 + 0 ≤ _), (by decide : 64 + 0 ≤ _)⟩)
      dsimp only [Pt.U, Pt.locs, Pt.cells, Pt.slots] at X134 l134 y134 z134 st134 hQ134
      subst l134 y134 z134
      obtain ⟨hv134, rfl, eq134⟩ := hQ134
      have N134 := Fr.app N121 (Fr.nil n0)
      rcases hv134 with ⟨rfl, hcs134⟩ | ⟨rfl, hcs134⟩
      · skip
        have pq136 : ∀ τ, Steps pP.tables e below (T134.setTop (mkF m 38 #[.val (.ref a)] [(.int (1 : Int32))])) τ → Steps pP.tables e below A0 τ := by
          intro τ κ
          refine pq128 τ ?_
          refine st134.trans ?_
          exact κ
        obtain ⟨T137, X137, e137, st137⟩ := getS2 X134 hx Z127 O127 (host := "") (Or.inl (hw _ (List.mem_of_getElem? (i := 122) rfl))) Via.refl eq134 (OS2.ext f133.2) (g := (mkF m 41 #[.val (.ref a)] [])) rfl (hb hby d_rm_ref_41)
        have pq138 : ∀ τ, Steps pP.tables e below (T137.setTop (mkF m 44 #[.val (.ref a)] [(.ref i2)])) τ → Steps pP.tables e below A0 τ := by
          intro τ κ
          refine pq136 τ ?_
          refine XS.ifNo X134.here hx rfl (hb hby d_rm_ref_38) rfl ((if0 _ _).trans (feq (by decide : ¬ ((1 : Int32) = (0 : Int32)))).1) ?_
          refine st137 _ ?_
          exact κ
        have SKe := Nat.le_trans SK127 (Nat.le_of_eq (congrArg (fun z : Heap => Array.size z) (Eq.symm e137)))
        obtain ⟨fs, hrE, hrun, hended, hEnd⟩ := X137.leaveW SI127 SKe (v := some (.ref i2)) (fun h => by rw [Bd.returns] at h; cases h)
        have CHe := CHr.trans CR127 (CHv.at X137 Z127 hEW CH127)
        have pqE := pq138
        rw [hA0] at pqE
        refine ⟨_, _, pqE _ ?_, hrun, hended, _, _, rfl, ?_, ?_, hEnd.1, hEnd.2.1, hEnd.2.2.1, hEnd.2.2.2.mono (by decide) (by decide)⟩
        · show Steps pP.tables e below (T137.setTop (mkF m 44 #[.val (.ref a)] [(.ref i2)])) _
          exact retOut X137 hx Bd.returns rfl (Or.inr (Or.inr (Or.inr (Or.inr ⟨rfl, rfl, rfl⟩)))) (hb hby d_rm_ref_44) hrE
        · show Q_ref ds i0 i1 i2 i3 i4 h0 n0 _ T137.heap _
          rw [e137]
          exact ⟨by rw [own_pick, if_neg hcs108, if_neg hcs121, if_pos hcs134], N134, KC127⟩
        · show CHr Z consts_1 s.vm s.heap T137.vm T137.heap
          first | (rw [hh, e137]; exact CHe) | (rw [hh]; exact CHe)
      · skip
        have pq139 : ∀ τ, Steps pP.tables e below (T134.setTop (mkF m 38 #[.val (.ref a)] [(.int (0 : Int32))])) τ → Steps pP.tables e below A0 τ := by
          intro τ κ
          refine pq128 τ ?_
          refine st134.trans ?_
          exact κ
        obtain ⟨b140, T140, h140, k140, t140, kb140, X140, e140, E140, SI140, SK140, Z140, O140, A140, Fc140, Fv140, V140, lt140, ltt140, C140, L140, ne140, st140⟩ := ldcCH (s := s) (vm0 := T127.vm) (EL := consts_1) X134 hx Z127 O127 (hw _ (List.mem_of_getElem? (i := 118) rfl)) wS eq134 SI127 SK127 hEW (by decide) CH127 (vs := [(.int (98 : Int32)), (.int (111 : Int32)), (.int (111 : Int32)), (.int (108 : Int32)), (.int (101 : Int32)), (.int (97 : Int32)), (.int (110 : Int32))]) (z := (7 : Int32)) (by decide) (by decide) (by decide) (g := (mkF m 46 #[.val (.ref a)] [(.ref a)])) rfl (hb hby d_rm_ref_46) (n := 28) (by decide) (by decide) (by decide) (by decide)
        have pq141 : ∀ τ, Steps pP.tables e below (T140.setTop (mkF m 48 #[.val (.ref a)] [(.ref b140), (.ref a)])) τ → Steps pP.tables e below A0 τ := by
          intro τ κ
          refine pq139 τ ?_
          refine XS.ifYes X134.here hx rfl (pc0 := 38) (pc' := 45) rfl (hb hby d_rm_ref_38) rfl ((if0 _ _).trans (teq (by decide : ((0 : Int32) = (0 : Int32)))).1) (by decide) (by decide) ?_
          refine XS.aloadN X134.here hx rfl (hb hby d_rm_ref_45) rfl rfl ?_
          refine st140 _ ?_
          exact κ
        have K140 : Keep h127 h140 [] := (Keep.refl _ _).ext E140
        have KC140 : Keep h0 h140 [] := KC127.trans K140 all0
        have CH140 := C140.1
        have CR140 := CHr.trans CR127 C140
        have Vc140 : Arv Z h140 t140 kb140 .byte (Int32.ofNat (([98, 111, 111, 108, 101, 97, 110] : List Int32)).length) (((([98, 111, 111, 108, 101, 97, 110] : List Int32)).map (fun c : Int32 => c.toInt8.toInt32)).map Value.int) (.int 0) := by first | exact V140 | exact own_cast (by decide) (by decide) V140
        have f142 := (f129.keep K140)
        have f143 := (f130.keep K140 nin0)
        have f144 := (f131.keep K140 nin0)
        have f145 := (f132.keep K140 nin0)
        have f146 := (f133.keep K140 all0)
        obtain ⟨cq148, kq148, q148a, q148b, q148c⟩ := isOf Z140 e140 f142
        obtain ⟨_, _, ⟨T147, L147, k147, n147⟩, -, X147, ⟨Lc147, hQ147, l147, y147, z147⟩, st147⟩ := X140.virtualBack hx (y := (⟨"java/lang/String", "equals", "(Ljava/lang/Object;)Z"⟩ : MethodName)) (z := (⟨"java/lang/String", "equals", "(Ljava/lang/Object;)Z"⟩ : MethodName)) O140 (mvT Z140 (hw _ (List.mem_of_getElem? (i := 78) rfl))) (mvT Z140 (hw _ (List.mem_of_getElem? (i := 79) rfl))) (notFace_of_selects (args := #[]) (mvT Z140 (hw _ (List.mem_of_getElem? (i := 81) rfl)))) (mvT Z140 (hw _ (List.mem_of_getElem? (i := 81) rfl))) (mvT Z140 (hw _ (List.mem_of_getElem? (i := 80) rfl))) (by decide) (StrChars.Road.eqW (W := 0) Z140 heq (kI := 4) (hw _ (List.mem_of_getElem? (i := 6) rfl)) (cs := ds) (ds := ([98, 111, 111, 108, 101, 97, 110] : List Int32)) f142 f143 f144 f145 (StrChars.Road.codOf rfl (fun x hx => (hds x hx).2)) (own_up _ hds) hlen A140 Fv140 Fc140 Vc140 (StrChars.Road.codOf rfl (fun x hx => ((by decide : ∀ c ∈ (([98, 111, 111, 108, 101, 97, 110] : List Int32) : List Int32), ¬ c < 0 ∧ ¬ (255 : Int32) < c) x hx).2)) (own_up _ (by decide : ∀ c ∈ (([98, 111, 111, 108, 101, 97, 110] : List Int32) : List Int32), ¬ c < 0 ∧ ¬ (255 : Int32) < c)) (by decide) (O2.ext f146.2) P5 (by decide) (by decide)) q148a q148c (g := (mkF m 48 #[.val (.ref a)] [(.ref b140), (.ref a)])) rfl (by rw [hml]; rfl) (Steps.refl _) (argsL := [(.ref b140)]) (rest := []) (lenOf pdo_5 rfl) rfl (by show 2 * 0 + _ ≤ _; exact Nat.le_of_eq rfl) (hb hby d_rm_ref_48) (fun _ _ => ⟨rfl, e140, (by decide : 8 + 0 ≤ _), (by decide : 96 + 0 ≤ _)⟩)
        dsimp only [Pt.U, Pt.locs, Pt.cells, Pt.slots] at X147 l147 y147 z147 st147 hQ147
        subst l147 y147 z147
        obtain ⟨hv147, rfl, eq147⟩ := hQ147
        have N147 := Fr.app N134 (Fr.nil n0)
        rcases hv147 with ⟨rfl, hcs147⟩ | ⟨rfl, hcs147⟩
        · skip
          have pq149 : ∀ τ, Steps pP.tables e below (T147.setTop (mkF m 51 #[.val (.ref a)] [(.int (1 : Int32))])) τ → Steps pP.tables e below A0 τ := by
            intro τ κ
            refine pq141 τ ?_
            refine st147.trans ?_
            exact κ
          obtain ⟨T150, X150, e150, st150⟩ := getS2 X147 hx Z140 O140 (host := "") (Or.inl (hw _ (List.mem_of_getElem? (i := 124) rfl))) Via.refl eq147 (OS3.ext f146.2) (g := (mkF m 54 #[.val (.ref a)] [])) rfl (hb hby d_rm_ref_54)
          have pq151 : ∀ τ, Steps pP.tables e below (T150.setTop (mkF m 57 #[.val (.ref a)] [(.ref i3)])) τ → Steps pP.tables e below A0 τ := by
            intro τ κ
            refine pq149 τ ?_
            refine XS.ifNo X147.here hx rfl (hb hby d_rm_ref_51) rfl ((if0 _ _).trans (feq (by decide : ¬ ((1 : Int32) = (0 : Int32)))).1) ?_
            refine st150 _ ?_
            exact κ
          have SKe := Nat.le_trans SK140 (Nat.le_of_eq (congrArg (fun z : Heap => Array.size z) (Eq.symm e150)))
          obtain ⟨fs, hrE, hrun, hended, hEnd⟩ := X150.leaveW SI140 SKe (v := some (.ref i3)) (fun h => by rw [Bd.returns] at h; cases h)
          have CHe := CHr.trans CR140 (CHv.at X150 Z140 hEW CH140)
          have pqE := pq151
          rw [hA0] at pqE
          refine ⟨_, _, pqE _ ?_, hrun, hended, _, _, rfl, ?_, ?_, hEnd.1, hEnd.2.1, hEnd.2.2.1, hEnd.2.2.2.mono (by decide) (by decide)⟩
          · show Steps pP.tables e below (T150.setTop (mkF m 57 #[.val (.ref a)] [(.ref i3)])) _
            exact retOut X150 hx Bd.returns rfl (Or.inr (Or.inr (Or.inr (Or.inr ⟨rfl, rfl, rfl⟩)))) (hb hby d_rm_ref_57) hrE
          · show Q_ref ds i0 i1 i2 i3 i4 h0 n0 _ T150.heap _
            rw [e150]
            exact ⟨by rw [own_pick, if_neg hcs108, if_neg hcs121, if_neg hcs134, if_pos hcs147], N147, KC140⟩
          · show CHr Z consts_1 s.vm s.heap T150.vm T150.heap
            first | (rw [hh, e150]; exact CHe) | (rw [hh]; exact CHe)
        · skip
          have pq152 : ∀ τ, Steps pP.tables e below (T147.setTop (mkF m 51 #[.val (.ref a)] [(.int (0 : Int32))])) τ → Steps pP.tables e below A0 τ := by
            intro τ κ
            refine pq141 τ ?_
            refine st147.trans ?_
            exact κ
          obtain ⟨b153, T153, h153, k153, t153, kb153, X153, e153, E153, SI153, SK153, Z153, O153, A153, Fc153, Fv153, V153, lt153, ltt153, C153, L153, ne153, st153⟩ := ldcCH (s := s) (vm0 := T140.vm) (EL := consts_1) X147 hx Z140 O140 (hw _ (List.mem_of_getElem? (i := 119) rfl)) wS eq147 SI140 SK140 hEW (by decide) CH140 (vs := [(.int (83 : Int32)), (.int (116 : Int32)), (.int (114 : Int32)), (.int (105 : Int32)), (.int (110 : Int32)), (.int (103 : Int32))]) (z := (6 : Int32)) (by decide) (by decide) (by decide) (g := (mkF m 59 #[.val (.ref a)] [(.ref a)])) rfl (hb hby d_rm_ref_59) (n := 24) (by decide) (by decide) (by decide) (by decide)
          have pq154 : ∀ τ, Steps pP.tables e below (T153.setTop (mkF m 61 #[.val (.ref a)] [(.ref b153), (.ref a)])) τ → Steps pP.tables e below A0 τ := by
            intro τ κ
            refine pq152 τ ?_
            refine XS.ifYes X147.here hx rfl (pc0 := 51) (pc' := 58) rfl (hb hby d_rm_ref_51) rfl ((if0 _ _).trans (teq (by decide : ((0 : Int32) = (0 : Int32)))).1) (by decide) (by decide) ?_
            refine XS.aloadN X147.here hx rfl (hb hby d_rm_ref_58) rfl rfl ?_
            refine st153 _ ?_
            exact κ
          have K153 : Keep h140 h153 [] := (Keep.refl _ _).ext E153
          have KC153 : Keep h0 h153 [] := KC140.trans K153 all0
          have CH153 := C153.1
          have CR153 := CHr.trans CR140 C153
          have Vc153 : Arv Z h153 t153 kb153 .byte (Int32.ofNat (([83, 116, 114, 105, 110, 103] : List Int32)).length) (((([83, 116, 114, 105, 110, 103] : List Int32)).map (fun c : Int32 => c.toInt8.toInt32)).map Value.int) (.int 0) := by first | exact V153 | exact own_cast (by decide) (by decide) V153
          have f155 := (f142.keep K153)
          have f156 := (f143.keep K153 nin0)
          have f157 := (f144.keep K153 nin0)
          have f158 := (f145.keep K153 nin0)
          have f159 := (f146.keep K153 all0)
          obtain ⟨cq161, kq161, q161a, q161b, q161c⟩ := isOf Z153 e153 f155
          obtain ⟨_, _, ⟨T160, L160, k160, n160⟩, -, X160, ⟨Lc160, hQ160, l160, y160, z160⟩, st160⟩ := X153.virtualBack hx (y := (⟨"java/lang/String", "equals", "(Ljava/lang/Object;)Z"⟩ : MethodName)) (z := (⟨"java/lang/String", "equals", "(Ljava/lang/Object;)Z"⟩ : MethodName)) O153 (mvT Z153 (hw _ (List.mem_of_getElem? (i := 78) rfl))) (mvT Z153 (hw _ (List.mem_of_getElem? (i := 79) rfl))) (notFace_of_selects (args := #[]) (mvT Z153 (hw _ (List.mem_of_getElem? (i := 81) rfl)))) (mvT Z153 (hw _ (List.mem_of_getElem? (i := 81) rfl))) (mvT Z153 (hw _ (List.mem_of_getElem? (i := 80) rfl))) (by decide) (StrChars.Road.eqW (W := 0) Z153 heq (kI := 4) (hw _ (List.mem_of_getElem? (i := 6) rfl)) (cs := ds) (ds := ([83, 116, 114, 105, 110, 103] : List Int32)) f155 f156 f157 f158 (StrChars.Road.codOf rfl (fun x hx => (hds x hx).2)) (own_up _ hds) hlen A153 Fv153 Fc153 Vc153 (StrChars.Road.codOf rfl (fun x hx => ((by decide : ∀ c ∈ (([83, 116, 114, 105, 110, 103] : List Int32) : List Int32), ¬ c < 0 ∧ ¬ (255 : Int32) < c) x hx).2)) (own_up _ (by decide : ∀ c ∈ (([83, 116, 114, 105, 110, 103] : List Int32) : List Int32), ¬ c < 0 ∧ ¬ (255 : Int32) < c)) (by decide) (O2.ext f159.2) P5 (by decide) (by decide)) q161a q161c (g := (mkF m 61 #[.val (.ref a)] [(.ref b153), (.ref a)])) rfl (by rw [hml]; rfl) (Steps.refl _) (argsL := [(.ref b153)]) (rest := []) (lenOf pdo_5 rfl) rfl (by show 2 * 0 + _ ≤ _; exact Nat.le_of_eq rfl) (hb hby d_rm_ref_61) (fun _ _ => ⟨rfl, e153, (by decide : 10 + 0 ≤ _), (by decide : 124 + 0 ≤ _)⟩)
          dsimp only [Pt.U, Pt.locs, Pt.cells, Pt.slots] at X160 l160 y160 z160 st160 hQ160
          subst l160 y160 z160
          obtain ⟨hv160, rfl, eq160⟩ := hQ160
          have N160 := Fr.app N147 (Fr.nil n0)
          rcases hv160 with ⟨rfl, hcs160⟩ | ⟨rfl, hcs160⟩
          · skip
            have pq162 : ∀ τ, Steps pP.tables e below (T160.setTop (mkF m 64 #[.val (.ref a)] [(.int (1 : Int32))])) τ → Steps pP.tables e below A0 τ := by
              intro τ κ
              refine pq154 τ ?_
              refine st160.trans ?_
              exact κ
            obtain ⟨T163, X163, e163, st163⟩ := getS2 X160 hx Z153 O153 (host := "") (Or.inl (hw _ (List.mem_of_getElem? (i := 125) rfl))) Via.refl eq160 (OS4.ext f159.2) (g := (mkF m 67 #[.val (.ref a)] [])) rfl (hb hby d_rm_ref_67)
            have pq164 : ∀ τ, Steps pP.tables e below (T163.setTop (mkF m 70 #[.val (.ref a)] [(.ref i4)])) τ → Steps pP.tables e below A0 τ := by
              intro τ κ
              refine pq162 τ ?_
              refine XS.ifNo X160.here hx rfl (hb hby d_rm_ref_64) rfl ((if0 _ _).trans (feq (by decide : ¬ ((1 : Int32) = (0 : Int32)))).1) ?_
              refine st163 _ ?_
              exact κ
            have SKe := Nat.le_trans SK153 (Nat.le_of_eq (congrArg (fun z : Heap => Array.size z) (Eq.symm e163)))
            obtain ⟨fs, hrE, hrun, hended, hEnd⟩ := X163.leaveW SI153 SKe (v := some (.ref i4)) (fun h => by rw [Bd.returns] at h; cases h)
            have CHe := CHr.trans CR153 (CHv.at X163 Z153 hEW CH153)
            have pqE := pq164
            rw [hA0] at pqE
            refine ⟨_, _, pqE _ ?_, hrun, hended, _, _, rfl, ?_, ?_, hEnd.1, hEnd.2.1, hEnd.2.2.1, hEnd.2.2.2.mono (by decide) (by decide)⟩
            · show Steps pP.tables e below (T163.setTop (mkF m 70 #[.val (.ref a)] [(.ref i4)])) _
              exact retOut X163 hx Bd.returns rfl (Or.inr (Or.inr (Or.inr (Or.inr ⟨rfl, rfl, rfl⟩)))) (hb hby d_rm_ref_70) hrE
            · show Q_ref ds i0 i1 i2 i3 i4 h0 n0 _ T163.heap _
              rw [e163]
              exact ⟨by rw [own_pick, if_neg hcs108, if_neg hcs121, if_neg hcs134, if_neg hcs147, if_pos hcs160], N160, KC153⟩
            · show CHr Z consts_1 s.vm s.heap T163.vm T163.heap
              first | (rw [hh, e163]; exact CHe) | (rw [hh]; exact CHe)
          · skip
            have pq165 : ∀ τ, Steps pP.tables e below (T160.setTop (mkF m 64 #[.val (.ref a)] [(.int (0 : Int32))])) τ → Steps pP.tables e below A0 τ := by
              intro τ κ
              refine pq154 τ ?_
              refine st160.trans ?_
              exact κ
            have SKe := Nat.le_trans SK153 (Nat.le_of_eq (congrArg (fun z : Heap => Array.size z) (Eq.symm eq160)))
            obtain ⟨fs, hrE, hrun, hended, hEnd⟩ := X160.leaveW SI153 SKe (v := some .null) (fun h => by rw [Bd.returns] at h; cases h)
            have CHe := CHr.trans CR153 (CHv.at X160 Z153 hEW CH153)
            have pqE := pq165
            rw [hA0] at pqE
            refine ⟨_, _, pqE _ ?_, hrun, hended, _, _, rfl, ?_, ?_, hEnd.1, hEnd.2.1, hEnd.2.2.1, hEnd.2.2.2.mono (by decide) (by decide)⟩
            · refine XS.ifYes X160.here hx rfl (pc0 := 64) (pc' := 71) rfl (hb hby d_rm_ref_64) rfl ((if0 _ _).trans (teq (by decide : ((0 : Int32) = (0 : Int32)))).1) (by decide) (by decide) ?_
              refine XS.aconstNull X160.here hx rfl (hb hby d_rm_ref_71) ?_
              show Steps pP.tables e below (T160.setTop (mkF m 72 #[.val (.ref a)] [.null])) _
              exact retOut X160 hx Bd.returns rfl (Or.inr (Or.inr (Or.inr (Or.inr ⟨rfl, rfl, rfl⟩)))) (hb hby d_rm_ref_72) hrE
            · show Q_ref ds i0 i1 i2 i3 i4 h0 n0 _ T160.heap _
              rw [eq160]
              exact ⟨by rw [own_pick, if_neg hcs108, if_neg hcs121, if_neg hcs134, if_neg hcs147, if_neg hcs160], N160, KC153⟩
            · show CHr Z consts_1 s.vm s.heap T160.vm T160.heap
              first | (rw [hh, eq160]; exact CHe) | (rw [hh]; exact CHe)
def Q_rfn (h0 : Heap) (n0 : Nat) (v : Option Value) (h : Heap) (L : List Loc) : Prop := v = some .null ∧ Fr n0 L ∧ h = h0
theorem d_rm_rfn_0 : decode method_6_code 0 = .ok (.aload_n 0, 1) := by decide +kernel
theorem d_rm_rfn_1 : decode method_6_code 1 = .ok (.ifnonnull 5, 3) := by decide +kernel
theorem d_rm_rfn_4 : decode method_6_code 4 = .ok (.aconst_null, 1) := by decide +kernel
theorem d_rm_rfn_5 : decode method_6_code 5 = .ok (.areturn, 1) := by decide +kernel
theorem ef_rm_rfn (m : MethodId)  : entryFrame m #[.null] 1 = mkF m 0 #[.val .null] [] := by first | (simp [entryFrame, mkF, argsToLocals, Value.category]; done) | rfl
set_option maxRecDepth 65536 in
set_option maxHeartbeats 3000000 in
theorem rm_rfn (l : Launch) (Z : State) (a0 : Array Value) (hw : ∀ d ∈ tables_1, d.before a0 Z = true) (ws : List Jvm.Cond)  (h0 : Heap) (n0 : Nat) (Z0 : n0 ≤ h0.size) :
    MetFree l (⟨"interfold/model/LogicTypeNamedPinLaw", "ref", "(Ljava/lang/String;)Linterfold/model/LogicType;"⟩ : MethodName) (head1 (Jvm.Cond.code (⟨"interfold/model/LogicTypeNamedPinLaw", "ref", "(Ljava/lang/String;)Linterfold/model/LogicType;"⟩ : MethodName) method_6_code 1 (some (.object "interfold/model/LogicType")) :: ws) ({ frames := 0, cells := 0, slots := 0, locals := 0 } : Room)) (fun αs U => αs = #[.null] ∧ Z.Warmed39 U.vm ∧ U.heap = h0) (fun _ _ _ _ _ => True) (fun _ U o U' => ∃ v L, o = .returned v ∧ Q_rfn h0 n0 v U'.heap L ∧ FrameEnd U o U' L ({ frames := 0, cells := 0, slots := 0, locals := 0 } : Room).cells ({ frames := 0, cells := 0, slots := 0, locals := 0 } : Room).slots) := by
  refine MetFree.of_bodySF (plainFor_of_name pno_1) hisR ?_
  intro pP e s m args below meth cC s₁ Bd hml0 hP hK
  obtain ⟨rfl, hZ, hh⟩ := hP
  have hx := Bd.exec
  have hby := Bd.bytes
  have hml : cC.maxLocals = 1 := hml0
  have hown : s.vm.findClass "interfold/model/LogicTypeNamedPinLaw" = some m.cls := findClass_of_methodNamed Bd.named
  have hnm := (name_of_methodNamed Bd.named Bd.method).1
  have X0 : Stand pP l e ({ frames := 0, cells := 0, slots := 0, locals := 0 } : Room) s m #[.null] below meth cC s₁ [] 0 0 := Stand.of_body Bd
  have e0 : s₁.heap = h0 := by rw [← hh, Bd.state]; rfl
  have N0 := Fr.nil n0
  have KC0 : Keep h0 h0 [] := Keep.refl h0 _
  obtain ⟨A0, hA0⟩ : ∃ z, z = s₁.setTop (entryFrame m #[.null] 1) := ⟨_, rfl⟩
  have pre0 : ∀ τ, Steps pP.tables e below (s₁.setTop (mkF m 0 #[.val .null] [])) τ → Steps pP.tables e below A0 τ := fun τ κ => by rw [hA0]; exact castTop (ef_rm_rfn m ) κ
  obtain ⟨fs, hrE, hrun, hended, hW, hsame⟩ := X0.leave (v := some .null) (fun h => by rw [Bd.returns] at h; cases h)
  have pqE := pre0
  rw [hA0] at pqE
  refine ⟨_, _, pqE _ ?_, hrun, hended, _, _, rfl, ?_, ⟨_, rfl⟩, hW, hsame.mono (by decide) (by decide)⟩
  · refine XS.aloadN X0.here hx rfl (hb hby d_rm_rfn_0) rfl rfl ?_
    refine XS.ifnonnullNo X0.here hx rfl (hb hby d_rm_rfn_1) rfl ?_
    refine XS.aconstNull X0.here hx rfl (hb hby d_rm_rfn_4) ?_
    show Steps pP.tables e below (s₁.setTop (mkF m 5 #[.val .null] [.null])) _
    exact retOut X0 hx Bd.returns rfl (Or.inr (Or.inr (Or.inr (Or.inr ⟨rfl, rfl, rfl⟩)))) (hb hby d_rm_rfn_5) hrE
  · show Q_rfn h0 n0 _ s₁.heap _
    rw [e0]
    exact ⟨rfl, N0, rfl⟩
def Q_vals (Z : State) (i0 i1 i2 i3 i4 : Addr) (h0 : Heap) (n0 : Nat) (v : Option Value) (h : Heap) (L : List Loc) : Prop := ∃ (b : Addr) (k : ClassId), v = some (.ref b) ∧ Fr n0 L ∧ Keep h0 h [] ∧ h0.size ≤ b ∧ Arv Z h b k (.object "interfold/model/LogicType") 5 [(.ref i0), (.ref i1), (.ref i2), (.ref i3), (.ref i4)] .null
theorem d_rm_vals_0 : decode prog_77_method_1_code 0 = .ok (.getstatic 19, 3) := by decide +kernel
theorem d_rm_vals_3 : decode prog_77_method_1_code 3 = .ok (.invokevirtual 23, 3) := by decide +kernel
theorem d_rm_vals_6 : decode prog_77_method_1_code 6 = .ok (.checkcast 24, 3) := by decide +kernel
theorem d_rm_vals_9 : decode prog_77_method_1_code 9 = .ok (.areturn, 1) := by decide +kernel
theorem ef_rm_vals (m : MethodId)  : entryFrame m #[] 0 = mkF m 0 #[] [] := by first | (simp [entryFrame, mkF, argsToLocals, Value.category]; done) | rfl
set_option maxRecDepth 65536 in
set_option maxHeartbeats 3000000 in
theorem rm_vals (l : Launch) (Z : State) (a0 : Array Value) (hw : ∀ d ∈ tables_1, d.before a0 Z = true) (ws : List Jvm.Cond) (va : Addr) (ka : ClassId) (i0 i1 i2 i3 i4 : Addr) (h0 : Heap) (n0 : Nat) (Z0 : n0 ≤ h0.size) (OV : Sta Z Z.heap "interfold/model/LogicType" "$VALUES" "[Linterfold/model/LogicType;" (.ref va)) (EV : Exa Z Z.heap va "[Linterfold/model/LogicType;") (VV : Arv Z Z.heap va ka (.object "interfold/model/LogicType") 5 [.ref i0, .ref i1, .ref i2, .ref i3, .ref i4] .null) (X00 : Old Z n0 h0) :
    MetFree l (⟨"interfold/model/LogicType", "values", "()[Linterfold/model/LogicType;"⟩ : MethodName) (head1 (Jvm.Cond.code (⟨"interfold/model/LogicType", "values", "()[Linterfold/model/LogicType;"⟩ : MethodName) prog_77_method_1_code 0 (some (.array (.object "interfold/model/LogicType"))) :: ws) ({ frames := 1, cells := 1, slots := 5, locals := 14 } : Room)) (fun αs U => αs = #[] ∧ Z.Warmed39 U.vm ∧ U.heap = h0) (fun _ _ _ _ _ => True) (fun _ U o U' => ∃ v L, o = .returned v ∧ Q_vals Z i0 i1 i2 i3 i4 h0 n0 v U'.heap L ∧ FrameEnd U o U' L ({ frames := 1, cells := 1, slots := 5, locals := 14 } : Room).cells ({ frames := 1, cells := 1, slots := 5, locals := 14 } : Room).slots) := by
  refine MetFree.of_bodySF (plainFor_of_name pno_2) hisR ?_
  intro pP e s m args below meth cC s₁ Bd hml0 hP hK
  obtain ⟨rfl, hZ, hh⟩ := hP
  have hx := Bd.exec
  have hby := Bd.bytes
  have hml : cC.maxLocals = 0 := hml0
  have hown : s.vm.findClass "interfold/model/LogicType" = some m.cls := findClass_of_methodNamed Bd.named
  have hnm := (name_of_methodNamed Bd.named Bd.method).1
  have X0 : Stand pP l e ({ frames := 1, cells := 1, slots := 5, locals := 14 } : Room) s m #[] below meth cC s₁ [] 0 0 := Stand.of_body Bd
  have e0 : s₁.heap = h0 := by rw [← hh, Bd.state]; rfl
  have N0 := Fr.nil n0
  have KC0 : Keep h0 h0 [] := Keep.refl h0 _
  obtain ⟨A0, hA0⟩ : ∃ z, z = s₁.setTop (entryFrame m #[] 0) := ⟨_, rfl⟩
  have pre0 : ∀ τ, Steps pP.tables e below (s₁.setTop (mkF m 0 #[] [])) τ → Steps pP.tables e below A0 τ := fun τ κ => by rw [hA0]; exact castTop (ef_rm_vals m ) κ
  obtain ⟨T101, X101, e101, st101⟩ := getS2 X0 hx hZ hown (host := "") (Or.inl (hw _ (List.mem_of_getElem? (i := 96) rfl))) Via.refl e0 (OV.ext X00.2) (g := (mkF m 0 #[] [])) rfl (hb hby d_rm_vals_0)
  have pq102 : ∀ τ, Steps pP.tables e below (T101.setTop (mkF m 3 #[] [(.ref va)])) τ → Steps pP.tables e below A0 τ := by
    intro τ κ
    refine pre0 τ ?_
    refine st101 _ ?_
    exact κ
  obtain ⟨T103, h103, X103, e103, E103, V103h, A103, st103⟩ := cloneH X101 hx hZ hown (hw _ (List.mem_of_getElem? (i := 98) rfl)) (hw _ (List.mem_of_getElem? (i := 99) rfl)) (hw _ (List.mem_of_getElem? (i := 103) rfl)) (hw _ (List.mem_of_getElem? (i := 101) rfl)) (hw _ (List.mem_of_getElem? (i := 102) rfl)) (hw _ (List.mem_of_getElem? (i := 104) rfl)) e101 (Arv.arh (VV.ext X00.2)) (EV.ext X00.2) (g := (mkF m 3 #[] [(.ref va)])) rfl (by rw [hml]; rfl) rfl (hb hby d_rm_vals_3) (by decide) (W := 0) (cap := 5) (by show 2 * 0 + _ ≤ _; exact Nat.le_of_eq rfl) (by decide) (by decide) (by decide) (by decide)
  obtain ⟨b103, g103⟩ : ∃ z, z = h0.size := ⟨_, rfl⟩
  rw [← g103] at V103h A103 st103
  have V103 : Arv Z h103 b103 ka (.object "interfold/model/LogicType") (5 : Int32) [(.ref i0), (.ref i1), (.ref i2), (.ref i3), (.ref i4)] .null := V103h
  have pq104 : ∀ τ, Steps pP.tables e below (T103.setTop (mkF m 6 #[] [(.ref b103)])) τ → Steps pP.tables e below A0 τ := by
    intro τ κ
    refine pq102 τ ?_
    refine st103 _ ?_
    exact κ
  have KC103 : Keep h0 h103 [] := KC0.ext E103
  obtain ⟨T105, X105, e105, st105⟩ := castY X103 hx hZ hown (hw _ (List.mem_of_getElem? (i := 110) rfl)) e103 (Ins.self A103) (g := (mkF m 6 #[] [(.ref b103)])) rfl rfl (hb hby d_rm_vals_6)
  have pq106 : ∀ τ, Steps pP.tables e below (T105.setTop (mkF m 9 #[] [(.ref b103)])) τ → Steps pP.tables e below A0 τ := by
    intro τ κ
    refine pq104 τ ?_
    refine st105 _ ?_
    exact κ
  obtain ⟨fs, hrE, hrun, hended, hW, hsame⟩ := X105.leave (v := some (.ref b103)) (fun h => by rw [Bd.returns] at h; cases h)
  have pqE := pq106
  rw [hA0] at pqE
  refine ⟨_, _, pqE _ ?_, hrun, hended, _, _, rfl, ?_, ⟨_, rfl⟩, hW, hsame.mono (by decide) (by decide)⟩
  · show Steps pP.tables e below (T105.setTop (mkF m 9 #[] [(.ref b103)])) _
    exact retOut X105 hx Bd.returns rfl (Or.inr (Or.inr (Or.inr (Or.inr ⟨rfl, rfl, rfl⟩)))) (hb hby d_rm_vals_9) hrE
  · show Q_vals Z i0 i1 i2 i3 i4 h0 n0 _ T105.heap _
    rw [e105]
    exact ⟨b103, _, rfl, N0, KC103, (Nat.le_trans (Nat.le_refl _) (Nat.le_of_eq g103.symm)), V103⟩
def Q_nam (ds : List Int32) (i0 i1 i2 i3 i4 : Addr) (h0 : Heap) (n0 : Nat) (v : Option Value) (h : Heap) (L : List Loc) : Prop := v = some (own_pick ds i0 i1 i2 i3 i4) ∧ Fr n0 L ∧ Keep h0 h []
theorem d_rm_nam_0 : decode prog_77_method_4_code 0 = .ok (.invokestatic 46, 3) := by decide +kernel
theorem d_rm_nam_3 : decode prog_77_method_4_code 3 = .ok (.astore_n 1, 1) := by decide +kernel
theorem d_rm_nam_4 : decode prog_77_method_4_code 4 = .ok (.aload_n 1, 1) := by decide +kernel
theorem d_rm_nam_5 : decode prog_77_method_4_code 5 = .ok (.arraylength, 1) := by decide +kernel
theorem d_rm_nam_6 : decode prog_77_method_4_code 6 = .ok (.istore_n 2, 1) := by decide +kernel
theorem d_rm_nam_7 : decode prog_77_method_4_code 7 = .ok (.iconst 0, 1) := by decide +kernel
theorem d_rm_nam_8 : decode prog_77_method_4_code 8 = .ok (.istore_n 3, 1) := by decide +kernel
theorem d_rm_nam_9 : decode prog_77_method_4_code 9 = .ok (.iload_n 3, 1) := by decide +kernel
theorem d_rm_nam_10 : decode prog_77_method_4_code 10 = .ok (.iload_n 2, 1) := by decide +kernel
theorem d_rm_nam_11 : decode prog_77_method_4_code 11 = .ok (.if_icmp .ge 29, 3) := by decide +kernel
theorem d_rm_nam_14 : decode prog_77_method_4_code 14 = .ok (.aload_n 1, 1) := by decide +kernel
theorem d_rm_nam_15 : decode prog_77_method_4_code 15 = .ok (.iload_n 3, 1) := by decide +kernel
theorem d_rm_nam_16 : decode prog_77_method_4_code 16 = .ok (.aaload, 1) := by decide +kernel
theorem d_rm_nam_17 : decode prog_77_method_4_code 17 = .ok (.astore 4, 2) := by decide +kernel
theorem d_rm_nam_19 : decode prog_77_method_4_code 19 = .ok (.aload 4, 2) := by decide +kernel
theorem d_rm_nam_21 : decode prog_77_method_4_code 21 = .ok (.getfield 38, 3) := by decide +kernel
theorem d_rm_nam_24 : decode prog_77_method_4_code 24 = .ok (.aload_n 0, 1) := by decide +kernel
theorem d_rm_nam_25 : decode prog_77_method_4_code 25 = .ok (.invokevirtual 50, 3) := by decide +kernel
theorem d_rm_nam_28 : decode prog_77_method_4_code 28 = .ok (.ifCond .eq 6, 3) := by decide +kernel
theorem d_rm_nam_31 : decode prog_77_method_4_code 31 = .ok (.aload 4, 2) := by decide +kernel
theorem d_rm_nam_33 : decode prog_77_method_4_code 33 = .ok (.areturn, 1) := by decide +kernel
theorem d_rm_nam_34 : decode prog_77_method_4_code 34 = .ok (.iinc 3 1, 3) := by decide +kernel
theorem d_rm_nam_37 : decode prog_77_method_4_code 37 = .ok (.goto (-28), 3) := by decide +kernel
theorem d_rm_nam_40 : decode prog_77_method_4_code 40 = .ok (.aconst_null, 1) := by decide +kernel
theorem d_rm_nam_41 : decode prog_77_method_4_code 41 = .ok (.areturn, 1) := by decide +kernel
theorem ef_rm_nam (m : MethodId) (x0 : Addr) : entryFrame m #[(.ref x0)] 5 = mkF m 0 #[.val (.ref x0), .unset, .unset, .unset, .unset] [] := by first | (simp [entryFrame, mkF, argsToLocals, Value.category]; done) | rfl
set_option maxRecDepth 65536 in
set_option maxHeartbeats 3000000 in
theorem rm_nam (l : Launch) (Z : State) (a0 : Array Value) (hw : ∀ d ∈ tables_1, d.before a0 Z = true) (ws : List Jvm.Cond) (a t : Addr) (kb : ClassId) (ds : List Int32) (va : Addr) (ka : ClassId) (i0 i1 i2 i3 i4 : Addr) (y0 b0 : Addr) (k0 : ClassId) (y1 b1 : Addr) (k1 : ClassId) (y2 b2 : Addr) (k2 : ClassId) (y3 b3 : Addr) (k3 : ClassId) (y4 b4 : Addr) (k4 : ClassId) (G1 : Int32) (h0 : Heap) (n0 : Nat) (Z0 : n0 ≤ h0.size) (OV : Sta Z Z.heap "interfold/model/LogicType" "$VALUES" "[Linterfold/model/LogicType;" (.ref va)) (EV : Exa Z Z.heap va "[Linterfold/model/LogicType;") (VV : Arv Z Z.heap va ka (.object "interfold/model/LogicType") 5 [.ref i0, .ref i1, .ref i2, .ref i3, .ref i4] .null) (FS0 : Fld Z Z.heap i0 "interfold/model/LogicType" "written" "Ljava/lang/String;" (.ref y0)) (ES0 : Exa Z Z.heap y0 "java/lang/String") (FC0 : Fld Z Z.heap y0 "java/lang/String" "coder" "B" (.int 0)) (FV0 : Fld Z Z.heap y0 "java/lang/String" "value" "[B" (.ref b0)) (VS0 : Arv Z Z.heap b0 k0 .byte (Int32.ofNat (([105, 110, 116] : List Int32)).length) (((([105, 110, 116] : List Int32)).map (fun c : Int32 => c.toInt8.toInt32)).map Value.int) (.int 0)) (FS1 : Fld Z Z.heap i1 "interfold/model/LogicType" "written" "Ljava/lang/String;" (.ref y1)) (ES1 : Exa Z Z.heap y1 "java/lang/String") (FC1 : Fld Z Z.heap y1 "java/lang/String" "coder" "B" (.int 0)) (FV1 : Fld Z Z.heap y1 "java/lang/String" "value" "[B" (.ref b1)) (VS1 : Arv Z Z.heap b1 k1 .byte (Int32.ofNat (([108, 111, 110, 103] : List Int32)).length) (((([108, 111, 110, 103] : List Int32)).map (fun c : Int32 => c.toInt8.toInt32)).map Value.int) (.int 0)) (FS2 : Fld Z Z.heap i2 "interfold/model/LogicType" "written" "Ljava/lang/String;" (.ref y2)) (ES2 : Exa Z Z.heap y2 "java/lang/String") (FC2 : Fld Z Z.heap y2 "java/lang/String" "coder" "B" (.int 0)) (FV2 : Fld Z Z.heap y2 "java/lang/String" "value" "[B" (.ref b2)) (VS2 : Arv Z Z.heap b2 k2 .byte (Int32.ofNat (([100, 111, 117, 98, 108, 101] : List Int32)).length) (((([100, 111, 117, 98, 108, 101] : List Int32)).map (fun c : Int32 => c.toInt8.toInt32)).map Value.int) (.int 0)) (FS3 : Fld Z Z.heap i3 "interfold/model/LogicType" "written" "Ljava/lang/String;" (.ref y3)) (ES3 : Exa Z Z.heap y3 "java/lang/String") (FC3 : Fld Z Z.heap y3 "java/lang/String" "coder" "B" (.int 0)) (FV3 : Fld Z Z.heap y3 "java/lang/String" "value" "[B" (.ref b3)) (VS3 : Arv Z Z.heap b3 k3 .byte (Int32.ofNat (([98, 111, 111, 108, 101, 97, 110] : List Int32)).length) (((([98, 111, 111, 108, 101, 97, 110] : List Int32)).map (fun c : Int32 => c.toInt8.toInt32)).map Value.int) (.int 0)) (FS4 : Fld Z Z.heap i4 "interfold/model/LogicType" "written" "Ljava/lang/String;" (.ref y4)) (ES4 : Exa Z Z.heap y4 "java/lang/String") (FC4 : Fld Z Z.heap y4 "java/lang/String" "coder" "B" (.int 0)) (FV4 : Fld Z Z.heap y4 "java/lang/String" "value" "[B" (.ref b4)) (VS4 : Arv Z Z.heap b4 k4 .byte (Int32.ofNat (([83, 116, 114, 105, 110, 103] : List Int32)).length) (((([83, 116, 114, 105, 110, 103] : List Int32)).map (fun c : Int32 => c.toInt8.toInt32)).map Value.int) (.int 0)) (O2 : Sta Z Z.heap "java/lang/String" "COMPACT_STRINGS" "Z" (.int G1)) (P5 : ¬ (G1 = (0 : Int32))) (X00 : Old Z n0 h0) (E_a : Exa Z h0 a "java/lang/String") (F_c : Fld Z h0 a "java/lang/String" "coder" "B" (.int 0)) (F_v : Fld Z h0 a "java/lang/String" "value" "[B" (.ref t)) (V_t : Arv Z h0 t kb .byte (Int32.ofNat ds.length) (((ds).map (fun c : Int32 => c.toInt8.toInt32)).map Value.int) (.int 0)) (hds : ∀ c ∈ ds, ¬ c < 0 ∧ ¬ (255 : Int32) < c) (hlen : ds.length ≤ 4000) :
    MetFree l (⟨"interfold/model/LogicType", "named", "(Ljava/lang/String;)Linterfold/model/LogicType;"⟩ : MethodName) (head1 (Jvm.Cond.code (⟨"interfold/model/LogicType", "named", "(Ljava/lang/String;)Linterfold/model/LogicType;"⟩ : MethodName) prog_77_method_4_code 5 (some (.object "interfold/model/LogicType")) :: ws) ({ frames := 2, cells := 1, slots := 5, locals := 28 } : Room)) (fun αs U => αs = #[(.ref a)] ∧ Z.Warmed39 U.vm ∧ U.heap = h0) (fun _ _ _ _ _ => True) (fun _ U o U' => ∃ v L, o = .returned v ∧ Q_nam ds i0 i1 i2 i3 i4 h0 n0 v U'.heap L ∧ FrameEnd U o U' L ({ frames := 2, cells := 1, slots := 5, locals := 28 } : Room).cells ({ frames := 2, cells := 1, slots := 5, locals := 28 } : Room).slots) := by
  refine MetFree.of_bodySF (plainFor_of_name pno_2) hisR ?_
  intro pP e s m args below meth cC s₁ Bd hml0 hP hK
  obtain ⟨rfl, hZ, hh⟩ := hP
  have hx := Bd.exec
  have hby := Bd.bytes
  have hml : cC.maxLocals = 5 := hml0
  have hown : s.vm.findClass "interfold/model/LogicType" = some m.cls := findClass_of_methodNamed Bd.named
  have hnm := (name_of_methodNamed Bd.named Bd.method).1
  have X0 : Stand pP l e ({ frames := 2, cells := 1, slots := 5, locals := 28 } : Room) s m #[(.ref a)] below meth cC s₁ [] 0 0 := Stand.of_body Bd
  have e0 : s₁.heap = h0 := by rw [← hh, Bd.state]; rfl
  have N0 := Fr.nil n0
  have KC0 : Keep h0 h0 [] := Keep.refl h0 _
  obtain ⟨A0, hA0⟩ : ∃ z, z = s₁.setTop (entryFrame m #[(.ref a)] 5) := ⟨_, rfl⟩
  have pre0 : ∀ τ, Steps pP.tables e below (s₁.setTop (mkF m 0 #[.val (.ref a), .unset, .unset, .unset, .unset] [])) τ → Steps pP.tables e below A0 τ := fun τ κ => by rw [hA0]; exact castTop (ef_rm_nam m a) κ
  have heq : ∀ d ∈ StrChars.Road.wordsEq, d.before a0 Z = true := fun d hd => hw d ((by decide +kernel : ∀ d ∈ StrChars.Road.wordsEq, d ∈ tables_1) d hd)
  obtain ⟨_, _, ⟨T101, L101, k101, n101⟩, -, X101, ⟨Lc101, hQ101, l101, y101, z101⟩, st101⟩ := Jvm.LawKit.callS X0 hx (y := (⟨"interfold/model/LogicType", "values", "()[Linterfold/model/LogicType;"⟩ : MethodName)) hown (mvT hZ (hw _ (List.mem_of_getElem? (i := 93) rfl))) (mvT hZ (hw _ (List.mem_of_getElem? (i := 94) rfl))) (mvT hZ (hw _ (List.mem_of_getElem? (i := 88) rfl))) (mvT hZ (hw _ (List.mem_of_getElem? (i := 95) rfl))) (by decide) (backOf (W := 0) (rm_vals l Z a0 hw [] va ka i0 i1 i2 i3 i4 h0 n0 Z0 OV EV VV X00) hZ (hw _ (List.mem_of_getElem? (i := 95) rfl)) (hw _ (List.mem_of_getElem? (i := 88) rfl)) (by decide) (by decide)) (g := (mkF m 0 #[.val (.ref a), .unset, .unset, .unset, .unset] [])) rfl (by rw [hml]; rfl) (argsL := []) (rest := []) (lenOf pdo_6 rfl) rfl (by show 2 * 0 + _ ≤ _; exact Nat.le_of_eq rfl) (hb hby d_rm_nam_0) (fun _ _ => ⟨rfl, e0, (by decide : 0 + 1 ≤ _), (by decide : 0 + 5 ≤ _)⟩)
  dsimp only [Pt.U, Pt.locs, Pt.cells, Pt.slots] at X101 l101 y101 z101 st101 hQ101
  subst l101 y101 z101
  obtain ⟨b101, k101a, rfl, Nq101, K101, lb101, V101⟩ := hQ101
  have N101 := Fr.app N0 Nq101
  have pq102 : ∀ τ, Steps pP.tables e below (T101.setTop (mkF m 3 #[.val (.ref a), .unset, .unset, .unset, .unset] [(.ref b101)])) τ → Steps pP.tables e below A0 τ := by
    intro τ κ
    refine pre0 τ ?_
    refine st101 _ ?_
    exact κ
  have KC101 : Keep h0 T101.heap [] := KC0.trans K101 all0
  have f103 := (X00.keep K101 all0)
  obtain ⟨cl104, Ar104, q104, S104, M104, Hs104, G104⟩ := id V101
  obtain ⟨cl105, Ar105, q105, S105, M105, Hs105, G105⟩ := id V101
  have hin105 := inb_of (j := (0 : Int32)) S105 ⟨by decide, by decide⟩
  obtain ⟨T106, X106, e106, st106⟩ := getF X101 hx hZ hown (host := "") (Or.inl (hw _ (List.mem_of_getElem? (i := 112) rfl))) Via.refl rfl (FS0.ext f103.2) (g := (mkF m 21 #[.val (.ref a), .val (.ref b101), .val (.int (5 : Int32)), .val (.int (0 : Int32)), .val (.ref i0)] [(.ref i0)])) rfl rfl (hb hby d_rm_nam_21)
  have pq107 : ∀ τ, Steps pP.tables e below (T106.setTop (mkF m 24 #[.val (.ref a), .val (.ref b101), .val (.int (5 : Int32)), .val (.int (0 : Int32)), .val (.ref i0)] [(.ref y0)])) τ → Steps pP.tables e below A0 τ := by
    intro τ κ
    refine pq102 τ ?_
    refine XS.astoreN X101.here hx rfl (hb hby d_rm_nam_3) rfl rfl (l' := #[.val (.ref a), .val (.ref b101), .unset, .unset, .unset]) rfl ?_
    refine XS.aloadN X101.here hx rfl (hb hby d_rm_nam_4) rfl rfl ?_
    refine X101.arraylength hx Ar104.1 (State.isArrayOf_alike hZ.alike Ar104.2.1) (g := (mkF m 5 #[.val (.ref a), .val (.ref b101), .unset, .unset, .unset] [(.ref b101)])) rfl rfl (hb hby d_rm_nam_5) _ ?_
    rw [len_of S104 M104]
    refine XS.istoreN X101.here hx rfl (hb hby d_rm_nam_6) rfl (l' := #[.val (.ref a), .val (.ref b101), .val (.int (5 : Int32)), .unset, .unset]) rfl ?_
    refine XS.iconst X101.here hx rfl (hb hby d_rm_nam_7) ?_
    refine XS.istoreN X101.here hx rfl (hb hby d_rm_nam_8) rfl (l' := #[.val (.ref a), .val (.ref b101), .val (.int (5 : Int32)), .val (.int (0 : Int32)), .unset]) rfl ?_
    refine XS.iloadN X101.here hx rfl (hb hby d_rm_nam_9) rfl ?_
    refine XS.iloadN X101.here hx rfl (hb hby d_rm_nam_10) rfl ?_
    refine XS.icmpNo X101.here hx rfl (hb hby d_rm_nam_11) rfl (tlt (by decide : ((0 : Int32) < (5 : Int32)))).2.1 ?_
    refine XS.aloadN X101.here hx rfl (hb hby d_rm_nam_14) rfl rfl ?_
    refine XS.iloadN X101.here hx rfl (hb hby d_rm_nam_15) rfl ?_
    refine X101.aaload hx (j := (0 : Int32)) (v := (.ref i0)) Ar105.1 (State.isArrayOf_alike hZ.alike Ar105.2.1) rfl Ar105.2.2 hin105 (Has.at Hs105 hin105 rfl) (g := (mkF m 16 #[.val (.ref a), .val (.ref b101), .val (.int (5 : Int32)), .val (.int (0 : Int32)), .unset] [(.int (0 : Int32)), (.ref b101)])) rfl rfl (hb hby d_rm_nam_16) _ ?_
    refine XS.astore X101.here hx rfl (hb hby d_rm_nam_17) rfl rfl (l' := #[.val (.ref a), .val (.ref b101), .val (.int (5 : Int32)), .val (.int (0 : Int32)), .val (.ref i0)]) rfl ?_
    refine XS.aload X101.here hx rfl (hb hby d_rm_nam_19) rfl rfl ?_
    refine st106 _ ?_
    exact κ
  have f108 := (E_a.keep K101)
  have f109 := (F_v.keep K101 nin0)
  have f110 := (F_c.keep K101 nin0)
  have f111 := (V_t.keep K101 nin0)
  obtain ⟨cq113, kq113, q113a, q113b, q113c⟩ := isOf hZ e106 (ES0.ext f103.2)
  obtain ⟨_, _, ⟨T112, L112, k112, n112⟩, -, X112, ⟨Lc112, hQ112, l112, y112, z112⟩, st112⟩ := X106.virtualBack hx (y := (⟨"java/lang/String", "equals", "(Ljava/lang/Object;)Z"⟩ : MethodName)) (z := (⟨"java/lang/String", "equals", "(Ljava/lang/Object;)Z"⟩ : MethodName)) hown (mvT hZ (hw _ (List.mem_of_getElem? (i := 114) rfl))) (mvT hZ (hw _ (List.mem_of_getElem? (i := 79) rfl))) (notFace_of_selects (args := #[]) (mvT hZ (hw _ (List.mem_of_getElem? (i := 81) rfl)))) (mvT hZ (hw _ (List.mem_of_getElem? (i := 81) rfl))) (mvT hZ (hw _ (List.mem_of_getElem? (i := 80) rfl))) (by decide) (StrChars.Road.eqW (W := 0) hZ heq (kI := 4) (hw _ (List.mem_of_getElem? (i := 6) rfl)) (cs := ([105, 110, 116] : List Int32)) (ds := ds) (ES0.ext f103.2) (FV0.ext f103.2) (FC0.ext f103.2) (VS0.ext f103.2) (StrChars.Road.codOf rfl (fun x hx => ((by decide : ∀ c ∈ (([105, 110, 116] : List Int32) : List Int32), ¬ c < 0 ∧ ¬ (255 : Int32) < c) x hx).2)) (own_up _ (by decide : ∀ c ∈ (([105, 110, 116] : List Int32) : List Int32), ¬ c < 0 ∧ ¬ (255 : Int32) < c)) (by decide) f108 f109 f110 f111 (StrChars.Road.codOf rfl (fun x hx => (hds x hx).2)) (own_up _ hds) hlen (O2.ext f103.2) P5 (by decide) (by decide)) q113a q113c (g := (mkF m 25 #[.val (.ref a), .val (.ref b101), .val (.int (5 : Int32)), .val (.int (0 : Int32)), .val (.ref i0)] [(.ref a), (.ref y0)])) rfl (by rw [hml]; rfl) (Steps.refl _) (argsL := [(.ref a)]) (rest := []) (lenOf pdo_5 rfl) rfl (by show 2 * 0 + _ ≤ _; exact Nat.le_of_eq rfl) (hb hby d_rm_nam_25) (fun _ _ => ⟨rfl, e106, (by decide : 1 + 0 ≤ _), (by decide : 5 + 0 ≤ _)⟩)
  dsimp only [Pt.U, Pt.locs, Pt.cells, Pt.slots] at X112 l112 y112 z112 st112 hQ112
  subst l112 y112 z112
  obtain ⟨hv112, rfl, eq112⟩ := hQ112
  have N112 := Fr.app N101 (Fr.nil n0)
  rcases hv112 with ⟨rfl, hcs112⟩ | ⟨rfl, hcs112⟩
  · skip
    have pq114 : ∀ τ, Steps pP.tables e below (T112.setTop (mkF m 28 #[.val (.ref a), .val (.ref b101), .val (.int (5 : Int32)), .val (.int (0 : Int32)), .val (.ref i0)] [(.int (1 : Int32))])) τ → Steps pP.tables e below A0 τ := by
      intro τ κ
      refine pq107 τ ?_
      refine XS.aloadN X106.here hx rfl (hb hby d_rm_nam_24) rfl rfl ?_
      refine st112.trans ?_
      exact κ
    obtain ⟨fs, hrE, hrun, hended, hW, hsame⟩ := X112.leave (v := some (.ref i0)) (fun h => by rw [Bd.returns] at h; cases h)
    have pqE := pq114
    rw [hA0] at pqE
    refine ⟨_, _, pqE _ ?_, hrun, hended, _, _, rfl, ?_, ⟨_, rfl⟩, hW, hsame.mono (by decide) (by decide)⟩
    · refine XS.ifNo X112.here hx rfl (hb hby d_rm_nam_28) rfl ((if0 _ _).trans (feq (by decide : ¬ ((1 : Int32) = (0 : Int32)))).1) ?_
      refine XS.aload X112.here hx rfl (hb hby d_rm_nam_31) rfl rfl ?_
      show Steps pP.tables e below (T112.setTop (mkF m 33 #[.val (.ref a), .val (.ref b101), .val (.int (5 : Int32)), .val (.int (0 : Int32)), .val (.ref i0)] [(.ref i0)])) _
      exact retOut X112 hx Bd.returns rfl (Or.inr (Or.inr (Or.inr (Or.inr ⟨rfl, rfl, rfl⟩)))) (hb hby d_rm_nam_33) hrE
    · show Q_nam ds i0 i1 i2 i3 i4 h0 n0 _ T112.heap _
      rw [eq112]
      exact ⟨by rw [own_pick, if_pos (Eq.symm hcs112)], N112, KC101⟩
  · skip
    have pq115 : ∀ τ, Steps pP.tables e below (T112.setTop (mkF m 28 #[.val (.ref a), .val (.ref b101), .val (.int (5 : Int32)), .val (.int (0 : Int32)), .val (.ref i0)] [(.int (0 : Int32))])) τ → Steps pP.tables e below A0 τ := by
      intro τ κ
      refine pq107 τ ?_
      refine XS.aloadN X106.here hx rfl (hb hby d_rm_nam_24) rfl rfl ?_
      refine st112.trans ?_
      exact κ
    obtain ⟨cl116, Ar116, q116, S116, M116, Hs116, G116⟩ := id V101
    have hin116 := inb_of (j := (1 : Int32)) S116 ⟨by decide, by decide⟩
    obtain ⟨T117, X117, e117, st117⟩ := getF X112 hx hZ hown (host := "") (Or.inl (hw _ (List.mem_of_getElem? (i := 112) rfl))) Via.refl eq112 (FS1.ext f103.2) (g := (mkF m 21 #[.val (.ref a), .val (.ref b101), .val (.int (5 : Int32)), .val (.int (1 : Int32)), .val (.ref i1)] [(.ref i1)])) rfl rfl (hb hby d_rm_nam_21)
    have pq118 : ∀ τ, Steps pP.tables e below (T117.setTop (mkF m 24 #[.val (.ref a), .val (.ref b101), .val (.int (5 : Int32)), .val (.int (1 : Int32)), .val (.ref i1)] [(.ref y1)])) τ → Steps pP.tables e below A0 τ := by
      intro τ κ
      refine pq115 τ ?_
      refine XS.ifYes X112.here hx rfl (pc0 := 28) (pc' := 34) rfl (hb hby d_rm_nam_28) rfl ((if0 _ _).trans (teq (by decide : ((0 : Int32) = (0 : Int32)))).1) (by decide) (by decide) ?_
      refine XS.iinc X112.here hx rfl (hb hby d_rm_nam_34) rfl (l' := #[.val (.ref a), .val (.ref b101), .val (.int (5 : Int32)), .val (.int (1 : Int32)), .val (.ref i0)]) rfl ?_
      refine XS.goto X112.here hx rfl (pc0 := 37) (pc' := 9) rfl (hb hby d_rm_nam_37) (by decide) (by decide) ?_
      refine XS.iloadN X112.here hx rfl (hb hby d_rm_nam_9) rfl ?_
      refine XS.iloadN X112.here hx rfl (hb hby d_rm_nam_10) rfl ?_
      refine XS.icmpNo X112.here hx rfl (hb hby d_rm_nam_11) rfl (tlt (by decide : ((1 : Int32) < (5 : Int32)))).2.1 ?_
      refine XS.aloadN X112.here hx rfl (hb hby d_rm_nam_14) rfl rfl ?_
      refine XS.iloadN X112.here hx rfl (hb hby d_rm_nam_15) rfl ?_
      refine X112.aaload hx (j := (1 : Int32)) (v := (.ref i1)) (by rw [eq112]; exact Ar116.1) (State.isArrayOf_alike hZ.alike Ar116.2.1) rfl Ar116.2.2 hin116 (Has.at Hs116 hin116 rfl) (g := (mkF m 16 #[.val (.ref a), .val (.ref b101), .val (.int (5 : Int32)), .val (.int (1 : Int32)), .val (.ref i0)] [(.int (1 : Int32)), (.ref b101)])) rfl rfl (hb hby d_rm_nam_16) _ ?_
      refine XS.astore X112.here hx rfl (hb hby d_rm_nam_17) rfl rfl (l' := #[.val (.ref a), .val (.ref b101), .val (.int (5 : Int32)), .val (.int (1 : Int32)), .val (.ref i1)]) rfl ?_
      refine XS.aload X112.here hx rfl (hb hby d_rm_nam_19) rfl rfl ?_
      refine st117 _ ?_
      exact κ
    obtain ⟨cq120, kq120, q120a, q120b, q120c⟩ := isOf hZ e117 (ES1.ext f103.2)
    obtain ⟨_, _, ⟨T119, L119, k119, n119⟩, -, X119, ⟨Lc119, hQ119, l119, y119, z119⟩, st119⟩ := X117.virtualBack hx (y := (⟨"java/lang/String", "equals", "(Ljava/lang/Object;)Z"⟩ : MethodName)) (z := (⟨"java/lang/String", "equals", "(Ljava/lang/Object;)Z"⟩ : MethodName)) hown (mvT hZ (hw _ (List.mem_of_getElem? (i := 114) rfl))) (mvT hZ (hw _ (List.mem_of_getElem? (i := 79) rfl))) (notFace_of_selects (args := #[]) (mvT hZ (hw _ (List.mem_of_getElem? (i := 81) rfl)))) (mvT hZ (hw _ (List.mem_of_getElem? (i := 81) rfl))) (mvT hZ (hw _ (List.mem_of_getElem? (i := 80) rfl))) (by decide) (StrChars.Road.eqW (W := 0) hZ heq (kI := 4) (hw _ (List.mem_of_getElem? (i := 6) rfl)) (cs := ([108, 111, 110, 103] : List Int32)) (ds := ds) (ES1.ext f103.2) (FV1.ext f103.2) (FC1.ext f103.2) (VS1.ext f103.2) (StrChars.Road.codOf rfl (fun x hx => ((by decide : ∀ c ∈ (([108, 111, 110, 103] : List Int32) : List Int32), ¬ c < 0 ∧ ¬ (255 : Int32) < c) x hx).2)) (own_up _ (by decide : ∀ c ∈ (([108, 111, 110, 103] : List Int32) : List Int32), ¬ c < 0 ∧ ¬ (255 : Int32) < c)) (by decide) f108 f109 f110 f111 (StrChars.Road.codOf rfl (fun x hx => (hds x hx).2)) (own_up _ hds) hlen (O2.ext f103.2) P5 (by decide) (by decide)) q120a q120c (g := (mkF m 25 #[.val (.ref a), .val (.ref b101), .val (.int (5 : Int32)), .val (.int (1 : Int32)), .val (.ref i1)] [(.ref a), (.ref y1)])) rfl (by rw [hml]; rfl) (Steps.refl _) (argsL := [(.ref a)]) (rest := []) (lenOf pdo_5 rfl) rfl (by show 2 * 0 + _ ≤ _; exact Nat.le_of_eq rfl) (hb hby d_rm_nam_25) (fun _ _ => ⟨rfl, e117, (by decide : 1 + 0 ≤ _), (by decide : 5 + 0 ≤ _)⟩)
    dsimp only [Pt.U, Pt.locs, Pt.cells, Pt.slots] at X119 l119 y119 z119 st119 hQ119
    subst l119 y119 z119
    obtain ⟨hv119, rfl, eq119⟩ := hQ119
    have N119 := Fr.app N112 (Fr.nil n0)
    rcases hv119 with ⟨rfl, hcs119⟩ | ⟨rfl, hcs119⟩
    · skip
      have pq121 : ∀ τ, Steps pP.tables e below (T119.setTop (mkF m 28 #[.val (.ref a), .val (.ref b101), .val (.int (5 : Int32)), .val (.int (1 : Int32)), .val (.ref i1)] [(.int (1 : Int32))])) τ → Steps pP.tables e below A0 τ := by
        intro τ κ
        refine pq118 τ ?_
        refine XS.aloadN X117.here hx rfl (hb hby d_rm_nam_24) rfl rfl ?_
        refine st119.trans ?_
        exact κ
      obtain ⟨fs, hrE, hrun, hended, hW, hsame⟩ := X119.leave (v := some (.ref i1)) (fun h => by rw [Bd.returns] at h; cases h)
      have pqE := pq121
      rw [hA0] at pqE
      refine ⟨_, _, pqE _ ?_, hrun, hended, _, _, rfl, ?_, ⟨_, rfl⟩, hW, hsame.mono (by decide) (by decide)⟩
      · refine XS.ifNo X119.here hx rfl (hb hby d_rm_nam_28) rfl ((if0 _ _).trans (feq (by decide : ¬ ((1 : Int32) = (0 : Int32)))).1) ?_
        refine XS.aload X119.here hx rfl (hb hby d_rm_nam_31) rfl rfl ?_
        show Steps pP.tables e below (T119.setTop (mkF m 33 #[.val (.ref a), .val (.ref b101), .val (.int (5 : Int32)), .val (.int (1 : Int32)), .val (.ref i1)] [(.ref i1)])) _
        exact retOut X119 hx Bd.returns rfl (Or.inr (Or.inr (Or.inr (Or.inr ⟨rfl, rfl, rfl⟩)))) (hb hby d_rm_nam_33) hrE
      · show Q_nam ds i0 i1 i2 i3 i4 h0 n0 _ T119.heap _
        rw [eq119]
        exact ⟨by rw [own_pick, if_neg (fun q => hcs112 (Eq.symm q) : ¬ ds = ([105, 110, 116] : List Int32)), if_pos (Eq.symm hcs119)], N119, KC101⟩
    · skip
      have pq122 : ∀ τ, Steps pP.tables e below (T119.setTop (mkF m 28 #[.val (.ref a), .val (.ref b101), .val (.int (5 : Int32)), .val (.int (1 : Int32)), .val (.ref i1)] [(.int (0 : Int32))])) τ → Steps pP.tables e below A0 τ := by
        intro τ κ
        refine pq118 τ ?_
        refine XS.aloadN X117.here hx rfl (hb hby d_rm_nam_24) rfl rfl ?_
        refine st119.trans ?_
        exact κ
      obtain ⟨cl123, Ar123, q123, S123, M123, Hs123, G123⟩ := id V101
      have hin123 := inb_of (j := (2 : Int32)) S123 ⟨by decide, by decide⟩
      obtain ⟨T124, X124, e124, st124⟩ := getF X119 hx hZ hown (host := "") (Or.inl (hw _ (List.mem_of_getElem? (i := 112) rfl))) Via.refl eq119 (FS2.ext f103.2) (g := (mkF m 21 #[.val (.ref a), .val (.ref b101), .val (.int (5 : Int32)), .val (.int (2 : Int32)), .val (.ref i2)] [(.ref i2)])) rfl rfl (hb hby d_rm_nam_21)
      have pq125 : ∀ τ, Steps pP.tables e below (T124.setTop (mkF m 24 #[.val (.ref a), .val (.ref b101), .val (.int (5 : Int32)), .val (.int (2 : Int32)), .val (.ref i2)] [(.ref y2)])) τ → Steps pP.tables e below A0 τ := by
        intro τ κ
        refine pq122 τ ?_
        refine XS.ifYes X119.here hx rfl (pc0 := 28) (pc' := 34) rfl (hb hby d_rm_nam_28) rfl ((if0 _ _).trans (teq (by decide : ((0 : Int32) = (0 : Int32)))).1) (by decide) (by decide) ?_
        refine XS.iinc X119.here hx rfl (hb hby d_rm_nam_34) rfl (l' := #[.val (.ref a), .val (.ref b101), .val (.int (5 : Int32)), .val (.int (2 : Int32)), .val (.ref i1)]) rfl ?_
        refine XS.goto X119.here hx rfl (pc0 := 37) (pc' := 9) rfl (hb hby d_rm_nam_37) (by decide) (by decide) ?_
        refine XS.iloadN X119.here hx rfl (hb hby d_rm_nam_9) rfl ?_
        refine XS.iloadN X119.here hx rfl (hb hby d_rm_nam_10) rfl ?_
        refine XS.icmpNo X119.here hx rfl (hb hby d_rm_nam_11) rfl (tlt (by decide : ((2 : Int32) < (5 : Int32)))).2.1 ?_
        refine XS.aloadN X119.here hx rfl (hb hby d_rm_nam_14) rfl rfl ?_
        refine XS.iloadN X119.here hx rfl (hb hby d_rm_nam_15) rfl ?_
        refine X119.aaload hx (j := (2 : Int32)) (v := (.ref i2)) (by rw [eq119]; exact Ar123.1) (State.isArrayOf_alike hZ.alike Ar123.2.1) rfl Ar123.2.2 hin123 (Has.at Hs123 hin123 rfl) (g := (mkF m 16 #[.val (.ref a), .val (.ref b101), .val (.int (5 : Int32)), .val (.int (2 : Int32)), .val (.ref i1)] [(.int (2 : Int32)), (.ref b101)])) rfl rfl (hb hby d_rm_nam_16) _ ?_
        refine XS.astore X119.here hx rfl (hb hby d_rm_nam_17) rfl rfl (l' := #[.val (.ref a), .val (.ref b101), .val (.int (5 : Int32)), .val (.int (2 : Int32)), .val (.ref i2)]) rfl ?_
        refine XS.aload X119.here hx rfl (hb hby d_rm_nam_19) rfl rfl ?_
        refine st124 _ ?_
        exact κ
      obtain ⟨cq127, kq127, q127a, q127b, q127c⟩ := isOf hZ e124 (ES2.ext f103.2)
      obtain ⟨_, _, ⟨T126, L126, k126, n126⟩, -, X126, ⟨Lc126, hQ126, l126, y126, z126⟩, st126⟩ := X124.virtualBack hx (y := (⟨"java/lang/String", "equals", "(Ljava/lang/Object;)Z"⟩ : MethodName)) (z := (⟨"java/lang/String", "equals", "(Ljava/lang/Object;)Z"⟩ : MethodName)) hown (mvT hZ (hw _ (List.mem_of_getElem? (i := 114) rfl))) (mvT hZ (hw _ (List.mem_of_getElem? (i := 79) rfl))) (notFace_of_selects (args := #[]) (mvT hZ (hw _ (List.mem_of_getElem? (i := 81) rfl)))) (mvT hZ (hw _ (List.mem_of_getElem? (i := 81) rfl))) (mvT hZ (hw _ (List.mem_of_getElem? (i := 80) rfl))) (by decide) (StrChars.Road.eqW (W := 0) hZ heq (kI := 4) (hw _ (List.mem_of_getElem? (i := 6) rfl)) (cs := ([100, 111, 117, 98, 108, 101] : List Int32)) (ds := ds) (ES2.ext f103.2) (FV2.ext f103.2) (FC2.ext f103.2) (VS2.ext f103.2) (StrChars.Road.codOf rfl (fun x hx => ((by decide : ∀ c ∈ (([100, 111, 117, 98, 108, 101] : List Int32) : List Int32), ¬ c < 0 ∧ ¬ (255 : Int32) < c) x hx).2)) (own_up _ (by decide : ∀ c ∈ (([100, 111, 117, 98, 108, 101] : List Int32) : List Int32), ¬ c < 0 ∧ ¬ (255 : Int32) < c)) (by decide) f108 f109 f110 f111 (StrChars.Road.codOf rfl (fun x hx => (hds x hx).2)) (own_up _ hds) hlen (O2.ext f103.2) P5 (by decide) (by decide)) q127a q127c (g := (mkF m 25 #[.val (.ref a), .val (.ref b101), .val (.int (5 : Int32)), .val (.int (2 : Int32)), .val (.ref i2)] [(.ref a), (.ref y2)])) rfl (by rw [hml]; rfl) (Steps.refl _) (argsL := [(.ref a)]) (rest := []) (lenOf pdo_5 rfl) rfl (by show 2 * 0 + _ ≤ _; exact Nat.le_of_eq rfl) (hb hby d_rm_nam_25) (fun _ _ => ⟨rfl, e124, (by decide : 1 + 0 ≤ _), (by decide : 5 + 0 ≤ _)⟩)
      dsimp only [Pt.U, Pt.locs, Pt.cells, Pt.slots] at X126 l126 y126 z126 st126 hQ126
      subst l126 y126 z126
      obtain ⟨hv126, rfl, eq126⟩ := hQ126
      have N126 := Fr.app N119 (Fr.nil n0)
      rcases hv126 with ⟨rfl, hcs126⟩ | ⟨rfl, hcs126⟩
      · skip
        have pq128 : ∀ τ, Steps pP.tables e below (T126.setTop (mkF m 28 #[.val (.ref a), .val (.ref b101), .val (.int (5 : Int32)), .val (.int (2 : Int32)), .val (.ref i2)] [(.int (1 : Int32))])) τ → Steps pP.tables e below A0 τ := by
          intro τ κ
          refine pq125 τ ?_
          refine XS.aloadN X124.here hx rfl (hb hby d_rm_nam_24) rfl rfl ?_
          refine st126.trans ?_
          exact κ
        obtain ⟨fs, hrE, hrun, hended, hW, hsame⟩ := X126.leave (v := some (.ref i2)) (fun h => by rw [Bd.returns] at h; cases h)
        have pqE := pq128
        rw [hA0] at pqE
        refine ⟨_, _, pqE _ ?_, hrun, hended, _, _, rfl, ?_, ⟨_, rfl⟩, hW, hsame.mono (by decide) (by decide)⟩
        · refine XS.ifNo X126.here hx rfl (hb hby d_rm_nam_28) rfl ((if0 _ _).trans (feq (by decide : ¬ ((1 : Int32) = (0 : Int32)))).1) ?_
          refine XS.aload X126.here hx rfl (hb hby d_rm_nam_31) rfl rfl ?_
          show Steps pP.tables e below (T126.setTop (mkF m 33 #[.val (.ref a), .val (.ref b101), .val (.int (5 : Int32)), .val (.int (2 : Int32)), .val (.ref i2)] [(.ref i2)])) _
          exact retOut X126 hx Bd.returns rfl (Or.inr (Or.inr (Or.inr (Or.inr ⟨rfl, rfl, rfl⟩)))) (hb hby d_rm_nam_33) hrE
        · show Q_nam ds i0 i1 i2 i3 i4 h0 n0 _ T126.heap _
          rw [eq126]
          exact ⟨by rw [own_pick, if_neg (fun q => hcs112 (Eq.symm q) : ¬ ds = ([105, 110, 116] : List Int32)), if_neg (fun q => hcs119 (Eq.symm q) : ¬ ds = ([108, 111, 110, 103] : List Int32)), if_pos (Eq.symm hcs126)], N126, KC101⟩
      · skip
        have pq129 : ∀ τ, Steps pP.tables e below (T126.setTop (mkF m 28 #[.val (.ref a), .val (.ref b101), .val (.int (5 : Int32)), .val (.int (2 : Int32)), .val (.ref i2)] [(.int (0 : Int32))])) τ → Steps pP.tables e below A0 τ := by
          intro τ κ
          refine pq125 τ ?_
          refine XS.aloadN X124.here hx rfl (hb hby d_rm_nam_24) rfl rfl ?_
          refine st126.trans ?_
          exact κ
        obtain ⟨cl130, Ar130, q130, S130, M130, Hs130, G130⟩ := id V101
        have hin130 := inb_of (j := (3 : Int32)) S130 ⟨by decide, by decide⟩
        obtain ⟨T131, X131, e131, st131⟩ := getF X126 hx hZ hown (host := "") (Or.inl (hw _ (List.mem_of_getElem? (i := 112) rfl))) Via.refl eq126 (FS3.ext f103.2) (g := (mkF m 21 #[.val (.ref a), .val (.ref b101), .val (.int (5 : Int32)), .val (.int (3 : Int32)), .val (.ref i3)] [(.ref i3)])) rfl rfl (hb hby d_rm_nam_21)
        have pq132 : ∀ τ, Steps pP.tables e below (T131.setTop (mkF m 24 #[.val (.ref a), .val (.ref b101), .val (.int (5 : Int32)), .val (.int (3 : Int32)), .val (.ref i3)] [(.ref y3)])) τ → Steps pP.tables e below A0 τ := by
          intro τ κ
          refine pq129 τ ?_
          refine XS.ifYes X126.here hx rfl (pc0 := 28) (pc' := 34) rfl (hb hby d_rm_nam_28) rfl ((if0 _ _).trans (teq (by decide : ((0 : Int32) = (0 : Int32)))).1) (by decide) (by decide) ?_
          refine XS.iinc X126.here hx rfl (hb hby d_rm_nam_34) rfl (l' := #[.val (.ref a), .val (.ref b101), .val (.int (5 : Int32)), .val (.int (3 : Int32)), .val (.ref i2)]) rfl ?_
          refine XS.goto X126.here hx rfl (pc0 := 37) (pc' := 9) rfl (hb hby d_rm_nam_37) (by decide) (by decide) ?_
          refine XS.iloadN X126.here hx rfl (hb hby d_rm_nam_9) rfl ?_
          refine XS.iloadN X126.here hx rfl (hb hby d_rm_nam_10) rfl ?_
          refine XS.icmpNo X126.here hx rfl (hb hby d_rm_nam_11) rfl (tlt (by decide : ((3 : Int32) < (5 : Int32)))).2.1 ?_
          refine XS.aloadN X126.here hx rfl (hb hby d_rm_nam_14) rfl rfl ?_
          refine XS.iloadN X126.here hx rfl (hb hby d_rm_nam_15) rfl ?_
          refine X126.aaload hx (j := (3 : Int32)) (v := (.ref i3)) (by rw [eq126]; exact Ar130.1) (State.isArrayOf_alike hZ.alike Ar130.2.1) rfl Ar130.2.2 hin130 (Has.at Hs130 hin130 rfl) (g := (mkF m 16 #[.val (.ref a), .val (.ref b101), .val (.int (5 : Int32)), .val (.int (3 : Int32)), .val (.ref i2)] [(.int (3 : Int32)), (.ref b101)])) rfl rfl (hb hby d_rm_nam_16) _ ?_
          refine XS.astore X126.here hx rfl (hb hby d_rm_nam_17) rfl rfl (l' := #[.val (.ref a), .val (.ref b101), .val (.int (5 : Int32)), .val (.int (3 : Int32)), .val (.ref i3)]) rfl ?_
          refine XS.aload X126.here hx rfl (hb hby d_rm_nam_19) rfl rfl ?_
          refine st131 _ ?_
          exact κ
        obtain ⟨cq134, kq134, q134a, q134b, q134c⟩ := isOf hZ e131 (ES3.ext f103.2)
        obtain ⟨_, _, ⟨T133, L133, k133, n133⟩, -, X133, ⟨Lc133, hQ133, l133, y133, z133⟩, st133⟩ := X131.virtualBack hx (y := (⟨"java/lang/String", "equals", "(Ljava/lang/Object;)Z"⟩ : MethodName)) (z := (⟨"java/lang/String", "equals", "(Ljava/lang/Object;)Z"⟩ : MethodName)) hown (mvT hZ (hw _ (List.mem_of_getElem? (i := 114) rfl))) (mvT hZ (hw _ (List.mem_of_getElem? (i := 79) rfl))) (notFace_of_selects (args := #[]) (mvT hZ (hw _ (List.mem_of_getElem? (i := 81) rfl)))) (mvT hZ (hw _ (List.mem_of_getElem? (i := 81) rfl))) (mvT hZ (hw _ (List.mem_of_getElem? (i := 80) rfl))) (by decide) (StrChars.Road.eqW (W := 0) hZ heq (kI := 4) (hw _ (List.mem_of_getElem? (i := 6) rfl)) (cs := ([98, 111, 111, 108, 101, 97, 110] : List Int32)) (ds := ds) (ES3.ext f103.2) (FV3.ext f103.2) (FC3.ext f103.2) (VS3.ext f103.2) (StrChars.Road.codOf rfl (fun x hx => ((by decide : ∀ c ∈ (([98, 111, 111, 108, 101, 97, 110] : List Int32) : List Int32), ¬ c < 0 ∧ ¬ (255 : Int32) < c) x hx).2)) (own_up _ (by decide : ∀ c ∈ (([98, 111, 111, 108, 101, 97, 110] : List Int32) : List Int32), ¬ c < 0 ∧ ¬ (255 : Int32) < c)) (by decide) f108 f109 f110 f111 (StrChars.Road.codOf rfl (fun x hx => (hds x hx).2)) (own_up _ hds) hlen (O2.ext f103.2) P5 (by decide) (by decide)) q134a q134c (g := (mkF m 25 #[.val (.ref a), .val (.ref b101), .val (.int (5 : Int32)), .val (.int (3 : Int32)), .val (.ref i3)] [(.ref a), (.ref y3)])) rfl (by rw [hml]; rfl) (Steps.refl _) (argsL := [(.ref a)]) (rest := []) (lenOf pdo_5 rfl) rfl (by show 2 * 0 + _ ≤ _; exact Nat.le_of_eq rfl) (hb hby d_rm_nam_25) (fun _ _ => ⟨rfl, e131, (by decide : 1 + 0 ≤ _), (by decide : 5 + 0 ≤ _)⟩)
        dsimp only [Pt.U, Pt.locs, Pt.cells, Pt.slots] at X133 l133 y133 z133 st133 hQ133
        subst l133 y133 z133
        obtain ⟨hv133, rfl, eq133⟩ := hQ133
        have N133 := Fr.app N126 (Fr.nil n0)
        rcases hv133 with ⟨rfl, hcs133⟩ | ⟨rfl, hcs133⟩
        · skip
          have pq135 : ∀ τ, Steps pP.tables e below (T133.setTop (mkF m 28 #[.val (.ref a), .val (.ref b101), .val (.int (5 : Int32)), .val (.int (3 : Int32)), .val (.ref i3)] [(.int (1 : Int32))])) τ → Steps pP.tables e below A0 τ := by
            intro τ κ
            refine pq132 τ ?_
            refine XS.aloadN X131.here hx rfl (hb hby d_rm_nam_24) rfl rfl ?_
            refine st133.trans ?_
            exact κ
          obtain ⟨fs, hrE, hrun, hended, hW, hsame⟩ := X133.leave (v := some (.ref i3)) (fun h => by rw [Bd.returns] at h; cases h)
          have pqE := pq135
          rw [hA0] at pqE
          refine ⟨_, _, pqE _ ?_, hrun, hended, _, _, rfl, ?_, ⟨_, rfl⟩, hW, hsame.mono (by decide) (by decide)⟩
          · refine XS.ifNo X133.here hx rfl (hb hby d_rm_nam_28) rfl ((if0 _ _).trans (feq (by decide : ¬ ((1 : Int32) = (0 : Int32)))).1) ?_
            refine XS.aload X133.here hx rfl (hb hby d_rm_nam_31) rfl rfl ?_
            show Steps pP.tables e below (T133.setTop (mkF m 33 #[.val (.ref a), .val (.ref b101), .val (.int (5 : Int32)), .val (.int (3 : Int32)), .val (.ref i3)] [(.ref i3)])) _
            exact retOut X133 hx Bd.returns rfl (Or.inr (Or.inr (Or.inr (Or.inr ⟨rfl, rfl, rfl⟩)))) (hb hby d_rm_nam_33) hrE
          · show Q_nam ds i0 i1 i2 i3 i4 h0 n0 _ T133.heap _
            rw [eq133]
            exact ⟨by rw [own_pick, if_neg (fun q => hcs112 (Eq.symm q) : ¬ ds = ([105, 110, 116] : List Int32)), if_neg (fun q => hcs119 (Eq.symm q) : ¬ ds = ([108, 111, 110, 103] : List Int32)), if_neg (fun q => hcs126 (Eq.symm q) : ¬ ds = ([100, 111, 117, 98, 108, 101] : List Int32)), if_pos (Eq.symm hcs133)], N133, KC101⟩
        · skip
          have pq136 : ∀ τ, Steps pP.tables e below (T133.setTop (mkF m 28 #[.val (.ref a), .val (.ref b101), .val (.int (5 : Int32)), .val (.int (3 : Int32)), .val (.ref i3)] [(.int (0 : Int32))])) τ → Steps pP.tables e below A0 τ := by
            intro τ κ
            refine pq132 τ ?_
            refine XS.aloadN X131.here hx rfl (hb hby d_rm_nam_24) rfl rfl ?_
            refine st133.trans ?_
            exact κ
          obtain ⟨cl137, Ar137, q137, S137, M137, Hs137, G137⟩ := id V101
          have hin137 := inb_of (j := (4 : Int32)) S137 ⟨by decide, by decide⟩
          obtain ⟨T138, X138, e138, st138⟩ := getF X133 hx hZ hown (host := "") (Or.inl (hw _ (List.mem_of_getElem? (i := 112) rfl))) Via.refl eq133 (FS4.ext f103.2) (g := (mkF m 21 #[.val (.ref a), .val (.ref b101), .val (.int (5 : Int32)), .val (.int (4 : Int32)), .val (.ref i4)] [(.ref i4)])) rfl rfl (hb hby d_rm_nam_21)
          have pq139 : ∀ τ, Steps pP.tables e below (T138.setTop (mkF m 24 #[.val (.ref a), .val (.ref b101), .val (.int (5 : Int32)), .val (.int (4 : Int32)), .val (.ref i4)] [(.ref y4)])) τ → Steps pP.tables e below A0 τ := by
            intro τ κ
            refine pq136 τ ?_
            refine XS.ifYes X133.here hx rfl (pc0 := 28) (pc' := 34) rfl (hb hby d_rm_nam_28) rfl ((if0 _ _).trans (teq (by decide : ((0 : Int32) = (0 : Int32)))).1) (by decide) (by decide) ?_
            refine XS.iinc X133.here hx rfl (hb hby d_rm_nam_34) rfl (l' := #[.val (.ref a), .val (.ref b101), .val (.int (5 : Int32)), .val (.int (4 : Int32)), .val (.ref i3)]) rfl ?_
            refine XS.goto X133.here hx rfl (pc0 := 37) (pc' := 9) rfl (hb hby d_rm_nam_37) (by decide) (by decide) ?_
            refine XS.iloadN X133.here hx rfl (hb hby d_rm_nam_9) rfl ?_
            refine XS.iloadN X133.here hx rfl (hb hby d_rm_nam_10) rfl ?_
            refine XS.icmpNo X133.here hx rfl (hb hby d_rm_nam_11) rfl (tlt (by decide : ((4 : Int32) < (5 : Int32)))).2.1 ?_
            refine XS.aloadN X133.here hx rfl (hb hby d_rm_nam_14) rfl rfl ?_
            refine XS.iloadN X133.here hx rfl (hb hby d_rm_nam_15) rfl ?_
            refine X133.aaload hx (j := (4 : Int32)) (v := (.ref i4)) (by rw [eq133]; exact Ar137.1) (State.isArrayOf_alike hZ.alike Ar137.2.1) rfl Ar137.2.2 hin137 (Has.at Hs137 hin137 rfl) (g := (mkF m 16 #[.val (.ref a), .val (.ref b101), .val (.int (5 : Int32)), .val (.int (4 : Int32)), .val (.ref i3)] [(.int (4 : Int32)), (.ref b101)])) rfl rfl (hb hby d_rm_nam_16) _ ?_
            refine XS.astore X133.here hx rfl (hb hby d_rm_nam_17) rfl rfl (l' := #[.val (.ref a), .val (.ref b101), .val (.int (5 : Int32)), .val (.int (4 : Int32)), .val (.ref i4)]) rfl ?_
            refine XS.aload X133.here hx rfl (hb hby d_rm_nam_19) rfl rfl ?_
            refine st138 _ ?_
            exact κ
          obtain ⟨cq141, kq141, q141a, q141b, q141c⟩ := isOf hZ e138 (ES4.ext f103.2)
          obtain ⟨_, _, ⟨T140, L140, k140, n140⟩, -, X140, ⟨Lc140, hQ140, l140, y140, z140⟩, st140⟩ := X138.virtualBack hx (y := (⟨"java/lang/String", "equals", "(Ljava/lang/Object;)Z"⟩ : MethodName)) (z := (⟨"java/lang/String", "equals", "(Ljava/lang/Object;)Z"⟩ : MethodName)) hown (mvT hZ (hw _ (List.mem_of_getElem? (i := 114) rfl))) (mvT hZ (hw _ (List.mem_of_getElem? (i := 79) rfl))) (notFace_of_selects (args := #[]) (mvT hZ (hw _ (List.mem_of_getElem? (i := 81) rfl)))) (mvT hZ (hw _ (List.mem_of_getElem? (i := 81) rfl))) (mvT hZ (hw _ (List.mem_of_getElem? (i := 80) rfl))) (by decide) (StrChars.Road.eqW (W := 0) hZ heq (kI := 4) (hw _ (List.mem_of_getElem? (i := 6) rfl)) (cs := ([83, 116, 114, 105, 110, 103] : List Int32)) (ds := ds) (ES4.ext f103.2) (FV4.ext f103.2) (FC4.ext f103.2) (VS4.ext f103.2) (StrChars.Road.codOf rfl (fun x hx => ((by decide : ∀ c ∈ (([83, 116, 114, 105, 110, 103] : List Int32) : List Int32), ¬ c < 0 ∧ ¬ (255 : Int32) < c) x hx).2)) (own_up _ (by decide : ∀ c ∈ (([83, 116, 114, 105, 110, 103] : List Int32) : List Int32), ¬ c < 0 ∧ ¬ (255 : Int32) < c)) (by decide) f108 f109 f110 f111 (StrChars.Road.codOf rfl (fun x hx => (hds x hx).2)) (own_up _ hds) hlen (O2.ext f103.2) P5 (by decide) (by decide)) q141a q141c (g := (mkF m 25 #[.val (.ref a), .val (.ref b101), .val (.int (5 : Int32)), .val (.int (4 : Int32)), .val (.ref i4)] [(.ref a), (.ref y4)])) rfl (by rw [hml]; rfl) (Steps.refl _) (argsL := [(.ref a)]) (rest := []) (lenOf pdo_5 rfl) rfl (by show 2 * 0 + _ ≤ _; exact Nat.le_of_eq rfl) (hb hby d_rm_nam_25) (fun _ _ => ⟨rfl, e138, (by decide : 1 + 0 ≤ _), (by decide : 5 + 0 ≤ _)⟩)
          dsimp only [Pt.U, Pt.locs, Pt.cells, Pt.slots] at X140 l140 y140 z140 st140 hQ140
          subst l140 y140 z140
          obtain ⟨hv140, rfl, eq140⟩ := hQ140
          have N140 := Fr.app N133 (Fr.nil n0)
          rcases hv140 with ⟨rfl, hcs140⟩ | ⟨rfl, hcs140⟩
          · skip
            have pq142 : ∀ τ, Steps pP.tables e below (T140.setTop (mkF m 28 #[.val (.ref a), .val (.ref b101), .val (.int (5 : Int32)), .val (.int (4 : Int32)), .val (.ref i4)] [(.int (1 : Int32))])) τ → Steps pP.tables e below A0 τ := by
              intro τ κ
              refine pq139 τ ?_
              refine XS.aloadN X138.here hx rfl (hb hby d_rm_nam_24) rfl rfl ?_
              refine st140.trans ?_
              exact κ
            obtain ⟨fs, hrE, hrun, hended, hW, hsame⟩ := X140.leave (v := some (.ref i4)) (fun h => by rw [Bd.returns] at h; cases h)
            have pqE := pq142
            rw [hA0] at pqE
            refine ⟨_, _, pqE _ ?_, hrun, hended, _, _, rfl, ?_, ⟨_, rfl⟩, hW, hsame.mono (by decide) (by decide)⟩
            · refine XS.ifNo X140.here hx rfl (hb hby d_rm_nam_28) rfl ((if0 _ _).trans (feq (by decide : ¬ ((1 : Int32) = (0 : Int32)))).1) ?_
              refine XS.aload X140.here hx rfl (hb hby d_rm_nam_31) rfl rfl ?_
              show Steps pP.tables e below (T140.setTop (mkF m 33 #[.val (.ref a), .val (.ref b101), .val (.int (5 : Int32)), .val (.int (4 : Int32)), .val (.ref i4)] [(.ref i4)])) _
              exact retOut X140 hx Bd.returns rfl (Or.inr (Or.inr (Or.inr (Or.inr ⟨rfl, rfl, rfl⟩)))) (hb hby d_rm_nam_33) hrE
            · show Q_nam ds i0 i1 i2 i3 i4 h0 n0 _ T140.heap _
              rw [eq140]
              exact ⟨by rw [own_pick, if_neg (fun q => hcs112 (Eq.symm q) : ¬ ds = ([105, 110, 116] : List Int32)), if_neg (fun q => hcs119 (Eq.symm q) : ¬ ds = ([108, 111, 110, 103] : List Int32)), if_neg (fun q => hcs126 (Eq.symm q) : ¬ ds = ([100, 111, 117, 98, 108, 101] : List Int32)), if_neg (fun q => hcs133 (Eq.symm q) : ¬ ds = ([98, 111, 111, 108, 101, 97, 110] : List Int32)), if_pos (Eq.symm hcs140)], N140, KC101⟩
          · skip
            have pq143 : ∀ τ, Steps pP.tables e below (T140.setTop (mkF m 28 #[.val (.ref a), .val (.ref b101), .val (.int (5 : Int32)), .val (.int (4 : Int32)), .val (.ref i4)] [(.int (0 : Int32))])) τ → Steps pP.tables e below A0 τ := by
              intro τ κ
              refine pq139 τ ?_
              refine XS.aloadN X138.here hx rfl (hb hby d_rm_nam_24) rfl rfl ?_
              refine st140.trans ?_
              exact κ
            obtain ⟨fs, hrE, hrun, hended, hW, hsame⟩ := X140.leave (v := some .null) (fun h => by rw [Bd.returns] at h; cases h)
            have pqE := pq143
            rw [hA0] at pqE
            refine ⟨_, _, pqE _ ?_, hrun, hended, _, _, rfl, ?_, ⟨_, rfl⟩, hW, hsame.mono (by decide) (by decide)⟩
            · refine XS.ifYes X140.here hx rfl (pc0 := 28) (pc' := 34) rfl (hb hby d_rm_nam_28) rfl ((if0 _ _).trans (teq (by decide : ((0 : Int32) = (0 : Int32)))).1) (by decide) (by decide) ?_
              refine XS.iinc X140.here hx rfl (hb hby d_rm_nam_34) rfl (l' := #[.val (.ref a), .val (.ref b101), .val (.int (5 : Int32)), .val (.int (5 : Int32)), .val (.ref i4)]) rfl ?_
              refine XS.goto X140.here hx rfl (pc0 := 37) (pc' := 9) rfl (hb hby d_rm_nam_37) (by decide) (by decide) ?_
              refine XS.iloadN X140.here hx rfl (hb hby d_rm_nam_9) rfl ?_
              refine XS.iloadN X140.here hx rfl (hb hby d_rm_nam_10) rfl ?_
              refine XS.icmpYes X140.here hx rfl (pc0 := 11) (pc' := 40) rfl (hb hby d_rm_nam_11) rfl (flt (by decide : ¬ ((5 : Int32) < (5 : Int32)))).2.1 (by decide) (by decide) ?_
              refine XS.aconstNull X140.here hx rfl (hb hby d_rm_nam_40) ?_
              show Steps pP.tables e below (T140.setTop (mkF m 41 #[.val (.ref a), .val (.ref b101), .val (.int (5 : Int32)), .val (.int (5 : Int32)), .val (.ref i4)] [.null])) _
              exact retOut X140 hx Bd.returns rfl (Or.inr (Or.inr (Or.inr (Or.inr ⟨rfl, rfl, rfl⟩)))) (hb hby d_rm_nam_41) hrE
            · show Q_nam ds i0 i1 i2 i3 i4 h0 n0 _ T140.heap _
              rw [eq140]
              exact ⟨by rw [own_pick, if_neg (fun q => hcs112 (Eq.symm q) : ¬ ds = ([105, 110, 116] : List Int32)), if_neg (fun q => hcs119 (Eq.symm q) : ¬ ds = ([108, 111, 110, 103] : List Int32)), if_neg (fun q => hcs126 (Eq.symm q) : ¬ ds = ([100, 111, 117, 98, 108, 101] : List Int32)), if_neg (fun q => hcs133 (Eq.symm q) : ¬ ds = ([98, 111, 111, 108, 101, 97, 110] : List Int32)), if_neg (fun q => hcs140 (Eq.symm q) : ¬ ds = ([83, 116, 114, 105, 110, 103] : List Int32))], N140, KC101⟩
def Q_nnl (h0 : Heap) (n0 : Nat) (v : Option Value) (h : Heap) (L : List Loc) : Prop := v = some .null ∧ Fr n0 L ∧ Keep h0 h []
theorem d_rm_nnl_0 : decode prog_77_method_4_code 0 = .ok (.invokestatic 46, 3) := by decide +kernel
theorem d_rm_nnl_3 : decode prog_77_method_4_code 3 = .ok (.astore_n 1, 1) := by decide +kernel
theorem d_rm_nnl_4 : decode prog_77_method_4_code 4 = .ok (.aload_n 1, 1) := by decide +kernel
theorem d_rm_nnl_5 : decode prog_77_method_4_code 5 = .ok (.arraylength, 1) := by decide +kernel
theorem d_rm_nnl_6 : decode prog_77_method_4_code 6 = .ok (.istore_n 2, 1) := by decide +kernel
theorem d_rm_nnl_7 : decode prog_77_method_4_code 7 = .ok (.iconst 0, 1) := by decide +kernel
theorem d_rm_nnl_8 : decode prog_77_method_4_code 8 = .ok (.istore_n 3, 1) := by decide +kernel
theorem d_rm_nnl_9 : decode prog_77_method_4_code 9 = .ok (.iload_n 3, 1) := by decide +kernel
theorem d_rm_nnl_10 : decode prog_77_method_4_code 10 = .ok (.iload_n 2, 1) := by decide +kernel
theorem d_rm_nnl_11 : decode prog_77_method_4_code 11 = .ok (.if_icmp .ge 29, 3) := by decide +kernel
theorem d_rm_nnl_14 : decode prog_77_method_4_code 14 = .ok (.aload_n 1, 1) := by decide +kernel
theorem d_rm_nnl_15 : decode prog_77_method_4_code 15 = .ok (.iload_n 3, 1) := by decide +kernel
theorem d_rm_nnl_16 : decode prog_77_method_4_code 16 = .ok (.aaload, 1) := by decide +kernel
theorem d_rm_nnl_17 : decode prog_77_method_4_code 17 = .ok (.astore 4, 2) := by decide +kernel
theorem d_rm_nnl_19 : decode prog_77_method_4_code 19 = .ok (.aload 4, 2) := by decide +kernel
theorem d_rm_nnl_21 : decode prog_77_method_4_code 21 = .ok (.getfield 38, 3) := by decide +kernel
theorem d_rm_nnl_24 : decode prog_77_method_4_code 24 = .ok (.aload_n 0, 1) := by decide +kernel
theorem d_rm_nnl_25 : decode prog_77_method_4_code 25 = .ok (.invokevirtual 50, 3) := by decide +kernel
theorem d_rm_nnl_28 : decode prog_77_method_4_code 28 = .ok (.ifCond .eq 6, 3) := by decide +kernel
theorem d_rm_nnl_34 : decode prog_77_method_4_code 34 = .ok (.iinc 3 1, 3) := by decide +kernel
theorem d_rm_nnl_37 : decode prog_77_method_4_code 37 = .ok (.goto (-28), 3) := by decide +kernel
theorem d_rm_nnl_40 : decode prog_77_method_4_code 40 = .ok (.aconst_null, 1) := by decide +kernel
theorem d_rm_nnl_41 : decode prog_77_method_4_code 41 = .ok (.areturn, 1) := by decide +kernel
theorem ef_rm_nnl (m : MethodId)  : entryFrame m #[.null] 5 = mkF m 0 #[.val .null, .unset, .unset, .unset, .unset] [] := by first | (simp [entryFrame, mkF, argsToLocals, Value.category]; done) | rfl
set_option maxRecDepth 65536 in
set_option maxHeartbeats 3000000 in
theorem rm_nnl (l : Launch) (Z : State) (a0 : Array Value) (hw : ∀ d ∈ tables_1, d.before a0 Z = true) (ws : List Jvm.Cond)  (va : Addr) (ka : ClassId) (i0 i1 i2 i3 i4 : Addr) (y0 b0 : Addr) (k0 : ClassId) (y1 b1 : Addr) (k1 : ClassId) (y2 b2 : Addr) (k2 : ClassId) (y3 b3 : Addr) (k3 : ClassId) (y4 b4 : Addr) (k4 : ClassId) (h0 : Heap) (n0 : Nat) (Z0 : n0 ≤ h0.size) (OV : Sta Z Z.heap "interfold/model/LogicType" "$VALUES" "[Linterfold/model/LogicType;" (.ref va)) (EV : Exa Z Z.heap va "[Linterfold/model/LogicType;") (VV : Arv Z Z.heap va ka (.object "interfold/model/LogicType") 5 [.ref i0, .ref i1, .ref i2, .ref i3, .ref i4] .null) (FS0 : Fld Z Z.heap i0 "interfold/model/LogicType" "written" "Ljava/lang/String;" (.ref y0)) (ES0 : Exa Z Z.heap y0 "java/lang/String") (FC0 : Fld Z Z.heap y0 "java/lang/String" "coder" "B" (.int 0)) (FV0 : Fld Z Z.heap y0 "java/lang/String" "value" "[B" (.ref b0)) (VS0 : Arv Z Z.heap b0 k0 .byte (Int32.ofNat (([105, 110, 116] : List Int32)).length) (((([105, 110, 116] : List Int32)).map (fun c : Int32 => c.toInt8.toInt32)).map Value.int) (.int 0)) (FS1 : Fld Z Z.heap i1 "interfold/model/LogicType" "written" "Ljava/lang/String;" (.ref y1)) (ES1 : Exa Z Z.heap y1 "java/lang/String") (FC1 : Fld Z Z.heap y1 "java/lang/String" "coder" "B" (.int 0)) (FV1 : Fld Z Z.heap y1 "java/lang/String" "value" "[B" (.ref b1)) (VS1 : Arv Z Z.heap b1 k1 .byte (Int32.ofNat (([108, 111, 110, 103] : List Int32)).length) (((([108, 111, 110, 103] : List Int32)).map (fun c : Int32 => c.toInt8.toInt32)).map Value.int) (.int 0)) (FS2 : Fld Z Z.heap i2 "interfold/model/LogicType" "written" "Ljava/lang/String;" (.ref y2)) (ES2 : Exa Z Z.heap y2 "java/lang/String") (FC2 : Fld Z Z.heap y2 "java/lang/String" "coder" "B" (.int 0)) (FV2 : Fld Z Z.heap y2 "java/lang/String" "value" "[B" (.ref b2)) (VS2 : Arv Z Z.heap b2 k2 .byte (Int32.ofNat (([100, 111, 117, 98, 108, 101] : List Int32)).length) (((([100, 111, 117, 98, 108, 101] : List Int32)).map (fun c : Int32 => c.toInt8.toInt32)).map Value.int) (.int 0)) (FS3 : Fld Z Z.heap i3 "interfold/model/LogicType" "written" "Ljava/lang/String;" (.ref y3)) (ES3 : Exa Z Z.heap y3 "java/lang/String") (FC3 : Fld Z Z.heap y3 "java/lang/String" "coder" "B" (.int 0)) (FV3 : Fld Z Z.heap y3 "java/lang/String" "value" "[B" (.ref b3)) (VS3 : Arv Z Z.heap b3 k3 .byte (Int32.ofNat (([98, 111, 111, 108, 101, 97, 110] : List Int32)).length) (((([98, 111, 111, 108, 101, 97, 110] : List Int32)).map (fun c : Int32 => c.toInt8.toInt32)).map Value.int) (.int 0)) (FS4 : Fld Z Z.heap i4 "interfold/model/LogicType" "written" "Ljava/lang/String;" (.ref y4)) (ES4 : Exa Z Z.heap y4 "java/lang/String") (FC4 : Fld Z Z.heap y4 "java/lang/String" "coder" "B" (.int 0)) (FV4 : Fld Z Z.heap y4 "java/lang/String" "value" "[B" (.ref b4)) (VS4 : Arv Z Z.heap b4 k4 .byte (Int32.ofNat (([83, 116, 114, 105, 110, 103] : List Int32)).length) (((([83, 116, 114, 105, 110, 103] : List Int32)).map (fun c : Int32 => c.toInt8.toInt32)).map Value.int) (.int 0)) (X00 : Old Z n0 h0) :
    MetFree l (⟨"interfold/model/LogicType", "named", "(Ljava/lang/String;)Linterfold/model/LogicType;"⟩ : MethodName) (head1 (Jvm.Cond.code (⟨"interfold/model/LogicType", "named", "(Ljava/lang/String;)Linterfold/model/LogicType;"⟩ : MethodName) prog_77_method_4_code 5 (some (.object "interfold/model/LogicType")) :: ws) ({ frames := 2, cells := 1, slots := 5, locals := 25 } : Room)) (fun αs U => αs = #[.null] ∧ Z.Warmed39 U.vm ∧ U.heap = h0) (fun _ _ _ _ _ => True) (fun _ U o U' => ∃ v L, o = .returned v ∧ Q_nnl h0 n0 v U'.heap L ∧ FrameEnd U o U' L ({ frames := 2, cells := 1, slots := 5, locals := 25 } : Room).cells ({ frames := 2, cells := 1, slots := 5, locals := 25 } : Room).slots) := by
  refine MetFree.of_bodySF (plainFor_of_name pno_2) hisR ?_
  intro pP e s m args below meth cC s₁ Bd hml0 hP hK
  obtain ⟨rfl, hZ, hh⟩ := hP
  have hx := Bd.exec
  have hby := Bd.bytes
  have hml : cC.maxLocals = 5 := hml0
  have hown : s.vm.findClass "interfold/model/LogicType" = some m.cls := findClass_of_methodNamed Bd.named
  have hnm := (name_of_methodNamed Bd.named Bd.method).1
  have X0 : Stand pP l e ({ frames := 2, cells := 1, slots := 5, locals := 25 } : Room) s m #[.null] below meth cC s₁ [] 0 0 := Stand.of_body Bd
  have e0 : s₁.heap = h0 := by rw [← hh, Bd.state]; rfl
  have N0 := Fr.nil n0
  have KC0 : Keep h0 h0 [] := Keep.refl h0 _
  obtain ⟨A0, hA0⟩ : ∃ z, z = s₁.setTop (entryFrame m #[.null] 5) := ⟨_, rfl⟩
  have pre0 : ∀ τ, Steps pP.tables e below (s₁.setTop (mkF m 0 #[.val .null, .unset, .unset, .unset, .unset] [])) τ → Steps pP.tables e below A0 τ := fun τ κ => by rw [hA0]; exact castTop (ef_rm_nnl m ) κ
  obtain ⟨_, _, ⟨T101, L101, k101, n101⟩, -, X101, ⟨Lc101, hQ101, l101, y101, z101⟩, st101⟩ := Jvm.LawKit.callS X0 hx (y := (⟨"interfold/model/LogicType", "values", "()[Linterfold/model/LogicType;"⟩ : MethodName)) hown (mvT hZ (hw _ (List.mem_of_getElem? (i := 93) rfl))) (mvT hZ (hw _ (List.mem_of_getElem? (i := 94) rfl))) (mvT hZ (hw _ (List.mem_of_getElem? (i := 88) rfl))) (mvT hZ (hw _ (List.mem_of_getElem? (i := 95) rfl))) (by decide) (backOf (W := 0) (rm_vals l Z a0 hw [] va ka i0 i1 i2 i3 i4 h0 n0 Z0 OV EV VV X00) hZ (hw _ (List.mem_of_getElem? (i := 95) rfl)) (hw _ (List.mem_of_getElem? (i := 88) rfl)) (by decide) (by decide)) (g := (mkF m 0 #[.val .null, .unset, .unset, .unset, .unset] [])) rfl (by rw [hml]; rfl) (argsL := []) (rest := []) (lenOf pdo_6 rfl) rfl (by show 2 * 0 + _ ≤ _; exact Nat.le_of_eq rfl) (hb hby d_rm_nnl_0) (fun _ _ => ⟨rfl, e0, (by decide : 0 + 1 ≤ _), (by decide : 0 + 5 ≤ _)⟩)
  dsimp only [Pt.U, Pt.locs, Pt.cells, Pt.slots] at X101 l101 y101 z101 st101 hQ101
  subst l101 y101 z101
  obtain ⟨b101, k101a, rfl, Nq101, K101, lb101, V101⟩ := hQ101
  have N101 := Fr.app N0 Nq101
  have pq102 : ∀ τ, Steps pP.tables e below (T101.setTop (mkF m 3 #[.val .null, .unset, .unset, .unset, .unset] [(.ref b101)])) τ → Steps pP.tables e below A0 τ := by
    intro τ κ
    refine pre0 τ ?_
    refine st101 _ ?_
    exact κ
  have KC101 : Keep h0 T101.heap [] := KC0.trans K101 all0
  have f103 := (X00.keep K101 all0)
  obtain ⟨cl104, Ar104, q104, S104, M104, Hs104, G104⟩ := id V101
  obtain ⟨cl105, Ar105, q105, S105, M105, Hs105, G105⟩ := id V101
  have hin105 := inb_of (j := (0 : Int32)) S105 ⟨by decide, by decide⟩
  obtain ⟨T106, X106, e106, st106⟩ := getF X101 hx hZ hown (host := "") (Or.inl (hw _ (List.mem_of_getElem? (i := 112) rfl))) Via.refl rfl (FS0.ext f103.2) (g := (mkF m 21 #[.val .null, .val (.ref b101), .val (.int (5 : Int32)), .val (.int (0 : Int32)), .val (.ref i0)] [(.ref i0)])) rfl rfl (hb hby d_rm_nnl_21)
  have pq107 : ∀ τ, Steps pP.tables e below (T106.setTop (mkF m 24 #[.val .null, .val (.ref b101), .val (.int (5 : Int32)), .val (.int (0 : Int32)), .val (.ref i0)] [(.ref y0)])) τ → Steps pP.tables e below A0 τ := by
    intro τ κ
    refine pq102 τ ?_
    refine XS.astoreN X101.here hx rfl (hb hby d_rm_nnl_3) rfl rfl (l' := #[.val .null, .val (.ref b101), .unset, .unset, .unset]) rfl ?_
    refine XS.aloadN X101.here hx rfl (hb hby d_rm_nnl_4) rfl rfl ?_
    refine X101.arraylength hx Ar104.1 (State.isArrayOf_alike hZ.alike Ar104.2.1) (g := (mkF m 5 #[.val .null, .val (.ref b101), .unset, .unset, .unset] [(.ref b101)])) rfl rfl (hb hby d_rm_nnl_5) _ ?_
    rw [len_of S104 M104]
    refine XS.istoreN X101.here hx rfl (hb hby d_rm_nnl_6) rfl (l' := #[.val .null, .val (.ref b101), .val (.int (5 : Int32)), .unset, .unset]) rfl ?_
    refine XS.iconst X101.here hx rfl (hb hby d_rm_nnl_7) ?_
    refine XS.istoreN X101.here hx rfl (hb hby d_rm_nnl_8) rfl (l' := #[.val .null, .val (.ref b101), .val (.int (5 : Int32)), .val (.int (0 : Int32)), .unset]) rfl ?_
    refine XS.iloadN X101.here hx rfl (hb hby d_rm_nnl_9) rfl ?_
    refine XS.iloadN X101.here hx rfl (hb hby d_rm_nnl_10) rfl ?_
    refine XS.icmpNo X101.here hx rfl (hb hby d_rm_nnl_11) rfl (tlt (by decide : ((0 : Int32) < (5 : Int32)))).2.1 ?_
    refine XS.aloadN X101.here hx rfl (hb hby d_rm_nnl_14) rfl rfl ?_
    refine XS.iloadN X101.here hx rfl (hb hby d_rm_nnl_15) rfl ?_
    refine X101.aaload hx (j := (0 : Int32)) (v := (.ref i0)) Ar105.1 (State.isArrayOf_alike hZ.alike Ar105.2.1) rfl Ar105.2.2 hin105 (Has.at Hs105 hin105 rfl) (g := (mkF m 16 #[.val .null, .val (.ref b101), .val (.int (5 : Int32)), .val (.int (0 : Int32)), .unset] [(.int (0 : Int32)), (.ref b101)])) rfl rfl (hb hby d_rm_nnl_16) _ ?_
    refine XS.astore X101.here hx rfl (hb hby d_rm_nnl_17) rfl rfl (l' := #[.val .null, .val (.ref b101), .val (.int (5 : Int32)), .val (.int (0 : Int32)), .val (.ref i0)]) rfl ?_
    refine XS.aload X101.here hx rfl (hb hby d_rm_nnl_19) rfl rfl ?_
    refine st106 _ ?_
    exact κ
  have f108 := (Nat.le_trans Z0 K101.1)
  obtain ⟨cq110, kq110, q110a, q110b, q110c⟩ := isOf hZ e106 (ES0.ext f103.2)
  obtain ⟨_, _, ⟨T109, L109, k109, n109⟩, -, X109, ⟨Lc109, hQ109, l109, y109, z109⟩, st109⟩ := X106.virtualBack hx (y := (⟨"java/lang/String", "equals", "(Ljava/lang/Object;)Z"⟩ : MethodName)) (z := (⟨"java/lang/String", "equals", "(Ljava/lang/Object;)Z"⟩ : MethodName)) hown (mvT hZ (hw _ (List.mem_of_getElem? (i := 114) rfl))) (mvT hZ (hw _ (List.mem_of_getElem? (i := 79) rfl))) (notFace_of_selects (args := #[]) (mvT hZ (hw _ (List.mem_of_getElem? (i := 81) rfl)))) (mvT hZ (hw _ (List.mem_of_getElem? (i := 81) rfl))) (mvT hZ (hw _ (List.mem_of_getElem? (i := 80) rfl))) (by decide) (backOf (W := 0) (rm_eqn l Z a0 hw [] y0 T101.heap n0 f108 ) hZ (hw _ (List.mem_of_getElem? (i := 82) rfl)) (hw _ (List.mem_of_getElem? (i := 5) rfl)) (by decide) (by decide)) q110a q110c (g := (mkF m 25 #[.val .null, .val (.ref b101), .val (.int (5 : Int32)), .val (.int (0 : Int32)), .val (.ref i0)] [.null, (.ref y0)])) rfl (by rw [hml]; rfl) (Steps.refl _) (argsL := [.null]) (rest := []) (lenOf pdo_5 rfl) rfl (by show 2 * 0 + _ ≤ _; exact Nat.le_of_eq rfl) (hb hby d_rm_nnl_25) (fun _ _ => ⟨rfl, e106, (by decide : 1 + 0 ≤ _), (by decide : 5 + 0 ≤ _)⟩)
  dsimp only [Pt.U, Pt.locs, Pt.cells, Pt.slots] at X109 l109 y109 z109 st109 hQ109
  subst l109 y109 z109
  obtain ⟨rfl, Nq109, eq109⟩ := hQ109
  have N109 := Fr.app N101 Nq109
  have pq111 : ∀ τ, Steps pP.tables e below (T109.setTop (mkF m 28 #[.val .null, .val (.ref b101), .val (.int (5 : Int32)), .val (.int (0 : Int32)), .val (.ref i0)] [(.int (0 : Int32))])) τ → Steps pP.tables e below A0 τ := by
    intro τ κ
    refine pq107 τ ?_
    refine XS.aloadN X106.here hx rfl (hb hby d_rm_nnl_24) rfl rfl ?_
    refine st109.trans ?_
    exact κ
  obtain ⟨cl112, Ar112, q112, S112, M112, Hs112, G112⟩ := id V101
  have hin112 := inb_of (j := (1 : Int32)) S112 ⟨by decide, by decide⟩
  obtain ⟨T113, X113, e113, st113⟩ := getF X109 hx hZ hown (host := "") (Or.inl (hw _ (List.mem_of_getElem? (i := 112) rfl))) Via.refl eq109 (FS1.ext f103.2) (g := (mkF m 21 #[.val .null, .val (.ref b101), .val (.int (5 : Int32)), .val (.int (1 : Int32)), .val (.ref i1)] [(.ref i1)])) rfl rfl (hb hby d_rm_nnl_21)
  have pq114 : ∀ τ, Steps pP.tables e below (T113.setTop (mkF m 24 #[.val .null, .val (.ref b101), .val (.int (5 : Int32)), .val (.int (1 : Int32)), .val (.ref i1)] [(.ref y1)])) τ → Steps pP.tables e below A0 τ := by
    intro τ κ
    refine pq111 τ ?_
    refine XS.ifYes X109.here hx rfl (pc0 := 28) (pc' := 34) rfl (hb hby d_rm_nnl_28) rfl ((if0 _ _).trans (teq (by decide : ((0 : Int32) = (0 : Int32)))).1) (by decide) (by decide) ?_
    refine XS.iinc X109.here hx rfl (hb hby d_rm_nnl_34) rfl (l' := #[.val .null, .val (.ref b101), .val (.int (5 : Int32)), .val (.int (1 : Int32)), .val (.ref i0)]) rfl ?_
    refine XS.goto X109.here hx rfl (pc0 := 37) (pc' := 9) rfl (hb hby d_rm_nnl_37) (by decide) (by decide) ?_
    refine XS.iloadN X109.here hx rfl (hb hby d_rm_nnl_9) rfl ?_
    refine XS.iloadN X109.here hx rfl (hb hby d_rm_nnl_10) rfl ?_
    refine XS.icmpNo X109.here hx rfl (hb hby d_rm_nnl_11) rfl (tlt (by decide : ((1 : Int32) < (5 : Int32)))).2.1 ?_
    refine XS.aloadN X109.here hx rfl (hb hby d_rm_nnl_14) rfl rfl ?_
    refine XS.iloadN X109.here hx rfl (hb hby d_rm_nnl_15) rfl ?_
    refine X109.aaload hx (j := (1 : Int32)) (v := (.ref i1)) (by rw [eq109]; exact Ar112.1) (State.isArrayOf_alike hZ.alike Ar112.2.1) rfl Ar112.2.2 hin112 (Has.at Hs112 hin112 rfl) (g := (mkF m 16 #[.val .null, .val (.ref b101), .val (.int (5 : Int32)), .val (.int (1 : Int32)), .val (.ref i0)] [(.int (1 : Int32)), (.ref b101)])) rfl rfl (hb hby d_rm_nnl_16) _ ?_
    refine XS.astore X109.here hx rfl (hb hby d_rm_nnl_17) rfl rfl (l' := #[.val .null, .val (.ref b101), .val (.int (5 : Int32)), .val (.int (1 : Int32)), .val (.ref i1)]) rfl ?_
    refine XS.aload X109.here hx rfl (hb hby d_rm_nnl_19) rfl rfl ?_
    refine st113 _ ?_
    exact κ
  obtain ⟨cq116, kq116, q116a, q116b, q116c⟩ := isOf hZ e113 (ES1.ext f103.2)
  obtain ⟨_, _, ⟨T115, L115, k115, n115⟩, -, X115, ⟨Lc115, hQ115, l115, y115, z115⟩, st115⟩ := X113.virtualBack hx (y := (⟨"java/lang/String", "equals", "(Ljava/lang/Object;)Z"⟩ : MethodName)) (z := (⟨"java/lang/String", "equals", "(Ljava/lang/Object;)Z"⟩ : MethodName)) hown (mvT hZ (hw _ (List.mem_of_getElem? (i := 114) rfl))) (mvT hZ (hw _ (List.mem_of_getElem? (i := 79) rfl))) (notFace_of_selects (args := #[]) (mvT hZ (hw _ (List.mem_of_getElem? (i := 81) rfl)))) (mvT hZ (hw _ (List.mem_of_getElem? (i := 81) rfl))) (mvT hZ (hw _ (List.mem_of_getElem? (i := 80) rfl))) (by decide) (backOf (W := 0) (rm_eqn l Z a0 hw [] y1 T101.heap n0 f108 ) hZ (hw _ (List.mem_of_getElem? (i := 82) rfl)) (hw _ (List.mem_of_getElem? (i := 5) rfl)) (by decide) (by decide)) q116a q116c (g := (mkF m 25 #[.val .null, .val (.ref b101), .val (.int (5 : Int32)), .val (.int (1 : Int32)), .val (.ref i1)] [.null, (.ref y1)])) rfl (by rw [hml]; rfl) (Steps.refl _) (argsL := [.null]) (rest := []) (lenOf pdo_5 rfl) rfl (by show 2 * 0 + _ ≤ _; exact Nat.le_of_eq rfl) (hb hby d_rm_nnl_25) (fun _ _ => ⟨rfl, e113, (by decide : 1 + 0 ≤ _), (by decide : 5 + 0 ≤ _)⟩)
  dsimp only [Pt.U, Pt.locs, Pt.cells, Pt.slots] at X115 l115 y115 z115 st115 hQ115
  subst l115 y115 z115
  obtain ⟨rfl, Nq115, eq115⟩ := hQ115
  have N115 := Fr.app N109 Nq115
  have pq117 : ∀ τ, Steps pP.tables e below (T115.setTop (mkF m 28 #[.val .null, .val (.ref b101), .val (.int (5 : Int32)), .val (.int (1 : Int32)), .val (.ref i1)] [(.int (0 : Int32))])) τ → Steps pP.tables e below A0 τ := by
    intro τ κ
    refine pq114 τ ?_
    refine XS.aloadN X113.here hx rfl (hb hby d_rm_nnl_24) rfl rfl ?_
    refine st115.trans ?_
    exact κ
  obtain ⟨cl118, Ar118, q118, S118, M118, Hs118, G118⟩ := id V101
  have hin118 := inb_of (j := (2 : Int32)) S118 ⟨by decide, by decide⟩
  obtain ⟨T119, X119, e119, st119⟩ := getF X115 hx hZ hown (host := "") (Or.inl (hw _ (List.mem_of_getElem? (i := 112) rfl))) Via.refl eq115 (FS2.ext f103.2) (g := (mkF m 21 #[.val .null, .val (.ref b101), .val (.int (5 : Int32)), .val (.int (2 : Int32)), .val (.ref i2)] [(.ref i2)])) rfl rfl (hb hby d_rm_nnl_21)
  have pq120 : ∀ τ, Steps pP.tables e below (T119.setTop (mkF m 24 #[.val .null, .val (.ref b101), .val (.int (5 : Int32)), .val (.int (2 : Int32)), .val (.ref i2)] [(.ref y2)])) τ → Steps pP.tables e below A0 τ := by
    intro τ κ
    refine pq117 τ ?_
    refine XS.ifYes X115.here hx rfl (pc0 := 28) (pc' := 34) rfl (hb hby d_rm_nnl_28) rfl ((if0 _ _).trans (teq (by decide : ((0 : Int32) = (0 : Int32)))).1) (by decide) (by decide) ?_
    refine XS.iinc X115.here hx rfl (hb hby d_rm_nnl_34) rfl (l' := #[.val .null, .val (.ref b101), .val (.int (5 : Int32)), .val (.int (2 : Int32)), .val (.ref i1)]) rfl ?_
    refine XS.goto X115.here hx rfl (pc0 := 37) (pc' := 9) rfl (hb hby d_rm_nnl_37) (by decide) (by decide) ?_
    refine XS.iloadN X115.here hx rfl (hb hby d_rm_nnl_9) rfl ?_
    refine XS.iloadN X115.here hx rfl (hb hby d_rm_nnl_10) rfl ?_
    refine XS.icmpNo X115.here hx rfl (hb hby d_rm_nnl_11) rfl (tlt (by decide : ((2 : Int32) < (5 : Int32)))).2.1 ?_
    refine XS.aloadN X115.here hx rfl (hb hby d_rm_nnl_14) rfl rfl ?_
    refine XS.iloadN X115.here hx rfl (hb hby d_rm_nnl_15) rfl ?_
    refine X115.aaload hx (j := (2 : Int32)) (v := (.ref i2)) (by rw [eq115]; exact Ar118.1) (State.isArrayOf_alike hZ.alike Ar118.2.1) rfl Ar118.2.2 hin118 (Has.at Hs118 hin118 rfl) (g := (mkF m 16 #[.val .null, .val (.ref b101), .val (.int (5 : Int32)), .val (.int (2 : Int32)), .val (.ref i1)] [(.int (2 : Int32)), (.ref b101)])) rfl rfl (hb hby d_rm_nnl_16) _ ?_
    refine XS.astore X115.here hx rfl (hb hby d_rm_nnl_17) rfl rfl (l' := #[.val .null, .val (.ref b101), .val (.int (5 : Int32)), .val (.int (2 : Int32)), .val (.ref i2)]) rfl ?_
    refine XS.aload X115.here hx rfl (hb hby d_rm_nnl_19) rfl rfl ?_
    refine st119 _ ?_
    exact κ
  obtain ⟨cq122, kq122, q122a, q122b, q122c⟩ := isOf hZ e119 (ES2.ext f103.2)
  obtain ⟨_, _, ⟨T121, L121, k121, n121⟩, -, X121, ⟨Lc121, hQ121, l121, y121, z121⟩, st121⟩ := X119.virtualBack hx (y := (⟨"java/lang/String", "equals", "(Ljava/lang/Object;)Z"⟩ : MethodName)) (z := (⟨"java/lang/String", "equals", "(Ljava/lang/Object;)Z"⟩ : MethodName)) hown (mvT hZ (hw _ (List.mem_of_getElem? (i := 114) rfl))) (mvT hZ (hw _ (List.mem_of_getElem? (i := 79) rfl))) (notFace_of_selects (args := #[]) (mvT hZ (hw _ (List.mem_of_getElem? (i := 81) rfl)))) (mvT hZ (hw _ (List.mem_of_getElem? (i := 81) rfl))) (mvT hZ (hw _ (List.mem_of_getElem? (i := 80) rfl))) (by decide) (backOf (W := 0) (rm_eqn l Z a0 hw [] y2 T101.heap n0 f108 ) hZ (hw _ (List.mem_of_getElem? (i := 82) rfl)) (hw _ (List.mem_of_getElem? (i := 5) rfl)) (by decide) (by decide)) q122a q122c (g := (mkF m 25 #[.val .null, .val (.ref b101), .val (.int (5 : Int32)), .val (.int (2 : Int32)), .val (.ref i2)] [.null, (.ref y2)])) rfl (by rw [hml]; rfl) (Steps.refl _) (argsL := [.null]) (rest := []) (lenOf pdo_5 rfl) rfl (by show 2 * 0 + _ ≤ _; exact Nat.le_of_eq rfl) (hb hby d_rm_nnl_25) (fun _ _ => ⟨rfl, e119, (by decide : 1 + 0 ≤ _), (by decide : 5 + 0 ≤ _)⟩)
  dsimp only [Pt.U, Pt.locs, Pt.cells, Pt.slots] at X121 l121 y121 z121 st121 hQ121
  subst l121 y121 z121
  obtain ⟨rfl, Nq121, eq121⟩ := hQ121
  have N121 := Fr.app N115 Nq121
  have pq123 : ∀ τ, Steps pP.tables e below (T121.setTop (mkF m 28 #[.val .null, .val (.ref b101), .val (.int (5 : Int32)), .val (.int (2 : Int32)), .val (.ref i2)] [(.int (0 : Int32))])) τ → Steps pP.tables e below A0 τ := by
    intro τ κ
    refine pq120 τ ?_
    refine XS.aloadN X119.here hx rfl (hb hby d_rm_nnl_24) rfl rfl ?_
    refine st121.trans ?_
    exact κ
  obtain ⟨cl124, Ar124, q124, S124, M124, Hs124, G124⟩ := id V101
  have hin124 := inb_of (j := (3 : Int32)) S124 ⟨by decide, by decide⟩
  obtain ⟨T125, X125, e125, st125⟩ := getF X121 hx hZ hown (host := "") (Or.inl (hw _ (List.mem_of_getElem? (i := 112) rfl))) Via.refl eq121 (FS3.ext f103.2) (g := (mkF m 21 #[.val .null, .val (.ref b101), .val (.int (5 : Int32)), .val (.int (3 : Int32)), .val (.ref i3)] [(.ref i3)])) rfl rfl (hb hby d_rm_nnl_21)
  have pq126 : ∀ τ, Steps pP.tables e below (T125.setTop (mkF m 24 #[.val .null, .val (.ref b101), .val (.int (5 : Int32)), .val (.int (3 : Int32)), .val (.ref i3)] [(.ref y3)])) τ → Steps pP.tables e below A0 τ := by
    intro τ κ
    refine pq123 τ ?_
    refine XS.ifYes X121.here hx rfl (pc0 := 28) (pc' := 34) rfl (hb hby d_rm_nnl_28) rfl ((if0 _ _).trans (teq (by decide : ((0 : Int32) = (0 : Int32)))).1) (by decide) (by decide) ?_
    refine XS.iinc X121.here hx rfl (hb hby d_rm_nnl_34) rfl (l' := #[.val .null, .val (.ref b101), .val (.int (5 : Int32)), .val (.int (3 : Int32)), .val (.ref i2)]) rfl ?_
    refine XS.goto X121.here hx rfl (pc0 := 37) (pc' := 9) rfl (hb hby d_rm_nnl_37) (by decide) (by decide) ?_
    refine XS.iloadN X121.here hx rfl (hb hby d_rm_nnl_9) rfl ?_
    refine XS.iloadN X121.here hx rfl (hb hby d_rm_nnl_10) rfl ?_
    refine XS.icmpNo X121.here hx rfl (hb hby d_rm_nnl_11) rfl (tlt (by decide : ((3 : Int32) < (5 : Int32)))).2.1 ?_
    refine XS.aloadN X121.here hx rfl (hb hby d_rm_nnl_14) rfl rfl ?_
    refine XS.iloadN X121.here hx rfl (hb hby d_rm_nnl_15) rfl ?_
    refine X121.aaload hx (j := (3 : Int32)) (v := (.ref i3)) (by rw [eq121]; exact Ar124.1) (State.isArrayOf_alike hZ.alike Ar124.2.1) rfl Ar124.2.2 hin124 (Has.at Hs124 hin124 rfl) (g := (mkF m 16 #[.val .null, .val (.ref b101), .val (.int (5 : Int32)), .val (.int (3 : Int32)), .val (.ref i2)] [(.int (3 : Int32)), (.ref b101)])) rfl rfl (hb hby d_rm_nnl_16) _ ?_
    refine XS.astore X121.here hx rfl (hb hby d_rm_nnl_17) rfl rfl (l' := #[.val .null, .val (.ref b101), .val (.int (5 : Int32)), .val (.int (3 : Int32)), .val (.ref i3)]) rfl ?_
    refine XS.aload X121.here hx rfl (hb hby d_rm_nnl_19) rfl rfl ?_
    refine st125 _ ?_
    exact κ
  obtain ⟨cq128, kq128, q128a, q128b, q128c⟩ := isOf hZ e125 (ES3.ext f103.2)
  obtain ⟨_, _, ⟨T127, L127, k127, n127⟩, -, X127, ⟨Lc127, hQ127, l127, y127, z127⟩, st127⟩ := X125.virtualBack hx (y := (⟨"java/lang/String", "equals", "(Ljava/lang/Object;)Z"⟩ : MethodName)) (z := (⟨"java/lang/String", "equals", "(Ljava/lang/Object;)Z"⟩ : MethodName)) hown (mvT hZ (hw _ (List.mem_of_getElem? (i := 114) rfl))) (mvT hZ (hw _ (List.mem_of_getElem? (i := 79) rfl))) (notFace_of_selects (args := #[]) (mvT hZ (hw _ (List.mem_of_getElem? (i := 81) rfl)))) (mvT hZ (hw _ (List.mem_of_getElem? (i := 81) rfl))) (mvT hZ (hw _ (List.mem_of_getElem? (i := 80) rfl))) (by decide) (backOf (W := 0) (rm_eqn l Z a0 hw [] y3 T101.heap n0 f108 ) hZ (hw _ (List.mem_of_getElem? (i := 82) rfl)) (hw _ (List.mem_of_getElem? (i := 5) rfl)) (by decide) (by decide)) q128a q128c (g := (mkF m 25 #[.val .null, .val (.ref b101), .val (.int (5 : Int32)), .val (.int (3 : Int32)), .val (.ref i3)] [.null, (.ref y3)])) rfl (by rw [hml]; rfl) (Steps.refl _) (argsL := [.null]) (rest := []) (lenOf pdo_5 rfl) rfl (by show 2 * 0 + _ ≤ _; exact Nat.le_of_eq rfl) (hb hby d_rm_nnl_25) (fun _ _ => ⟨rfl, e125, (by decide : 1 + 0 ≤ _), (by decide : 5 + 0 ≤ _)⟩)
  dsimp only [Pt.U, Pt.locs, Pt.cells, Pt.slots] at X127 l127 y127 z127 st127 hQ127
  subst l127 y127 z127
  obtain ⟨rfl, Nq127, eq127⟩ := hQ127
  have N127 := Fr.app N121 Nq127
  have pq129 : ∀ τ, Steps pP.tables e below (T127.setTop (mkF m 28 #[.val .null, .val (.ref b101), .val (.int (5 : Int32)), .val (.int (3 : Int32)), .val (.ref i3)] [(.int (0 : Int32))])) τ → Steps pP.tables e below A0 τ := by
    intro τ κ
    refine pq126 τ ?_
    refine XS.aloadN X125.here hx rfl (hb hby d_rm_nnl_24) rfl rfl ?_
    refine st127.trans ?_
    exact κ
  obtain ⟨cl130, Ar130, q130, S130, M130, Hs130, G130⟩ := id V101
  have hin130 := inb_of (j := (4 : Int32)) S130 ⟨by decide, by decide⟩
  obtain ⟨T131, X131, e131, st131⟩ := getF X127 hx hZ hown (host := "") (Or.inl (hw _ (List.mem_of_getElem? (i := 112) rfl))) Via.refl eq127 (FS4.ext f103.2) (g := (mkF m 21 #[.val .null, .val (.ref b101), .val (.int (5 : Int32)), .val (.int (4 : Int32)), .val (.ref i4)] [(.ref i4)])) rfl rfl (hb hby d_rm_nnl_21)
  have pq132 : ∀ τ, Steps pP.tables e below (T131.setTop (mkF m 24 #[.val .null, .val (.ref b101), .val (.int (5 : Int32)), .val (.int (4 : Int32)), .val (.ref i4)] [(.ref y4)])) τ → Steps pP.tables e below A0 τ := by
    intro τ κ
    refine pq129 τ ?_
    refine XS.ifYes X127.here hx rfl (pc0 := 28) (pc' := 34) rfl (hb hby d_rm_nnl_28) rfl ((if0 _ _).trans (teq (by decide : ((0 : Int32) = (0 : Int32)))).1) (by decide) (by decide) ?_
    refine XS.iinc X127.here hx rfl (hb hby d_rm_nnl_34) rfl (l' := #[.val .null, .val (.ref b101), .val (.int (5 : Int32)), .val (.int (4 : Int32)), .val (.ref i3)]) rfl ?_
    refine XS.goto X127.here hx rfl (pc0 := 37) (pc' := 9) rfl (hb hby d_rm_nnl_37) (by decide) (by decide) ?_
    refine XS.iloadN X127.here hx rfl (hb hby d_rm_nnl_9) rfl ?_
    refine XS.iloadN X127.here hx rfl (hb hby d_rm_nnl_10) rfl ?_
    refine XS.icmpNo X127.here hx rfl (hb hby d_rm_nnl_11) rfl (tlt (by decide : ((4 : Int32) < (5 : Int32)))).2.1 ?_
    refine XS.aloadN X127.here hx rfl (hb hby d_rm_nnl_14) rfl rfl ?_
    refine XS.iloadN X127.here hx rfl (hb hby d_rm_nnl_15) rfl ?_
    refine X127.aaload hx (j := (4 : Int32)) (v := (.ref i4)) (by rw [eq127]; exact Ar130.1) (State.isArrayOf_alike hZ.alike Ar130.2.1) rfl Ar130.2.2 hin130 (Has.at Hs130 hin130 rfl) (g := (mkF m 16 #[.val .null, .val (.ref b101), .val (.int (5 : Int32)), .val (.int (4 : Int32)), .val (.ref i3)] [(.int (4 : Int32)), (.ref b101)])) rfl rfl (hb hby d_rm_nnl_16) _ ?_
    refine XS.astore X127.here hx rfl (hb hby d_rm_nnl_17) rfl rfl (l' := #[.val .null, .val (.ref b101), .val (.int (5 : Int32)), .val (.int (4 : Int32)), .val (.ref i4)]) rfl ?_
    refine XS.aload X127.here hx rfl (hb hby d_rm_nnl_19) rfl rfl ?_
    refine st131 _ ?_
    exact κ
  obtain ⟨cq134, kq134, q134a, q134b, q134c⟩ := isOf hZ e131 (ES4.ext f103.2)
  obtain ⟨_, _, ⟨T133, L133, k133, n133⟩, -, X133, ⟨Lc133, hQ133, l133, y133, z133⟩, st133⟩ := X131.virtualBack hx (y := (⟨"java/lang/String", "equals", "(Ljava/lang/Object;)Z"⟩ : MethodName)) (z := (⟨"java/lang/String", "equals", "(Ljava/lang/Object;)Z"⟩ : MethodName)) hown (mvT hZ (hw _ (List.mem_of_getElem? (i := 114) rfl))) (mvT hZ (hw _ (List.mem_of_getElem? (i := 79) rfl))) (notFace_of_selects (args := #[]) (mvT hZ (hw _ (List.mem_of_getElem? (i := 81) rfl)))) (mvT hZ (hw _ (List.mem_of_getElem? (i := 81) rfl))) (mvT hZ (hw _ (List.mem_of_getElem? (i := 80) rfl))) (by decide) (backOf (W := 0) (rm_eqn l Z a0 hw [] y4 T101.heap n0 f108 ) hZ (hw _ (List.mem_of_getElem? (i := 82) rfl)) (hw _ (List.mem_of_getElem? (i := 5) rfl)) (by decide) (by decide)) q134a q134c (g := (mkF m 25 #[.val .null, .val (.ref b101), .val (.int (5 : Int32)), .val (.int (4 : Int32)), .val (.ref i4)] [.null, (.ref y4)])) rfl (by rw [hml]; rfl) (Steps.refl _) (argsL := [.null]) (rest := []) (lenOf pdo_5 rfl) rfl (by show 2 * 0 + _ ≤ _; exact Nat.le_of_eq rfl) (hb hby d_rm_nnl_25) (fun _ _ => ⟨rfl, e131, (by decide : 1 + 0 ≤ _), (by decide : 5 + 0 ≤ _)⟩)
  dsimp only [Pt.U, Pt.locs, Pt.cells, Pt.slots] at X133 l133 y133 z133 st133 hQ133
  subst l133 y133 z133
  obtain ⟨rfl, Nq133, eq133⟩ := hQ133
  have N133 := Fr.app N127 Nq133
  have pq135 : ∀ τ, Steps pP.tables e below (T133.setTop (mkF m 28 #[.val .null, .val (.ref b101), .val (.int (5 : Int32)), .val (.int (4 : Int32)), .val (.ref i4)] [(.int (0 : Int32))])) τ → Steps pP.tables e below A0 τ := by
    intro τ κ
    refine pq132 τ ?_
    refine XS.aloadN X131.here hx rfl (hb hby d_rm_nnl_24) rfl rfl ?_
    refine st133.trans ?_
    exact κ
  obtain ⟨fs, hrE, hrun, hended, hW, hsame⟩ := X133.leave (v := some .null) (fun h => by rw [Bd.returns] at h; cases h)
  have pqE := pq135
  rw [hA0] at pqE
  refine ⟨_, _, pqE _ ?_, hrun, hended, _, _, rfl, ?_, ⟨_, rfl⟩, hW, hsame.mono (by decide) (by decide)⟩
  · refine XS.ifYes X133.here hx rfl (pc0 := 28) (pc' := 34) rfl (hb hby d_rm_nnl_28) rfl ((if0 _ _).trans (teq (by decide : ((0 : Int32) = (0 : Int32)))).1) (by decide) (by decide) ?_
    refine XS.iinc X133.here hx rfl (hb hby d_rm_nnl_34) rfl (l' := #[.val .null, .val (.ref b101), .val (.int (5 : Int32)), .val (.int (5 : Int32)), .val (.ref i4)]) rfl ?_
    refine XS.goto X133.here hx rfl (pc0 := 37) (pc' := 9) rfl (hb hby d_rm_nnl_37) (by decide) (by decide) ?_
    refine XS.iloadN X133.here hx rfl (hb hby d_rm_nnl_9) rfl ?_
    refine XS.iloadN X133.here hx rfl (hb hby d_rm_nnl_10) rfl ?_
    refine XS.icmpYes X133.here hx rfl (pc0 := 11) (pc' := 40) rfl (hb hby d_rm_nnl_11) rfl (flt (by decide : ¬ ((5 : Int32) < (5 : Int32)))).2.1 (by decide) (by decide) ?_
    refine XS.aconstNull X133.here hx rfl (hb hby d_rm_nnl_40) ?_
    show Steps pP.tables e below (T133.setTop (mkF m 41 #[.val .null, .val (.ref b101), .val (.int (5 : Int32)), .val (.int (5 : Int32)), .val (.ref i4)] [.null])) _
    exact retOut X133 hx Bd.returns rfl (Or.inr (Or.inr (Or.inr (Or.inr ⟨rfl, rfl, rfl⟩)))) (hb hby d_rm_nnl_41) hrE
  · show Q_nnl h0 n0 _ T133.heap _
    rw [eq133]
    exact ⟨rfl, N133, KC101⟩
def Q_law (n0 : Nat) (v : Option Value) (h : Heap) (L : List Loc) : Prop := v = some (.int 1) ∧ Fr n0 L
theorem ef_rm_law (m : MethodId) (x0 : Int32) (x1 : Int64) : entryFrame m #[(.int x0), (.long x1)] maxLocals = mkF m 0 #[.val (.int x0), .val (.long x1), .second, .unset, .unset, .unset, .unset, .unset, .unset, .unset, .unset, .unset, .unset, .unset, .unset] [] := by first | (simp [entryFrame, mkF, argsToLocals, Value.category, maxLocals]; done) | rfl
set_option maxRecDepth 65536 in
set_option maxHeartbeats 3000000 in
theorem rm_law (l : Launch) (Z : State) (a0 : Array Value) (hw : ∀ d ∈ tables_1, d.before a0 Z = true) (hEW : EW Z a0 consts_1) (ws : List Jvm.Cond) (p0 : Int32) (q1 : Int64) (va : Addr) (ka : ClassId) (i0 i1 i2 i3 i4 : Addr) (y0 b0 : Addr) (k0 : ClassId) (y1 b1 : Addr) (k1 : ClassId) (y2 b2 : Addr) (k2 : ClassId) (y3 b3 : Addr) (k3 : ClassId) (y4 b4 : Addr) (k4 : ClassId) (G1 : Int32) (G3 : Value) (h0 : Heap) (n0 : Nat) (Z0 : n0 ≤ h0.size) (OV : Sta Z Z.heap "interfold/model/LogicType" "$VALUES" "[Linterfold/model/LogicType;" (.ref va)) (EV : Exa Z Z.heap va "[Linterfold/model/LogicType;") (VV : Arv Z Z.heap va ka (.object "interfold/model/LogicType") 5 [.ref i0, .ref i1, .ref i2, .ref i3, .ref i4] .null) (OS0 : Sta Z Z.heap "interfold/model/LogicType" "INT" "Linterfold/model/LogicType;" (.ref i0)) (OS1 : Sta Z Z.heap "interfold/model/LogicType" "LONG" "Linterfold/model/LogicType;" (.ref i1)) (OS2 : Sta Z Z.heap "interfold/model/LogicType" "DOUBLE" "Linterfold/model/LogicType;" (.ref i2)) (OS3 : Sta Z Z.heap "interfold/model/LogicType" "BOOLEAN" "Linterfold/model/LogicType;" (.ref i3)) (OS4 : Sta Z Z.heap "interfold/model/LogicType" "STRING" "Linterfold/model/LogicType;" (.ref i4)) (FS0 : Fld Z Z.heap i0 "interfold/model/LogicType" "written" "Ljava/lang/String;" (.ref y0)) (ES0 : Exa Z Z.heap y0 "java/lang/String") (FC0 : Fld Z Z.heap y0 "java/lang/String" "coder" "B" (.int 0)) (FV0 : Fld Z Z.heap y0 "java/lang/String" "value" "[B" (.ref b0)) (VS0 : Arv Z Z.heap b0 k0 .byte (Int32.ofNat (([105, 110, 116] : List Int32)).length) (((([105, 110, 116] : List Int32)).map (fun c : Int32 => c.toInt8.toInt32)).map Value.int) (.int 0)) (FS1 : Fld Z Z.heap i1 "interfold/model/LogicType" "written" "Ljava/lang/String;" (.ref y1)) (ES1 : Exa Z Z.heap y1 "java/lang/String") (FC1 : Fld Z Z.heap y1 "java/lang/String" "coder" "B" (.int 0)) (FV1 : Fld Z Z.heap y1 "java/lang/String" "value" "[B" (.ref b1)) (VS1 : Arv Z Z.heap b1 k1 .byte (Int32.ofNat (([108, 111, 110, 103] : List Int32)).length) (((([108, 111, 110, 103] : List Int32)).map (fun c : Int32 => c.toInt8.toInt32)).map Value.int) (.int 0)) (FS2 : Fld Z Z.heap i2 "interfold/model/LogicType" "written" "Ljava/lang/String;" (.ref y2)) (ES2 : Exa Z Z.heap y2 "java/lang/String") (FC2 : Fld Z Z.heap y2 "java/lang/String" "coder" "B" (.int 0)) (FV2 : Fld Z Z.heap y2 "java/lang/String" "value" "[B" (.ref b2)) (VS2 : Arv Z Z.heap b2 k2 .byte (Int32.ofNat (([100, 111, 117, 98, 108, 101] : List Int32)).length) (((([100, 111, 117, 98, 108, 101] : List Int32)).map (fun c : Int32 => c.toInt8.toInt32)).map Value.int) (.int 0)) (FS3 : Fld Z Z.heap i3 "interfold/model/LogicType" "written" "Ljava/lang/String;" (.ref y3)) (ES3 : Exa Z Z.heap y3 "java/lang/String") (FC3 : Fld Z Z.heap y3 "java/lang/String" "coder" "B" (.int 0)) (FV3 : Fld Z Z.heap y3 "java/lang/String" "value" "[B" (.ref b3)) (VS3 : Arv Z Z.heap b3 k3 .byte (Int32.ofNat (([98, 111, 111, 108, 101, 97, 110] : List Int32)).length) (((([98, 111, 111, 108, 101, 97, 110] : List Int32)).map (fun c : Int32 => c.toInt8.toInt32)).map Value.int) (.int 0)) (FS4 : Fld Z Z.heap i4 "interfold/model/LogicType" "written" "Ljava/lang/String;" (.ref y4)) (ES4 : Exa Z Z.heap y4 "java/lang/String") (FC4 : Fld Z Z.heap y4 "java/lang/String" "coder" "B" (.int 0)) (FV4 : Fld Z Z.heap y4 "java/lang/String" "value" "[B" (.ref b4)) (VS4 : Arv Z Z.heap b4 k4 .byte (Int32.ofNat (([83, 116, 114, 105, 110, 103] : List Int32)).length) (((([83, 116, 114, 105, 110, 103] : List Int32)).map (fun c : Int32 => c.toInt8.toInt32)).map Value.int) (.int 0)) (O2 : Sta Z Z.heap "java/lang/String" "COMPACT_STRINGS" "Z" (.int G1)) (P5 : ¬ (G1 = (0 : Int32))) (X00 : Old Z n0 h0) (O4 : Sta Z Z.heap "jdk/internal/util/Preconditions" "SIOOBE_FORMATTER" "Ljava/util/function/BiFunction;" G3) (rG3 : G3.isRef = true) :
    MetFree l x (head1 (Jvm.Cond.code x code maxLocals ret :: ws) room_1) (fun αs U => αs = #[(.int p0), (.long q1)] ∧ Z.Warmed39 U.vm ∧ U.heap = h0 ∧ CHv Z consts_1 U.vm h0) (fun _ _ _ _ _ => True) (fun _ U o U' => ∃ v L, o = .returned v ∧ Q_law n0 v U'.heap L ∧ CHr Z consts_1 U.vm U.heap U'.vm U'.heap ∧ ReturnedEndW U o U' L room_1.cells room_1.slots) := by
  refine MetFree.of_bodySF (plainFor_of_name pno_1) hisR ?_
  intro pP e s m args below meth cC s₁ Bd hml0 hP hK
  obtain ⟨rfl, hZ, hh, CH0⟩ := hP
  have hx := Bd.exec
  have hby := Bd.bytes
  have hml : cC.maxLocals = 15 := hml0
  have hown : s.vm.findClass "interfold/model/LogicTypeNamedPinLaw" = some m.cls := findClass_of_methodNamed Bd.named
  have hnm := (name_of_methodNamed Bd.named Bd.method).1
  have X0 : Stand pP l e room_1 (s.setVm s.vm) m #[(.int p0), (.long q1)] below meth cC s₁ [] 0 0 := Stand.of_body Bd
  have e0 : s₁.heap = h0 := by rw [← hh, Bd.state]; rfl
  have N0 := Fr.nil n0
  have KC0 : Keep h0 h0 [] := Keep.refl h0 _
  replace hZ : Z.Warmed39 (s.setVm s.vm).vm := hZ
  replace hown : (s.setVm s.vm).vm.findClass "interfold/model/LogicTypeNamedPinLaw" = some m.cls := hown
  have SI0 : s.Since s.vm h0.size := (State.WarmedH.refl s).since _
  have SK0 : h0.size ≤ h0.size := Nat.le_refl _
  have CR0 : CHr Z consts_1 s.vm h0 s.vm h0 := CHr.refl CH0
  obtain ⟨A0, hA0⟩ : ∃ z, z = s₁.setTop (entryFrame m #[(.int p0), (.long q1)] maxLocals) := ⟨_, rfl⟩
  have pre0 : ∀ τ, Steps pP.tables e below (s₁.setTop (mkF m 0 #[.val (.int p0), .val (.long q1), .second, .unset, .unset, .unset, .unset, .unset, .unset, .unset, .unset, .unset, .unset, .unset, .unset] [])) τ → Steps pP.tables e below A0 τ := fun τ κ => by rw [hA0]; exact castTop (ef_rm_law m p0 q1) κ
  have hln : ∀ d ∈ StrChars.Road.wordsLen, d.before a0 Z = true := fun d hd => hw d ((by decide +kernel : ∀ d ∈ StrChars.Road.wordsLen, d ∈ tables_1) d hd)
  have pq101 : ∀ τ, Steps pP.tables e below (s₁.setTop (mkF m 10 #[.val (.int p0), .val (.long q1), .second, .val (.int (((p0.toUInt32 >>> ((3 : Int32) &&& 31).toUInt32).toInt32) &&& (7 : Int32))), .unset, .unset, .unset, .unset, .unset, .unset, .unset, .unset, .unset, .unset, .unset] [(.int (7 : Int32)), (.int (((p0.toUInt32 >>> ((3 : Int32) &&& 31).toUInt32).toInt32) &&& (7 : Int32)))])) τ → Steps pP.tables e below A0 τ := by
    intro τ κ
    refine pre0 τ ?_
    refine XS.iloadN X0.here hx rfl (hb hby at_0) rfl ?_
    refine XS.iconst X0.here hx rfl (hb hby at_1) ?_
    refine XS.iushr X0.here hx rfl (hb hby at_2) rfl ?_
    refine XS.bipush X0.here hx rfl (hb hby at_3) ?_
    refine XS.iand X0.here hx rfl (hb hby at_5) rfl ?_
    refine XS.istoreN X0.here hx rfl (hb hby at_6) rfl (l' := #[.val (.int p0), .val (.long q1), .second, .val (.int (((p0.toUInt32 >>> ((3 : Int32) &&& 31).toUInt32).toInt32) &&& (7 : Int32))), .unset, .unset, .unset, .unset, .unset, .unset, .unset, .unset, .unset, .unset, .unset]) rfl ?_
    refine XS.iloadN X0.here hx rfl (hb hby at_7) rfl ?_
    refine XS.bipush X0.here hx rfl (hb hby at_8) ?_
    exact κ
  by_cases hc10_102 : (((p0.toUInt32 >>> ((3 : Int32) &&& 31).toUInt32).toInt32) &&& (7 : Int32)) = (7 : Int32)
  · skip
    obtain ⟨_, _, ⟨T103, L103, k103, n103⟩, -, X103, ⟨Lc103, hQ103, l103, y103, z103⟩, st103⟩ := Jvm.LawKit.callS X0 hx (y := (⟨"interfold/model/LogicTypeNamedPinLaw", "ref", "(Ljava/lang/String;)Linterfold/model/LogicType;"⟩ : MethodName)) hown (mvT hZ (hw _ (List.mem_of_getElem? (i := 75) rfl))) (mvT hZ (hw _ (List.mem_of_getElem? (i := 76) rfl))) (mvT hZ (hw _ (List.mem_of_getElem? (i := 2) rfl))) (mvT hZ (hw _ (List.mem_of_getElem? (i := 77) rfl))) (by decide) (backOf (W := 0) (rm_rfn l Z a0 hw []  h0 n0 Z0 ) hZ (hw _ (List.mem_of_getElem? (i := 77) rfl)) (hw _ (List.mem_of_getElem? (i := 2) rfl)) (by decide) (by decide)) (g := (mkF m 163 #[.val (.int p0), .val (.long q1), .second, .val (.int (((p0.toUInt32 >>> ((3 : Int32) &&& 31).toUInt32).toInt32) &&& (7 : Int32))), .val .null, .unset, .unset, .unset, .unset, .unset, .unset, .unset, .unset, .unset, .unset] [.null])) rfl (by rw [hml]; rfl) (argsL := [.null]) (rest := []) (lenOf pdo_7 rfl) rfl (by show 2 * 0 + _ ≤ _; exact Nat.le_of_eq rfl) (hb hby at_163) (fun _ _ => ⟨rfl, e0, (by decide : 0 + 0 ≤ _), (by decide : 0 + 0 ≤ _)⟩)
    dsimp only [Pt.U, Pt.locs, Pt.cells, Pt.slots] at X103 l103 y103 z103 st103 hQ103
    subst l103 y103 z103
    obtain ⟨rfl, Nq103, eq103⟩ := hQ103
    have N103 := Fr.app N0 Nq103
    have pq104 : ∀ τ, Steps pP.tables e below (T103.setTop (mkF m 166 #[.val (.int p0), .val (.long q1), .second, .val (.int (((p0.toUInt32 >>> ((3 : Int32) &&& 31).toUInt32).toInt32) &&& (7 : Int32))), .val .null, .unset, .unset, .unset, .unset, .unset, .unset, .unset, .unset, .unset, .unset] [.null])) τ → Steps pP.tables e below A0 τ := by
      intro τ κ
      refine pq101 τ ?_
      refine XS.icmpNo X0.here hx rfl (hb hby at_10) rfl (teq hc10_102).2 ?_
      refine XS.aconstNull X0.here hx rfl (hb hby at_13) ?_
      refine XS.astore X0.here hx rfl (hb hby at_14) rfl rfl (l' := #[.val (.int p0), .val (.long q1), .second, .val (.int (((p0.toUInt32 >>> ((3 : Int32) &&& 31).toUInt32).toInt32) &&& (7 : Int32))), .val .null, .unset, .unset, .unset, .unset, .unset, .unset, .unset, .unset, .unset, .unset]) rfl ?_
      refine XS.goto X0.here hx rfl (pc0 := 16) (pc' := 161) rfl (hb hby at_16) (by decide) (by decide) ?_
      refine XS.aload X0.here hx rfl (hb hby at_161) rfl rfl ?_
      refine st103 _ ?_
      exact κ
    obtain ⟨_, _, ⟨T105, L105, k105, n105⟩, -, X105, ⟨Lc105, hQ105, l105, y105, z105⟩, st105⟩ := Jvm.LawKit.callS X103 hx (y := (⟨"interfold/model/LogicType", "named", "(Ljava/lang/String;)Linterfold/model/LogicType;"⟩ : MethodName)) hown (mvT hZ (hw _ (List.mem_of_getElem? (i := 90) rfl))) (mvT hZ (hw _ (List.mem_of_getElem? (i := 91) rfl))) (mvT hZ (hw _ (List.mem_of_getElem? (i := 88) rfl))) (mvT hZ (hw _ (List.mem_of_getElem? (i := 92) rfl))) (by decide) (backOf (W := 0) (rm_nnl l Z a0 hw [] va ka i0 i1 i2 i3 i4 y0 b0 k0 y1 b1 k1 y2 b2 k2 y3 b3 k3 y4 b4 k4 h0 n0 Z0 OV EV VV FS0 ES0 FC0 FV0 VS0 FS1 ES1 FC1 FV1 VS1 FS2 ES2 FC2 FV2 VS2 FS3 ES3 FC3 FV3 VS3 FS4 ES4 FC4 FV4 VS4 X00) hZ (hw _ (List.mem_of_getElem? (i := 92) rfl)) (hw _ (List.mem_of_getElem? (i := 88) rfl)) (by decide) (by decide)) (g := (mkF m 170 #[.val (.int p0), .val (.long q1), .second, .val (.int (((p0.toUInt32 >>> ((3 : Int32) &&& 31).toUInt32).toInt32) &&& (7 : Int32))), .val .null, .val .null, .unset, .unset, .unset, .unset, .unset, .unset, .unset, .unset, .unset] [.null])) rfl (by rw [hml]; rfl) (argsL := [.null]) (rest := []) (lenOf pdo_7 rfl) rfl (by show 2 * 0 + _ ≤ _; exact Nat.le_of_eq rfl) (hb hby at_170) (fun _ _ => ⟨rfl, eq103, (by decide : 0 + 1 ≤ _), (by decide : 0 + 5 ≤ _)⟩)
    dsimp only [Pt.U, Pt.locs, Pt.cells, Pt.slots] at X105 l105 y105 z105 st105 hQ105
    subst l105 y105 z105
    obtain ⟨rfl, Nq105, K105⟩ := hQ105
    have N105 := Fr.app N103 Nq105
    have pq106 : ∀ τ, Steps pP.tables e below (T105.setTop (mkF m 173 #[.val (.int p0), .val (.long q1), .second, .val (.int (((p0.toUInt32 >>> ((3 : Int32) &&& 31).toUInt32).toInt32) &&& (7 : Int32))), .val .null, .val .null, .unset, .unset, .unset, .unset, .unset, .unset, .unset, .unset, .unset] [.null])) τ → Steps pP.tables e below A0 τ := by
      intro τ κ
      refine pq104 τ ?_
      refine XS.astore X103.here hx rfl (hb hby at_166) rfl rfl (l' := #[.val (.int p0), .val (.long q1), .second, .val (.int (((p0.toUInt32 >>> ((3 : Int32) &&& 31).toUInt32).toInt32) &&& (7 : Int32))), .val .null, .val .null, .unset, .unset, .unset, .unset, .unset, .unset, .unset, .unset, .unset]) rfl ?_
      refine XS.aload X103.here hx rfl (hb hby at_168) rfl rfl ?_
      refine st105 _ ?_
      exact κ
    have KC105 : Keep h0 T105.heap [] := KC0.trans K105 all0
    have CH105 := CHv.keep K105 sf0 CH0
    have CR105 := CHr.trans CR0 (CHr.keep K105 sf0 CH0)
    have SK105 := Nat.le_trans SK0 K105.1
    have SKe := SK105
    obtain ⟨fs, hrE, hrun, hended, hEnd⟩ := X105.leaveW SI0 SKe (v := some (.int (1 : Int32))) (fun h => by rw [Bd.returns] at h; cases h)
    have CHe := CHr.trans CR105 (CHv.at X105 hZ hEW CH105)
    have pqE := pq106
    rw [hA0] at pqE
    refine ⟨_, _, pqE _ ?_, hrun, hended, _, _, rfl, ?_, ?_, hEnd.1, hEnd.2.1, hEnd.2.2.1, hEnd.2.2.2.mono (by decide) (by decide)⟩
    · refine XS.aload X105.here hx rfl (hb hby at_173) rfl rfl ?_
      refine Jvm.RoadKit.acmp (g := (mkF m 175 #[.val (.int p0), .val (.long q1), .second, .val (.int (((p0.toUInt32 >>> ((3 : Int32) &&& 31).toUInt32).toInt32) &&& (7 : Int32))), .val .null, .val .null, .unset, .unset, .unset, .unset, .unset, .unset, .unset, .unset, .unset] [.null, .null])) X105 hx rfl rfl rfl (pc0 := 175) (pc' := 178) (same := true) rfl (hb hby at_175) rfl (decide_eq_true rfl) (by decide) (by decide) ?_
      refine XS.iconst X105.here hx rfl (hb hby at_178) ?_
      refine XS.goto X105.here hx rfl (pc0 := 179) (pc' := 183) rfl (hb hby at_179) (by decide) (by decide) ?_
      show Steps pP.tables e below (T105.setTop (mkF m 183 #[.val (.int p0), .val (.long q1), .second, .val (.int (((p0.toUInt32 >>> ((3 : Int32) &&& 31).toUInt32).toInt32) &&& (7 : Int32))), .val .null, .val .null, .unset, .unset, .unset, .unset, .unset, .unset, .unset, .unset, .unset] [(.int (1 : Int32))])) _
      exact retN X105 hx (t := .boolean) Bd.returns (by simp) (hb hby at_183) hrE
    · show Q_law n0 _ T105.heap _
      exact ⟨rfl, N105⟩
    · show CHr Z consts_1 s.vm s.heap T105.vm T105.heap
      rw [hh]; exact CHe
  · skip
    have pq107 : ∀ τ, Steps pP.tables e below (s₁.setTop (mkF m 19 #[.val (.int p0), .val (.long q1), .second, .val (.int (((p0.toUInt32 >>> ((3 : Int32) &&& 31).toUInt32).toInt32) &&& (7 : Int32))), .unset, .unset, .unset, .unset, .unset, .unset, .unset, .unset, .unset, .unset, .unset] [])) τ → Steps pP.tables e below A0 τ := by
      intro τ κ
      refine pq101 τ ?_
      refine XS.icmpYes X0.here hx rfl (pc0 := 10) (pc' := 19) rfl (hb hby at_10) rfl (feq hc10_102).2 (by decide) (by decide) ?_
      exact κ
    obtain ⟨pt, hpt, pq108⟩ : ∃ pt : Int32, (True) ∧ ∀ τ, Steps pP.tables e below (s₁.setTop (mkF m 31 #[.val (.int p0), .val (.long q1), .second, .val (.int (((p0.toUInt32 >>> ((3 : Int32) &&& 31).toUInt32).toInt32) &&& (7 : Int32))), .unset, .unset, .unset, .unset, .unset, .unset, .unset, .unset, .unset, .unset, .unset] [(.int pt)])) τ → Steps pP.tables e below A0 τ := by
      have pq109 : ∀ τ, Steps pP.tables e below (s₁.setTop (mkF m 23 #[.val (.int p0), .val (.long q1), .second, .val (.int (((p0.toUInt32 >>> ((3 : Int32) &&& 31).toUInt32).toInt32) &&& (7 : Int32))), .unset, .unset, .unset, .unset, .unset, .unset, .unset, .unset, .unset, .unset, .unset] [(.int (p0 &&& (64 : Int32)))])) τ → Steps pP.tables e below A0 τ := by
        intro τ κ
        refine pq107 τ ?_
        refine XS.iloadN X0.here hx rfl (hb hby at_19) rfl ?_
        refine XS.bipush X0.here hx rfl (hb hby at_20) ?_
        refine XS.iand X0.here hx rfl (hb hby at_22) rfl ?_
        exact κ
      by_cases hc23_110 : (p0 &&& (64 : Int32)) = (0 : Int32)
      · skip
        refine ⟨(0 : Int32), trivial, fun τ κ => ?_⟩
        refine pq109 τ ?_
        refine XS.ifYes X0.here hx rfl (pc0 := 23) (pc' := 30) rfl (hb hby at_23) rfl ((if0 _ _).trans (teq hc23_110).1) (by decide) (by decide) ?_
        refine XS.iconst X0.here hx rfl (hb hby at_30) ?_
        exact κ
      · skip
        refine ⟨(1 : Int32), trivial, fun τ κ => ?_⟩
        refine pq109 τ ?_
        refine XS.ifNo X0.here hx rfl (hb hby at_23) rfl ((if0 _ _).trans (feq hc23_110).1) ?_
        refine XS.iconst X0.here hx rfl (hb hby at_26) ?_
        refine XS.goto X0.here hx rfl (pc0 := 27) (pc' := 31) rfl (hb hby at_27) (by decide) (by decide) ?_
        exact κ
    have pq111 : ∀ τ, Steps pP.tables e below (s₁.setTop (mkF m 38 #[.val (.int p0), .val (.long q1), .second, .val (.int (((p0.toUInt32 >>> ((3 : Int32) &&& 31).toUInt32).toInt32) &&& (7 : Int32))), .unset, .val (.int pt), .unset, .unset, .unset, .unset, .unset, .unset, .unset, .unset, .unset] [(.int (p0 &&& (128 : Int32)))])) τ → Steps pP.tables e below A0 τ := by
      intro τ κ
      refine pq108 τ ?_
      refine XS.istore X0.here hx rfl (hb hby at_31) rfl (l' := #[.val (.int p0), .val (.long q1), .second, .val (.int (((p0.toUInt32 >>> ((3 : Int32) &&& 31).toUInt32).toInt32) &&& (7 : Int32))), .unset, .val (.int pt), .unset, .unset, .unset, .unset, .unset, .unset, .unset, .unset, .unset]) rfl ?_
      refine XS.iloadN X0.here hx rfl (hb hby at_33) rfl ?_
      refine XS.sipush X0.here hx rfl (hb hby at_34) ?_
      refine XS.iand X0.here hx rfl (hb hby at_37) rfl ?_
      exact κ
    by_cases hc38_112 : (p0 &&& (128 : Int32)) = (0 : Int32)
    · skip
      obtain ⟨_, _, ⟨T113, L113, k113, n113⟩, -, X113, S113, G113, ⟨Lc113, hQ113, l113, y113, z113, C113⟩, st113⟩ := callSS X0 hx (y := (⟨"interfold/model/LogicTypeNamedPinLaw", "name", "(I)Ljava/lang/String;"⟩ : MethodName)) hown (mvT hZ (hw _ (List.mem_of_getElem? (i := 0) rfl))) (mvT hZ (hw _ (List.mem_of_getElem? (i := 1) rfl))) (mvT hZ (hw _ (List.mem_of_getElem? (i := 2) rfl))) (mvT hZ (hw _ (List.mem_of_getElem? (i := 3) rfl))) (by decide) (backOfSH (s := s) (vm0 := s.vm) (EL := consts_1) (W := 0) (rm_name l Z a0 hw hEW [] (((p0.toUInt32 >>> ((3 : Int32) &&& 31).toUInt32).toInt32) &&& (7 : Int32)) h0 n0 Z0 ) hZ (hw _ (List.mem_of_getElem? (i := 3) rfl)) (hw _ (List.mem_of_getElem? (i := 2) rfl)) (by decide) (by decide) hEW CH0) (g := (mkF m 61 #[.val (.int p0), .val (.long q1), .second, .val (.int (((p0.toUInt32 >>> ((3 : Int32) &&& 31).toUInt32).toInt32) &&& (7 : Int32))), .unset, .val (.int pt), .val (.int (0 : Int32)), .unset, .unset, .unset, .unset, .unset, .unset, .unset, .unset] [(.int (((p0.toUInt32 >>> ((3 : Int32) &&& 31).toUInt32).toInt32) &&& (7 : Int32)))])) rfl (by rw [hml]; rfl) (argsL := [(.int (((p0.toUInt32 >>> ((3 : Int32) &&& 31).toUInt32).toInt32) &&& (7 : Int32)))]) (rest := []) (lenOf pdo_1 rfl) rfl (by show 2 * 0 + _ ≤ _; exact Nat.le_of_eq rfl) (hb hby at_61) (fun _ _ => ⟨rfl, e0, (by decide : 0 + 2 ≤ _), (by decide : 0 + 32 ≤ _)⟩)
      dsimp only [Pt.U, Pt.locs, Pt.cells, Pt.slots] at X113 l113 y113 z113 st113 hQ113 S113 G113 C113
      subst l113 y113 z113
      have G113a : h0.size ≤ T113.heap.size := by first | exact G113 | (rw [← e0]; exact G113)
      obtain ⟨X113, SI113, Z113, O113⟩ := rebS SI0 SK0 X113 S113 G113a hZ hown
      have SK113 : T113.heap.size ≤ T113.heap.size := Nat.le_refl _
      obtain ⟨a113, t113, kb113, cs113, rfl, Nq113, K113, Ex113, Fc113, Fv113, Vt113, hp113, ln113⟩ := hQ113
      have N113 := Fr.app N0 Nq113
      have pq114 : ∀ τ, Steps pP.tables e below (T113.setTop (mkF m 64 #[.val (.int p0), .val (.long q1), .second, .val (.int (((p0.toUInt32 >>> ((3 : Int32) &&& 31).toUInt32).toInt32) &&& (7 : Int32))), .unset, .val (.int pt), .val (.int (0 : Int32)), .unset, .unset, .unset, .unset, .unset, .unset, .unset, .unset] [(.ref a113)])) τ → Steps pP.tables e below A0 τ := by
        intro τ κ
        refine pq111 τ ?_
        refine XS.ifYes X0.here hx rfl (pc0 := 38) (pc' := 45) rfl (hb hby at_38) rfl ((if0 _ _).trans (teq hc38_112).1) (by decide) (by decide) ?_
        refine XS.iconst X0.here hx rfl (hb hby at_45) ?_
        refine XS.istore X0.here hx rfl (hb hby at_46) rfl (l' := #[.val (.int p0), .val (.long q1), .second, .val (.int (((p0.toUInt32 >>> ((3 : Int32) &&& 31).toUInt32).toInt32) &&& (7 : Int32))), .unset, .val (.int pt), .val (.int (0 : Int32)), .unset, .unset, .unset, .unset, .unset, .unset, .unset, .unset]) rfl ?_
        refine XS.iload X0.here hx rfl (hb hby at_48) rfl ?_
        refine XS.ifYes X0.here hx rfl (pc0 := 50) (pc' := 60) rfl (hb hby at_50) rfl ((if0 _ _).trans (teq (by decide : ((0 : Int32) = (0 : Int32)))).1) (by decide) (by decide) ?_
        refine XS.iloadN X0.here hx rfl (hb hby at_60) rfl ?_
        refine st113.trans ?_
        exact κ
      have KC113 : Keep h0 T113.heap [] := KC0.trans K113 all0
      have CH113 := C113.1
      have CR113 := CHr.trans CR0 C113
      have f115 := (X00.keep K113 all0)
      obtain ⟨cq117, kq117, q117a, q117b, q117c⟩ := isOf Z113 rfl Ex113
      obtain ⟨_, _, ⟨T116, L116, k116, n116⟩, -, X116, ⟨Lc116, hQ116, l116, y116, z116⟩, st116⟩ := X113.virtualBack hx (y := (⟨"java/lang/String", "length", "()I"⟩ : MethodName)) (z := (⟨"java/lang/String", "length", "()I"⟩ : MethodName)) O113 (mvT Z113 (hw _ (List.mem_of_getElem? (i := 12) rfl))) (mvT Z113 (hw _ (List.mem_of_getElem? (i := 13) rfl))) (notFace_of_selects (args := #[]) (mvT Z113 (hw _ (List.mem_of_getElem? (i := 15) rfl)))) (mvT Z113 (hw _ (List.mem_of_getElem? (i := 15) rfl))) (mvT Z113 (hw _ (List.mem_of_getElem? (i := 14) rfl))) (by decide) (StrChars.Road.lenW (W := 0) Z113 hln (kI := 4) (hw _ (List.mem_of_getElem? (i := 6) rfl)) (cs := cs113) Ex113 Fv113 Fc113 Vt113 (StrChars.Road.codOf rfl (fun x hx => (hp113 x hx).2)) (own_up _ hp113) (O2.ext f115.2) P5 ln113 (by decide) (by decide)) q117a q117c (g := (mkF m 64 #[.val (.int p0), .val (.long q1), .second, .val (.int (((p0.toUInt32 >>> ((3 : Int32) &&& 31).toUInt32).toInt32) &&& (7 : Int32))), .unset, .val (.int pt), .val (.int (0 : Int32)), .unset, .unset, .unset, .unset, .unset, .unset, .unset, .unset] [(.ref a113)])) rfl (by rw [hml]; rfl) (Steps.refl _) (argsL := []) (rest := []) (lenOf pdo_2 rfl) rfl (by show 2 * 0 + _ ≤ _; exact Nat.le_of_eq rfl) (hb hby at_64) (fun _ _ => ⟨rfl, rfl, (by decide : 2 + 0 ≤ _), (by decide : 32 + 0 ≤ _)⟩)
      dsimp only [Pt.U, Pt.locs, Pt.cells, Pt.slots] at X116 l116 y116 z116 st116 hQ116
      subst l116 y116 z116
      obtain ⟨rfl, rfl, eq116⟩ := hQ116
      have N116 := Fr.app N113 (Fr.nil n0)
      have pq118 : ∀ τ, Steps pP.tables e below (T116.setTop (mkF m 67 #[.val (.int p0), .val (.long q1), .second, .val (.int (((p0.toUInt32 >>> ((3 : Int32) &&& 31).toUInt32).toInt32) &&& (7 : Int32))), .unset, .val (.int pt), .val (.int (0 : Int32)), .unset, .unset, .unset, .unset, .unset, .unset, .unset, .unset] [(.int (Int32.ofNat cs113.length))])) τ → Steps pP.tables e below A0 τ := by
        intro τ κ
        refine pq114 τ ?_
        refine st116.trans ?_
        exact κ
      have f119 := (Nat.le_trans Z0 K113.1)
      obtain ⟨_, _, ⟨T120, L120, k120, n120⟩, -, X120, S120, G120, ⟨Lc120, hQ120, l120, y120, z120, C120⟩, st120⟩ := callSS X116 hx (y := (⟨"interfold/model/LogicTypeNamedPinLaw", "ch", "(IIJZ)C"⟩ : MethodName)) O113 (mvT Z113 (hw _ (List.mem_of_getElem? (i := 25) rfl))) (mvT Z113 (hw _ (List.mem_of_getElem? (i := 26) rfl))) (mvT Z113 (hw _ (List.mem_of_getElem? (i := 2) rfl))) (mvT Z113 (hw _ (List.mem_of_getElem? (i := 27) rfl))) (by decide) (backOfSH (s := s) (vm0 := T113.vm) (EL := consts_1) (W := 0) (rm_ch l Z a0 hw hEW [] (((p0.toUInt32 >>> ((3 : Int32) &&& 31).toUInt32).toInt32) &&& (7 : Int32)) 0 q1 pt G1 G3 T113.heap n0 f119 O2 P5 f115 O4 rG3 (by decide)) Z113 (hw _ (List.mem_of_getElem? (i := 27) rfl)) (hw _ (List.mem_of_getElem? (i := 2) rfl)) (by decide) (by decide) hEW CH113) (g := (mkF m 74 #[.val (.int p0), .val (.long q1), .second, .val (.int (((p0.toUInt32 >>> ((3 : Int32) &&& 31).toUInt32).toInt32) &&& (7 : Int32))), .unset, .val (.int pt), .val (.int (0 : Int32)), .val (.int (Int32.ofNat cs113.length)), .unset, .unset, .unset, .unset, .unset, .unset, .unset] [(.int pt), (.long q1), (.int (0 : Int32)), (.int (((p0.toUInt32 >>> ((3 : Int32) &&& 31).toUInt32).toInt32) &&& (7 : Int32)))])) rfl (by rw [hml]; rfl) (argsL := [(.int (((p0.toUInt32 >>> ((3 : Int32) &&& 31).toUInt32).toInt32) &&& (7 : Int32))), (.int (0 : Int32)), (.long q1), (.int pt)]) (rest := []) (lenOf pdo_8 rfl) rfl (by show 2 * 0 + _ ≤ _; exact Nat.le_of_eq rfl) (hb hby at_74) (fun _ _ => ⟨rfl, eq116, (by decide : 2 + 2 ≤ _), (by decide : 32 + 32 ≤ _)⟩)
      dsimp only [Pt.U, Pt.locs, Pt.cells, Pt.slots] at X120 l120 y120 z120 st120 hQ120 S120 G120 C120
      subst l120 y120 z120
      have G120a : T113.heap.size ≤ T120.heap.size := by first | exact G120 | (rw [← eq116]; exact G120)
      obtain ⟨X120, SI120, Z120, O120⟩ := rebS SI113 SK113 X120 S120 G120a Z113 O113
      have SK120 : T120.heap.size ≤ T120.heap.size := Nat.le_refl _
      obtain ⟨r120, rfl, hr120, Nq120, K120⟩ := hQ120
      have N120 := Fr.app N116 Nq120
      have pq121 : ∀ τ, Steps pP.tables e below (T120.setTop (mkF m 77 #[.val (.int p0), .val (.long q1), .second, .val (.int (((p0.toUInt32 >>> ((3 : Int32) &&& 31).toUInt32).toInt32) &&& (7 : Int32))), .unset, .val (.int pt), .val (.int (0 : Int32)), .val (.int (Int32.ofNat cs113.length)), .unset, .unset, .unset, .unset, .unset, .unset, .unset] [(.int r120)])) τ → Steps pP.tables e below A0 τ := by
        intro τ κ
        refine pq118 τ ?_
        refine XS.istore X116.here hx rfl (hb hby at_67) rfl (l' := #[.val (.int p0), .val (.long q1), .second, .val (.int (((p0.toUInt32 >>> ((3 : Int32) &&& 31).toUInt32).toInt32) &&& (7 : Int32))), .unset, .val (.int pt), .val (.int (0 : Int32)), .val (.int (Int32.ofNat cs113.length)), .unset, .unset, .unset, .unset, .unset, .unset, .unset]) rfl ?_
        refine XS.iloadN X116.here hx rfl (hb hby at_69) rfl ?_
        refine XS.iconst X116.here hx rfl (hb hby at_70) ?_
        refine XS.lloadN X116.here hx rfl (hb hby at_71) rfl ?_
        refine XS.iload X116.here hx rfl (hb hby at_72) rfl ?_
        refine st120.trans ?_
        exact κ
      have KC120 : Keep h0 T120.heap [] := KC113.trans K120 all0
      have CH120 := C120.1
      have CR120 := CHr.trans CR113 C120
      have f122 := (f115.keep K120 all0)
      have f123 := (Nat.le_trans f119 K120.1)
      obtain ⟨_, _, ⟨T124, L124, k124, n124⟩, -, X124, S124, G124, ⟨Lc124, hQ124, l124, y124, z124, C124⟩, st124⟩ := callSS X120 hx (y := (⟨"interfold/model/LogicTypeNamedPinLaw", "ch", "(IIJZ)C"⟩ : MethodName)) O120 (mvT Z120 (hw _ (List.mem_of_getElem? (i := 25) rfl))) (mvT Z120 (hw _ (List.mem_of_getElem? (i := 26) rfl))) (mvT Z120 (hw _ (List.mem_of_getElem? (i := 2) rfl))) (mvT Z120 (hw _ (List.mem_of_getElem? (i := 27) rfl))) (by decide) (backOfSH (s := s) (vm0 := T120.vm) (EL := consts_1) (W := 0) (rm_ch l Z a0 hw hEW [] (((p0.toUInt32 >>> ((3 : Int32) &&& 31).toUInt32).toInt32) &&& (7 : Int32)) 1 q1 pt G1 G3 T120.heap n0 f123 O2 P5 f122 O4 rG3 (by decide)) Z120 (hw _ (List.mem_of_getElem? (i := 27) rfl)) (hw _ (List.mem_of_getElem? (i := 2) rfl)) (by decide) (by decide) hEW CH120) (g := (mkF m 84 #[.val (.int p0), .val (.long q1), .second, .val (.int (((p0.toUInt32 >>> ((3 : Int32) &&& 31).toUInt32).toInt32) &&& (7 : Int32))), .unset, .val (.int pt), .val (.int (0 : Int32)), .val (.int (Int32.ofNat cs113.length)), .val (.int r120), .unset, .unset, .unset, .unset, .unset, .unset] [(.int pt), (.long q1), (.int (1 : Int32)), (.int (((p0.toUInt32 >>> ((3 : Int32) &&& 31).toUInt32).toInt32) &&& (7 : Int32)))])) rfl (by rw [hml]; rfl) (argsL := [(.int (((p0.toUInt32 >>> ((3 : Int32) &&& 31).toUInt32).toInt32) &&& (7 : Int32))), (.int (1 : Int32)), (.long q1), (.int pt)]) (rest := []) (lenOf pdo_8 rfl) rfl (by show 2 * 0 + _ ≤ _; exact Nat.le_of_eq rfl) (hb hby at_84) (fun _ _ => ⟨rfl, rfl, (by decide : 4 + 2 ≤ _), (by decide : 64 + 32 ≤ _)⟩)
      dsimp only [Pt.U, Pt.locs, Pt.cells, Pt.slots] at X124 l124 y124 z124 st124 hQ124 S124 G124 C124
      subst l124 y124 z124
      have G124a : T120.heap.size ≤ T124.heap.size := by first | exact G124 | (rw [← rfl]; exact G124)
      obtain ⟨X124, SI124, Z124, O124⟩ := rebS SI120 SK120 X124 S124 G124a Z120 O120
      have SK124 : T124.heap.size ≤ T124.heap.size := Nat.le_refl _
      obtain ⟨r124, rfl, hr124, Nq124, K124⟩ := hQ124
      have N124 := Fr.app N120 Nq124
      have pq125 : ∀ τ, Steps pP.tables e below (T124.setTop (mkF m 87 #[.val (.int p0), .val (.long q1), .second, .val (.int (((p0.toUInt32 >>> ((3 : Int32) &&& 31).toUInt32).toInt32) &&& (7 : Int32))), .unset, .val (.int pt), .val (.int (0 : Int32)), .val (.int (Int32.ofNat cs113.length)), .val (.int r120), .unset, .unset, .unset, .unset, .unset, .unset] [(.int r124)])) τ → Steps pP.tables e below A0 τ := by
        intro τ κ
        refine pq121 τ ?_
        refine XS.istore X120.here hx rfl (hb hby at_77) rfl (l' := #[.val (.int p0), .val (.long q1), .second, .val (.int (((p0.toUInt32 >>> ((3 : Int32) &&& 31).toUInt32).toInt32) &&& (7 : Int32))), .unset, .val (.int pt), .val (.int (0 : Int32)), .val (.int (Int32.ofNat cs113.length)), .val (.int r120), .unset, .unset, .unset, .unset, .unset, .unset]) rfl ?_
        refine XS.iloadN X120.here hx rfl (hb hby at_79) rfl ?_
        refine XS.iconst X120.here hx rfl (hb hby at_80) ?_
        refine XS.lloadN X120.here hx rfl (hb hby at_81) rfl ?_
        refine XS.iload X120.here hx rfl (hb hby at_82) rfl ?_
        refine st124.trans ?_
        exact κ
      have KC124 : Keep h0 T124.heap [] := KC120.trans K124 all0
      have CH124 := C124.1
      have CR124 := CHr.trans CR120 C124
      have f126 := (f122.keep K124 all0)
      have f127 := (Nat.le_trans f123 K124.1)
      obtain ⟨_, _, ⟨T128, L128, k128, n128⟩, -, X128, S128, G128, ⟨Lc128, hQ128, l128, y128, z128, C128⟩, st128⟩ := callSS X124 hx (y := (⟨"interfold/model/LogicTypeNamedPinLaw", "ch", "(IIJZ)C"⟩ : MethodName)) O124 (mvT Z124 (hw _ (List.mem_of_getElem? (i := 25) rfl))) (mvT Z124 (hw _ (List.mem_of_getElem? (i := 26) rfl))) (mvT Z124 (hw _ (List.mem_of_getElem? (i := 2) rfl))) (mvT Z124 (hw _ (List.mem_of_getElem? (i := 27) rfl))) (by decide) (backOfSH (s := s) (vm0 := T124.vm) (EL := consts_1) (W := 0) (rm_ch l Z a0 hw hEW [] (((p0.toUInt32 >>> ((3 : Int32) &&& 31).toUInt32).toInt32) &&& (7 : Int32)) 2 q1 pt G1 G3 T124.heap n0 f127 O2 P5 f126 O4 rG3 (by decide)) Z124 (hw _ (List.mem_of_getElem? (i := 27) rfl)) (hw _ (List.mem_of_getElem? (i := 2) rfl)) (by decide) (by decide) hEW CH124) (g := (mkF m 94 #[.val (.int p0), .val (.long q1), .second, .val (.int (((p0.toUInt32 >>> ((3 : Int32) &&& 31).toUInt32).toInt32) &&& (7 : Int32))), .unset, .val (.int pt), .val (.int (0 : Int32)), .val (.int (Int32.ofNat cs113.length)), .val (.int r120), .val (.int r124), .unset, .unset, .unset, .unset, .unset] [(.int pt), (.long q1), (.int (2 : Int32)), (.int (((p0.toUInt32 >>> ((3 : Int32) &&& 31).toUInt32).toInt32) &&& (7 : Int32)))])) rfl (by rw [hml]; rfl) (argsL := [(.int (((p0.toUInt32 >>> ((3 : Int32) &&& 31).toUInt32).toInt32) &&& (7 : Int32))), (.int (2 : Int32)), (.long q1), (.int pt)]) (rest := []) (lenOf pdo_8 rfl) rfl (by show 2 * 0 + _ ≤ _; exact Nat.le_of_eq rfl) (hb hby at_94) (fun _ _ => ⟨rfl, rfl, (by decide : 6 + 2 ≤ _), (by decide : 96 + 32 ≤ _)⟩)
      dsimp only [Pt.U, Pt.locs, Pt.cells, Pt.slots] at X128 l128 y128 z128 st128 hQ128 S128 G128 C128
      subst l128 y128 z128
      have G128a : T124.heap.size ≤ T128.heap.size := by first | exact G128 | (rw [← rfl]; exact G128)
      obtain ⟨X128, SI128, Z128, O128⟩ := rebS SI124 SK124 X128 S128 G128a Z124 O124
      have SK128 : T128.heap.size ≤ T128.heap.size := Nat.le_refl _
      obtain ⟨r128, rfl, hr128, Nq128, K128⟩ := hQ128
      have N128 := Fr.app N124 Nq128
      have pq129 : ∀ τ, Steps pP.tables e below (T128.setTop (mkF m 97 #[.val (.int p0), .val (.long q1), .second, .val (.int (((p0.toUInt32 >>> ((3 : Int32) &&& 31).toUInt32).toInt32) &&& (7 : Int32))), .unset, .val (.int pt), .val (.int (0 : Int32)), .val (.int (Int32.ofNat cs113.length)), .val (.int r120), .val (.int r124), .unset, .unset, .unset, .unset, .unset] [(.int r128)])) τ → Steps pP.tables e below A0 τ := by
        intro τ κ
        refine pq125 τ ?_
        refine XS.istore X124.here hx rfl (hb hby at_87) rfl (l' := #[.val (.int p0), .val (.long q1), .second, .val (.int (((p0.toUInt32 >>> ((3 : Int32) &&& 31).toUInt32).toInt32) &&& (7 : Int32))), .unset, .val (.int pt), .val (.int (0 : Int32)), .val (.int (Int32.ofNat cs113.length)), .val (.int r120), .val (.int r124), .unset, .unset, .unset, .unset, .unset]) rfl ?_
        refine XS.iloadN X124.here hx rfl (hb hby at_89) rfl ?_
        refine XS.iconst X124.here hx rfl (hb hby at_90) ?_
        refine XS.lloadN X124.here hx rfl (hb hby at_91) rfl ?_
        refine XS.iload X124.here hx rfl (hb hby at_92) rfl ?_
        refine st128.trans ?_
        exact κ
      have KC128 : Keep h0 T128.heap [] := KC124.trans K128 all0
      have CH128 := C128.1
      have CR128 := CHr.trans CR124 C128
      have f130 := (f126.keep K128 all0)
      have f131 := (Nat.le_trans f127 K128.1)
      obtain ⟨_, _, ⟨T132, L132, k132, n132⟩, -, X132, S132, G132, ⟨Lc132, hQ132, l132, y132, z132, C132⟩, st132⟩ := callSS X128 hx (y := (⟨"interfold/model/LogicTypeNamedPinLaw", "ch", "(IIJZ)C"⟩ : MethodName)) O128 (mvT Z128 (hw _ (List.mem_of_getElem? (i := 25) rfl))) (mvT Z128 (hw _ (List.mem_of_getElem? (i := 26) rfl))) (mvT Z128 (hw _ (List.mem_of_getElem? (i := 2) rfl))) (mvT Z128 (hw _ (List.mem_of_getElem? (i := 27) rfl))) (by decide) (backOfSH (s := s) (vm0 := T128.vm) (EL := consts_1) (W := 0) (rm_ch l Z a0 hw hEW [] (((p0.toUInt32 >>> ((3 : Int32) &&& 31).toUInt32).toInt32) &&& (7 : Int32)) 3 q1 pt G1 G3 T128.heap n0 f131 O2 P5 f130 O4 rG3 (by decide)) Z128 (hw _ (List.mem_of_getElem? (i := 27) rfl)) (hw _ (List.mem_of_getElem? (i := 2) rfl)) (by decide) (by decide) hEW CH128) (g := (mkF m 104 #[.val (.int p0), .val (.long q1), .second, .val (.int (((p0.toUInt32 >>> ((3 : Int32) &&& 31).toUInt32).toInt32) &&& (7 : Int32))), .unset, .val (.int pt), .val (.int (0 : Int32)), .val (.int (Int32.ofNat cs113.length)), .val (.int r120), .val (.int r124), .val (.int r128), .unset, .unset, .unset, .unset] [(.int pt), (.long q1), (.int (3 : Int32)), (.int (((p0.toUInt32 >>> ((3 : Int32) &&& 31).toUInt32).toInt32) &&& (7 : Int32)))])) rfl (by rw [hml]; rfl) (argsL := [(.int (((p0.toUInt32 >>> ((3 : Int32) &&& 31).toUInt32).toInt32) &&& (7 : Int32))), (.int (3 : Int32)), (.long q1), (.int pt)]) (rest := []) (lenOf pdo_8 rfl) rfl (by show 2 * 0 + _ ≤ _; exact Nat.le_of_eq rfl) (hb hby at_104) (fun _ _ => ⟨rfl, rfl, (by decide : 8 + 2 ≤ _), (by decide : 128 + 32 ≤ _)⟩)
      dsimp only [Pt.U, Pt.locs, Pt.cells, Pt.slots] at X132 l132 y132 z132 st132 hQ132 S132 G132 C132
      subst l132 y132 z132
      have G132a : T128.heap.size ≤ T132.heap.size := by first | exact G132 | (rw [← rfl]; exact G132)
      obtain ⟨X132, SI132, Z132, O132⟩ := rebS SI128 SK128 X132 S132 G132a Z128 O128
      have SK132 : T132.heap.size ≤ T132.heap.size := Nat.le_refl _
      obtain ⟨r132, rfl, hr132, Nq132, K132⟩ := hQ132
      have N132 := Fr.app N128 Nq132
      have pq133 : ∀ τ, Steps pP.tables e below (T132.setTop (mkF m 107 #[.val (.int p0), .val (.long q1), .second, .val (.int (((p0.toUInt32 >>> ((3 : Int32) &&& 31).toUInt32).toInt32) &&& (7 : Int32))), .unset, .val (.int pt), .val (.int (0 : Int32)), .val (.int (Int32.ofNat cs113.length)), .val (.int r120), .val (.int r124), .val (.int r128), .unset, .unset, .unset, .unset] [(.int r132)])) τ → Steps pP.tables e below A0 τ := by
        intro τ κ
        refine pq129 τ ?_
        refine XS.istore X128.here hx rfl (hb hby at_97) rfl (l' := #[.val (.int p0), .val (.long q1), .second, .val (.int (((p0.toUInt32 >>> ((3 : Int32) &&& 31).toUInt32).toInt32) &&& (7 : Int32))), .unset, .val (.int pt), .val (.int (0 : Int32)), .val (.int (Int32.ofNat cs113.length)), .val (.int r120), .val (.int r124), .val (.int r128), .unset, .unset, .unset, .unset]) rfl ?_
        refine XS.iloadN X128.here hx rfl (hb hby at_99) rfl ?_
        refine XS.iconst X128.here hx rfl (hb hby at_100) ?_
        refine XS.lloadN X128.here hx rfl (hb hby at_101) rfl ?_
        refine XS.iload X128.here hx rfl (hb hby at_102) rfl ?_
        refine st132.trans ?_
        exact κ
      have KC132 : Keep h0 T132.heap [] := KC128.trans K132 all0
      have CH132 := C132.1
      have CR132 := CHr.trans CR128 C132
      have f134 := (f130.keep K132 all0)
      have f135 := (Nat.le_trans f131 K132.1)
      obtain ⟨_, _, ⟨T136, L136, k136, n136⟩, -, X136, S136, G136, ⟨Lc136, hQ136, l136, y136, z136, C136⟩, st136⟩ := callSS X132 hx (y := (⟨"interfold/model/LogicTypeNamedPinLaw", "ch", "(IIJZ)C"⟩ : MethodName)) O132 (mvT Z132 (hw _ (List.mem_of_getElem? (i := 25) rfl))) (mvT Z132 (hw _ (List.mem_of_getElem? (i := 26) rfl))) (mvT Z132 (hw _ (List.mem_of_getElem? (i := 2) rfl))) (mvT Z132 (hw _ (List.mem_of_getElem? (i := 27) rfl))) (by decide) (backOfSH (s := s) (vm0 := T132.vm) (EL := consts_1) (W := 0) (rm_ch l Z a0 hw hEW [] (((p0.toUInt32 >>> ((3 : Int32) &&& 31).toUInt32).toInt32) &&& (7 : Int32)) 4 q1 pt G1 G3 T132.heap n0 f135 O2 P5 f134 O4 rG3 (by decide)) Z132 (hw _ (List.mem_of_getElem? (i := 27) rfl)) (hw _ (List.mem_of_getElem? (i := 2) rfl)) (by decide) (by decide) hEW CH132) (g := (mkF m 114 #[.val (.int p0), .val (.long q1), .second, .val (.int (((p0.toUInt32 >>> ((3 : Int32) &&& 31).toUInt32).toInt32) &&& (7 : Int32))), .unset, .val (.int pt), .val (.int (0 : Int32)), .val (.int (Int32.ofNat cs113.length)), .val (.int r120), .val (.int r124), .val (.int r128), .val (.int r132), .unset, .unset, .unset] [(.int pt), (.long q1), (.int (4 : Int32)), (.int (((p0.toUInt32 >>> ((3 : Int32) &&& 31).toUInt32).toInt32) &&& (7 : Int32)))])) rfl (by rw [hml]; rfl) (argsL := [(.int (((p0.toUInt32 >>> ((3 : Int32) &&& 31).toUInt32).toInt32) &&& (7 : Int32))), (.int (4 : Int32)), (.long q1), (.int pt)]) (rest := []) (lenOf pdo_8 rfl) rfl (by show 2 * 0 + _ ≤ _; exact Nat.le_of_eq rfl) (hb hby at_114) (fun _ _ => ⟨rfl, rfl, (by decide : 10 + 2 ≤ _), (by decide : 160 + 32 ≤ _)⟩)
      dsimp only [Pt.U, Pt.locs, Pt.cells, Pt.slots] at X136 l136 y136 z136 st136 hQ136 S136 G136 C136
      subst l136 y136 z136
      have G136a : T132.heap.size ≤ T136.heap.size := by first | exact G136 | (rw [← rfl]; exact G136)
      obtain ⟨X136, SI136, Z136, O136⟩ := rebS SI132 SK132 X136 S136 G136a Z132 O132
      have SK136 : T136.heap.size ≤ T136.heap.size := Nat.le_refl _
      obtain ⟨r136, rfl, hr136, Nq136, K136⟩ := hQ136
      have N136 := Fr.app N132 Nq136
      have pq137 : ∀ τ, Steps pP.tables e below (T136.setTop (mkF m 117 #[.val (.int p0), .val (.long q1), .second, .val (.int (((p0.toUInt32 >>> ((3 : Int32) &&& 31).toUInt32).toInt32) &&& (7 : Int32))), .unset, .val (.int pt), .val (.int (0 : Int32)), .val (.int (Int32.ofNat cs113.length)), .val (.int r120), .val (.int r124), .val (.int r128), .val (.int r132), .unset, .unset, .unset] [(.int r136)])) τ → Steps pP.tables e below A0 τ := by
        intro τ κ
        refine pq133 τ ?_
        refine XS.istore X132.here hx rfl (hb hby at_107) rfl (l' := #[.val (.int p0), .val (.long q1), .second, .val (.int (((p0.toUInt32 >>> ((3 : Int32) &&& 31).toUInt32).toInt32) &&& (7 : Int32))), .unset, .val (.int pt), .val (.int (0 : Int32)), .val (.int (Int32.ofNat cs113.length)), .val (.int r120), .val (.int r124), .val (.int r128), .val (.int r132), .unset, .unset, .unset]) rfl ?_
        refine XS.iloadN X132.here hx rfl (hb hby at_109) rfl ?_
        refine XS.iconst X132.here hx rfl (hb hby at_110) ?_
        refine XS.lloadN X132.here hx rfl (hb hby at_111) rfl ?_
        refine XS.iload X132.here hx rfl (hb hby at_112) rfl ?_
        refine st136.trans ?_
        exact κ
      have KC136 : Keep h0 T136.heap [] := KC132.trans K136 all0
      have CH136 := C136.1
      have CR136 := CHr.trans CR132 C136
      have f138 := (f134.keep K136 all0)
      have f139 := (Nat.le_trans f135 K136.1)
      obtain ⟨_, _, ⟨T140, L140, k140, n140⟩, -, X140, S140, G140, ⟨Lc140, hQ140, l140, y140, z140, C140⟩, st140⟩ := callSS X136 hx (y := (⟨"interfold/model/LogicTypeNamedPinLaw", "ch", "(IIJZ)C"⟩ : MethodName)) O136 (mvT Z136 (hw _ (List.mem_of_getElem? (i := 25) rfl))) (mvT Z136 (hw _ (List.mem_of_getElem? (i := 26) rfl))) (mvT Z136 (hw _ (List.mem_of_getElem? (i := 2) rfl))) (mvT Z136 (hw _ (List.mem_of_getElem? (i := 27) rfl))) (by decide) (backOfSH (s := s) (vm0 := T136.vm) (EL := consts_1) (W := 0) (rm_ch l Z a0 hw hEW [] (((p0.toUInt32 >>> ((3 : Int32) &&& 31).toUInt32).toInt32) &&& (7 : Int32)) 5 q1 pt G1 G3 T136.heap n0 f139 O2 P5 f138 O4 rG3 (by decide)) Z136 (hw _ (List.mem_of_getElem? (i := 27) rfl)) (hw _ (List.mem_of_getElem? (i := 2) rfl)) (by decide) (by decide) hEW CH136) (g := (mkF m 124 #[.val (.int p0), .val (.long q1), .second, .val (.int (((p0.toUInt32 >>> ((3 : Int32) &&& 31).toUInt32).toInt32) &&& (7 : Int32))), .unset, .val (.int pt), .val (.int (0 : Int32)), .val (.int (Int32.ofNat cs113.length)), .val (.int r120), .val (.int r124), .val (.int r128), .val (.int r132), .val (.int r136), .unset, .unset] [(.int pt), (.long q1), (.int (5 : Int32)), (.int (((p0.toUInt32 >>> ((3 : Int32) &&& 31).toUInt32).toInt32) &&& (7 : Int32)))])) rfl (by rw [hml]; rfl) (argsL := [(.int (((p0.toUInt32 >>> ((3 : Int32) &&& 31).toUInt32).toInt32) &&& (7 : Int32))), (.int (5 : Int32)), (.long q1), (.int pt)]) (rest := []) (lenOf pdo_8 rfl) rfl (by show 2 * 0 + _ ≤ _; exact Nat.le_of_eq rfl) (hb hby at_124) (fun _ _ => ⟨rfl, rfl, (by decide : 12 + 2 ≤ _), (by decide : 192 + 32 ≤ _)⟩)
      dsimp only [Pt.U, Pt.locs, Pt.cells, Pt.slots] at X140 l140 y140 z140 st140 hQ140 S140 G140 C140
      subst l140 y140 z140
      have G140a : T136.heap.size ≤ T140.heap.size := by first | exact G140 | (rw [← rfl]; exact G140)
      obtain ⟨X140, SI140, Z140, O140⟩ := rebS SI136 SK136 X140 S140 G140a Z136 O136
      have SK140 : T140.heap.size ≤ T140.heap.size := Nat.le_refl _
      obtain ⟨r140, rfl, hr140, Nq140, K140⟩ := hQ140
      have N140 := Fr.app N136 Nq140
      have pq141 : ∀ τ, Steps pP.tables e below (T140.setTop (mkF m 127 #[.val (.int p0), .val (.long q1), .second, .val (.int (((p0.toUInt32 >>> ((3 : Int32) &&& 31).toUInt32).toInt32) &&& (7 : Int32))), .unset, .val (.int pt), .val (.int (0 : Int32)), .val (.int (Int32.ofNat cs113.length)), .val (.int r120), .val (.int r124), .val (.int r128), .val (.int r132), .val (.int r136), .unset, .unset] [(.int r140)])) τ → Steps pP.tables e below A0 τ := by
        intro τ κ
        refine pq137 τ ?_
        refine XS.istore X136.here hx rfl (hb hby at_117) rfl (l' := #[.val (.int p0), .val (.long q1), .second, .val (.int (((p0.toUInt32 >>> ((3 : Int32) &&& 31).toUInt32).toInt32) &&& (7 : Int32))), .unset, .val (.int pt), .val (.int (0 : Int32)), .val (.int (Int32.ofNat cs113.length)), .val (.int r120), .val (.int r124), .val (.int r128), .val (.int r132), .val (.int r136), .unset, .unset]) rfl ?_
        refine XS.iloadN X136.here hx rfl (hb hby at_119) rfl ?_
        refine XS.iconst X136.here hx rfl (hb hby at_120) ?_
        refine XS.lloadN X136.here hx rfl (hb hby at_121) rfl ?_
        refine XS.iload X136.here hx rfl (hb hby at_122) rfl ?_
        refine st140.trans ?_
        exact κ
      have KC140 : Keep h0 T140.heap [] := KC136.trans K140 all0
      have CH140 := C140.1
      have CR140 := CHr.trans CR136 C140
      have f142 := (f138.keep K140 all0)
      have f143 := (Nat.le_trans f139 K140.1)
      obtain ⟨_, _, ⟨T144, L144, k144, n144⟩, -, X144, S144, G144, ⟨Lc144, hQ144, l144, y144, z144, C144⟩, st144⟩ := callSS X140 hx (y := (⟨"interfold/model/LogicTypeNamedPinLaw", "ch", "(IIJZ)C"⟩ : MethodName)) O140 (mvT Z140 (hw _ (List.mem_of_getElem? (i := 25) rfl))) (mvT Z140 (hw _ (List.mem_of_getElem? (i := 26) rfl))) (mvT Z140 (hw _ (List.mem_of_getElem? (i := 2) rfl))) (mvT Z140 (hw _ (List.mem_of_getElem? (i := 27) rfl))) (by decide) (backOfSH (s := s) (vm0 := T140.vm) (EL := consts_1) (W := 0) (rm_ch l Z a0 hw hEW [] (((p0.toUInt32 >>> ((3 : Int32) &&& 31).toUInt32).toInt32) &&& (7 : Int32)) 6 q1 pt G1 G3 T140.heap n0 f143 O2 P5 f142 O4 rG3 (by decide)) Z140 (hw _ (List.mem_of_getElem? (i := 27) rfl)) (hw _ (List.mem_of_getElem? (i := 2) rfl)) (by decide) (by decide) hEW CH140) (g := (mkF m 135 #[.val (.int p0), .val (.long q1), .second, .val (.int (((p0.toUInt32 >>> ((3 : Int32) &&& 31).toUInt32).toInt32) &&& (7 : Int32))), .unset, .val (.int pt), .val (.int (0 : Int32)), .val (.int (Int32.ofNat cs113.length)), .val (.int r120), .val (.int r124), .val (.int r128), .val (.int r132), .val (.int r136), .val (.int r140), .unset] [(.int pt), (.long q1), (.int (6 : Int32)), (.int (((p0.toUInt32 >>> ((3 : Int32) &&& 31).toUInt32).toInt32) &&& (7 : Int32)))])) rfl (by rw [hml]; rfl) (argsL := [(.int (((p0.toUInt32 >>> ((3 : Int32) &&& 31).toUInt32).toInt32) &&& (7 : Int32))), (.int (6 : Int32)), (.long q1), (.int pt)]) (rest := []) (lenOf pdo_8 rfl) rfl (by show 2 * 0 + _ ≤ _; exact Nat.le_of_eq rfl) (hb hby at_135) (fun _ _ => ⟨rfl, rfl, (by decide : 14 + 2 ≤ _), (by decide : 224 + 32 ≤ _)⟩)
      dsimp only [Pt.U, Pt.locs, Pt.cells, Pt.slots] at X144 l144 y144 z144 st144 hQ144 S144 G144 C144
      subst l144 y144 z144
      have G144a : T140.heap.size ≤ T144.heap.size := by first | exact G144 | (rw [← rfl]; exact G144)
      obtain ⟨X144, SI144, Z144, O144⟩ := rebS SI140 SK140 X144 S144 G144a Z140 O140
      have SK144 : T144.heap.size ≤ T144.heap.size := Nat.le_refl _
      obtain ⟨r144, rfl, hr144, Nq144, K144⟩ := hQ144
      have N144 := Fr.app N140 Nq144
      have pq145 : ∀ τ, Steps pP.tables e below (T144.setTop (mkF m 138 #[.val (.int p0), .val (.long q1), .second, .val (.int (((p0.toUInt32 >>> ((3 : Int32) &&& 31).toUInt32).toInt32) &&& (7 : Int32))), .unset, .val (.int pt), .val (.int (0 : Int32)), .val (.int (Int32.ofNat cs113.length)), .val (.int r120), .val (.int r124), .val (.int r128), .val (.int r132), .val (.int r136), .val (.int r140), .unset] [(.int r144)])) τ → Steps pP.tables e below A0 τ := by
        intro τ κ
        refine pq141 τ ?_
        refine XS.istore X140.here hx rfl (hb hby at_127) rfl (l' := #[.val (.int p0), .val (.long q1), .second, .val (.int (((p0.toUInt32 >>> ((3 : Int32) &&& 31).toUInt32).toInt32) &&& (7 : Int32))), .unset, .val (.int pt), .val (.int (0 : Int32)), .val (.int (Int32.ofNat cs113.length)), .val (.int r120), .val (.int r124), .val (.int r128), .val (.int r132), .val (.int r136), .val (.int r140), .unset]) rfl ?_
        refine XS.iloadN X140.here hx rfl (hb hby at_129) rfl ?_
        refine XS.bipush X140.here hx rfl (hb hby at_130) ?_
        refine XS.lloadN X140.here hx rfl (hb hby at_132) rfl ?_
        refine XS.iload X140.here hx rfl (hb hby at_133) rfl ?_
        refine st144.trans ?_
        exact κ
      have KC144 : Keep h0 T144.heap [] := KC140.trans K144 all0
      have CH144 := C144.1
      have CR144 := CHr.trans CR140 C144
      have f146 := (f142.keep K144 all0)
      have f147 := (Nat.le_trans f143 K144.1)
      obtain ⟨_, _, ⟨T148, L148, k148, n148⟩, -, X148, S148, G148, ⟨Lc148, hQ148, l148, y148, z148, C148⟩, st148⟩ := callSS X144 hx (y := (⟨"interfold/model/LogicTypeNamedPinLaw", "make", "(ICCCCCCC)Ljava/lang/String;"⟩ : MethodName)) O144 (mvT Z144 (hw _ (List.mem_of_getElem? (i := 50) rfl))) (mvT Z144 (hw _ (List.mem_of_getElem? (i := 51) rfl))) (mvT Z144 (hw _ (List.mem_of_getElem? (i := 2) rfl))) (mvT Z144 (hw _ (List.mem_of_getElem? (i := 52) rfl))) (by decide) (backOfSH (s := s) (vm0 := T144.vm) (EL := consts_1) (W := 0) (rm_make l Z a0 hw hEW [] (Int32.ofNat cs113.length) r120 r124 r128 r132 r136 r140 r144 G1 T144.heap n0 f147 O2 P5 f146 hr120 hr124 hr128 hr132 hr136 hr140 hr144) Z144 (hw _ (List.mem_of_getElem? (i := 52) rfl)) (hw _ (List.mem_of_getElem? (i := 2) rfl)) (by decide) (by decide) hEW CH144) (g := (mkF m 156 #[.val (.int p0), .val (.long q1), .second, .val (.int (((p0.toUInt32 >>> ((3 : Int32) &&& 31).toUInt32).toInt32) &&& (7 : Int32))), .unset, .val (.int pt), .val (.int (0 : Int32)), .val (.int (Int32.ofNat cs113.length)), .val (.int r120), .val (.int r124), .val (.int r128), .val (.int r132), .val (.int r136), .val (.int r140), .val (.int r144)] [(.int r144), (.int r140), (.int r136), (.int r132), (.int r128), (.int r124), (.int r120), (.int (Int32.ofNat cs113.length))])) rfl (by rw [hml]; rfl) (argsL := [(.int (Int32.ofNat cs113.length)), (.int r120), (.int r124), (.int r128), (.int r132), (.int r136), (.int r140), (.int r144)]) (rest := []) (lenOf pdo_9 rfl) rfl (by show 2 * 0 + _ ≤ _; exact Nat.le_of_eq rfl) (hb hby at_156) (fun _ _ => ⟨rfl, rfl, (by decide : 16 + 4 ≤ _), (by decide : 256 + 18 ≤ _)⟩)
      dsimp only [Pt.U, Pt.locs, Pt.cells, Pt.slots] at X148 l148 y148 z148 st148 hQ148 S148 G148 C148
      subst l148 y148 z148
      have G148a : T144.heap.size ≤ T148.heap.size := by first | exact G148 | (rw [← rfl]; exact G148)
      obtain ⟨X148, SI148, Z148, O148⟩ := rebS SI144 SK144 X148 S148 G148a Z144 O144
      have SK148 : T148.heap.size ≤ T148.heap.size := Nat.le_refl _
      obtain ⟨a148, t148, kb148, rfl, Nq148, K148, Ex148, Fc148, Fv148, Vt148⟩ := hQ148
      have N148 := Fr.app N144 Nq148
      have pq149 : ∀ τ, Steps pP.tables e below (T148.setTop (mkF m 159 #[.val (.int p0), .val (.long q1), .second, .val (.int (((p0.toUInt32 >>> ((3 : Int32) &&& 31).toUInt32).toInt32) &&& (7 : Int32))), .unset, .val (.int pt), .val (.int (0 : Int32)), .val (.int (Int32.ofNat cs113.length)), .val (.int r120), .val (.int r124), .val (.int r128), .val (.int r132), .val (.int r136), .val (.int r140), .val (.int r144)] [(.ref a148)])) τ → Steps pP.tables e below A0 τ := by
        intro τ κ
        refine pq145 τ ?_
        refine XS.istore X144.here hx rfl (hb hby at_138) rfl (l' := #[.val (.int p0), .val (.long q1), .second, .val (.int (((p0.toUInt32 >>> ((3 : Int32) &&& 31).toUInt32).toInt32) &&& (7 : Int32))), .unset, .val (.int pt), .val (.int (0 : Int32)), .val (.int (Int32.ofNat cs113.length)), .val (.int r120), .val (.int r124), .val (.int r128), .val (.int r132), .val (.int r136), .val (.int r140), .val (.int r144)]) rfl ?_
        refine XS.iload X144.here hx rfl (hb hby at_140) rfl ?_
        refine XS.iload X144.here hx rfl (hb hby at_142) rfl ?_
        refine XS.iload X144.here hx rfl (hb hby at_144) rfl ?_
        refine XS.iload X144.here hx rfl (hb hby at_146) rfl ?_
        refine XS.iload X144.here hx rfl (hb hby at_148) rfl ?_
        refine XS.iload X144.here hx rfl (hb hby at_150) rfl ?_
        refine XS.iload X144.here hx rfl (hb hby at_152) rfl ?_
        refine XS.iload X144.here hx rfl (hb hby at_154) rfl ?_
        refine st148.trans ?_
        exact κ
      have KC148 : Keep h0 T148.heap [] := KC144.trans K148 all0
      have CH148 := C148.1
      have CR148 := CHr.trans CR144 C148
      have hq150 : ∀ c ∈ [r120, r124, r128, r132, r136, r140, r144], ¬ c < 0 ∧ ¬ (255 : Int32) < c := by
        intro c hc
        simp only [List.mem_cons, List.not_mem_nil, or_false] at hc
        rcases hc with rfl | rfl | rfl | rfl | rfl | rfl | rfl <;> assumption
      have f151 := (f146.keep K148 all0)
      have f152 := (Nat.le_trans f147 K148.1)
      obtain ⟨_, _, ⟨T153, L153, k153, n153⟩, -, X153, S153, G153, ⟨Lc153, hQ153, l153, y153, z153, C153⟩, st153⟩ := callSS X148 hx (y := (⟨"interfold/model/LogicTypeNamedPinLaw", "ref", "(Ljava/lang/String;)Linterfold/model/LogicType;"⟩ : MethodName)) O148 (mvT Z148 (hw _ (List.mem_of_getElem? (i := 75) rfl))) (mvT Z148 (hw _ (List.mem_of_getElem? (i := 76) rfl))) (mvT Z148 (hw _ (List.mem_of_getElem? (i := 2) rfl))) (mvT Z148 (hw _ (List.mem_of_getElem? (i := 77) rfl))) (by decide) (backOfSH (s := s) (vm0 := T148.vm) (EL := consts_1) (W := 0) (rm_ref l Z a0 hw hEW [] a148 t148 kb148 (own_cs (Int32.ofNat cs113.length) r120 r124 r128 r132 r136 r140 r144) i0 i1 i2 i3 i4 G1 T148.heap n0 f152 OS0 OS1 OS2 OS3 OS4 O2 P5 f151 Ex148 Fc148 Fv148 Vt148 (own_cs_lat hq150) (own_cs_sub _ _ _ _ _ _ _ _).2) Z148 (hw _ (List.mem_of_getElem? (i := 77) rfl)) (hw _ (List.mem_of_getElem? (i := 2) rfl)) (by decide) (by decide) hEW CH148) (g := (mkF m 163 #[.val (.int p0), .val (.long q1), .second, .val (.int (((p0.toUInt32 >>> ((3 : Int32) &&& 31).toUInt32).toInt32) &&& (7 : Int32))), .val (.ref a148), .val (.int pt), .val (.int (0 : Int32)), .val (.int (Int32.ofNat cs113.length)), .val (.int r120), .val (.int r124), .val (.int r128), .val (.int r132), .val (.int r136), .val (.int r140), .val (.int r144)] [(.ref a148)])) rfl (by rw [hml]; rfl) (argsL := [(.ref a148)]) (rest := []) (lenOf pdo_7 rfl) rfl (by show 2 * 0 + _ ≤ _; exact Nat.le_of_eq rfl) (hb hby at_163) (fun _ _ => ⟨rfl, rfl, (by decide : 20 + 10 ≤ _), (by decide : 274 + 124 ≤ _)⟩)
      dsimp only [Pt.U, Pt.locs, Pt.cells, Pt.slots] at X153 l153 y153 z153 st153 hQ153 S153 G153 C153
      subst l153 y153 z153
      have G153a : T148.heap.size ≤ T153.heap.size := by first | exact G153 | (rw [← rfl]; exact G153)
      obtain ⟨X153, SI153, Z153, O153⟩ := rebS SI148 SK148 X153 S153 G153a Z148 O148
      have SK153 : T153.heap.size ≤ T153.heap.size := Nat.le_refl _
      obtain ⟨rfl, Nq153, K153⟩ := hQ153
      have N153 := Fr.app N148 Nq153
      have pq154 : ∀ τ, Steps pP.tables e below (T153.setTop (mkF m 166 #[.val (.int p0), .val (.long q1), .second, .val (.int (((p0.toUInt32 >>> ((3 : Int32) &&& 31).toUInt32).toInt32) &&& (7 : Int32))), .val (.ref a148), .val (.int pt), .val (.int (0 : Int32)), .val (.int (Int32.ofNat cs113.length)), .val (.int r120), .val (.int r124), .val (.int r128), .val (.int r132), .val (.int r136), .val (.int r140), .val (.int r144)] [(own_pick (own_cs (Int32.ofNat cs113.length) r120 r124 r128 r132 r136 r140 r144) i0 i1 i2 i3 i4)])) τ → Steps pP.tables e below A0 τ := by
        intro τ κ
        refine pq149 τ ?_
        refine XS.astore X148.here hx rfl (hb hby at_159) rfl rfl (l' := #[.val (.int p0), .val (.long q1), .second, .val (.int (((p0.toUInt32 >>> ((3 : Int32) &&& 31).toUInt32).toInt32) &&& (7 : Int32))), .val (.ref a148), .val (.int pt), .val (.int (0 : Int32)), .val (.int (Int32.ofNat cs113.length)), .val (.int r120), .val (.int r124), .val (.int r128), .val (.int r132), .val (.int r136), .val (.int r140), .val (.int r144)]) rfl ?_
        refine XS.aload X148.here hx rfl (hb hby at_161) rfl rfl ?_
        refine st153.trans ?_
        exact κ
      have KC153 : Keep h0 T153.heap [] := KC148.trans K153 all0
      have CH153 := C153.1
      have CR153 := CHr.trans CR148 C153
      have f155 := (f151.keep K153 all0)
      have f156 := (Ex148.keep K153)
      have f157 := (Fc148.keep K153 nin0)
      have f158 := (Fv148.keep K153 nin0)
      have f159 := (Vt148.keep K153 nin0)
      have f160 := (Nat.le_trans f152 K153.1)
      obtain ⟨_, _, ⟨T161, L161, k161, n161⟩, -, X161, ⟨Lc161, hQ161, l161, y161, z161⟩, st161⟩ := Jvm.LawKit.callS X153 hx (y := (⟨"interfold/model/LogicType", "named", "(Ljava/lang/String;)Linterfold/model/LogicType;"⟩ : MethodName)) O153 (mvT Z153 (hw _ (List.mem_of_getElem? (i := 90) rfl))) (mvT Z153 (hw _ (List.mem_of_getElem? (i := 91) rfl))) (mvT Z153 (hw _ (List.mem_of_getElem? (i := 88) rfl))) (mvT Z153 (hw _ (List.mem_of_getElem? (i := 92) rfl))) (by decide) (backOf (W := 0) (rm_nam l Z a0 hw [] a148 t148 kb148 (own_cs (Int32.ofNat cs113.length) r120 r124 r128 r132 r136 r140 r144) va ka i0 i1 i2 i3 i4 y0 b0 k0 y1 b1 k1 y2 b2 k2 y3 b3 k3 y4 b4 k4 G1 T153.heap n0 f160 OV EV VV FS0 ES0 FC0 FV0 VS0 FS1 ES1 FC1 FV1 VS1 FS2 ES2 FC2 FV2 VS2 FS3 ES3 FC3 FV3 VS3 FS4 ES4 FC4 FV4 VS4 O2 P5 f155 f156 f157 f158 f159 (own_cs_lat hq150) (own_cs_sub _ _ _ _ _ _ _ _).2) Z153 (hw _ (List.mem_of_getElem? (i := 92) rfl)) (hw _ (List.mem_of_getElem? (i := 88) rfl)) (by decide) (by decide)) (g := (mkF m 170 #[.val (.int p0), .val (.long q1), .second, .val (.int (((p0.toUInt32 >>> ((3 : Int32) &&& 31).toUInt32).toInt32) &&& (7 : Int32))), .val (.ref a148), .val (own_pick (own_cs (Int32.ofNat cs113.length) r120 r124 r128 r132 r136 r140 r144) i0 i1 i2 i3 i4), .val (.int (0 : Int32)), .val (.int (Int32.ofNat cs113.length)), .val (.int r120), .val (.int r124), .val (.int r128), .val (.int r132), .val (.int r136), .val (.int r140), .val (.int r144)] [(.ref a148)])) rfl (by rw [hml]; rfl) (argsL := [(.ref a148)]) (rest := []) (lenOf pdo_7 rfl) rfl (by show 2 * 0 + _ ≤ _; exact Nat.le_of_eq rfl) (hb hby at_170) (fun _ _ => ⟨rfl, rfl, (by decide : 30 + 1 ≤ _), (by decide : 398 + 5 ≤ _)⟩)
      dsimp only [Pt.U, Pt.locs, Pt.cells, Pt.slots] at X161 l161 y161 z161 st161 hQ161
      subst l161 y161 z161
      obtain ⟨rfl, Nq161, K161⟩ := hQ161
      have N161 := Fr.app N153 Nq161
      have pq162 : ∀ τ, Steps pP.tables e below (T161.setTop (mkF m 173 #[.val (.int p0), .val (.long q1), .second, .val (.int (((p0.toUInt32 >>> ((3 : Int32) &&& 31).toUInt32).toInt32) &&& (7 : Int32))), .val (.ref a148), .val (own_pick (own_cs (Int32.ofNat cs113.length) r120 r124 r128 r132 r136 r140 r144) i0 i1 i2 i3 i4), .val (.int (0 : Int32)), .val (.int (Int32.ofNat cs113.length)), .val (.int r120), .val (.int r124), .val (.int r128), .val (.int r132), .val (.int r136), .val (.int r140), .val (.int r144)] [(own_pick (own_cs (Int32.ofNat cs113.length) r120 r124 r128 r132 r136 r140 r144) i0 i1 i2 i3 i4)])) τ → Steps pP.tables e below A0 τ := by
        intro τ κ
        refine pq154 τ ?_
        refine XS.astore X153.here hx rfl (hb hby at_166) rfl (own_pick_ref _ _ _ _ _ _) (l' := #[.val (.int p0), .val (.long q1), .second, .val (.int (((p0.toUInt32 >>> ((3 : Int32) &&& 31).toUInt32).toInt32) &&& (7 : Int32))), .val (.ref a148), .val (own_pick (own_cs (Int32.ofNat cs113.length) r120 r124 r128 r132 r136 r140 r144) i0 i1 i2 i3 i4), .val (.int (0 : Int32)), .val (.int (Int32.ofNat cs113.length)), .val (.int r120), .val (.int r124), .val (.int r128), .val (.int r132), .val (.int r136), .val (.int r140), .val (.int r144)]) (XS.store1 rfl (Or.inr ⟨_, rfl, rfl⟩) (own_cat (own_pick_ref _ _ _ _ _ _))) ?_
        refine XS.aload X153.here hx rfl (hb hby at_168) rfl rfl ?_
        refine st161 _ ?_
        exact κ
      have KC161 : Keep h0 T161.heap [] := KC153.trans K161 all0
      have CH161 := CHv.keep K161 sf0 CH153
      have CR161 := CHr.trans CR153 (CHr.keep K161 sf0 CH153)
      have SK161 := Nat.le_trans SK153 K161.1
      have SKe := SK161
      obtain ⟨fs, hrE, hrun, hended, hEnd⟩ := X161.leaveW SI153 SKe (v := some (.int (1 : Int32))) (fun h => by rw [Bd.returns] at h; cases h)
      have CHe := CHr.trans CR161 (CHv.at X161 Z153 hEW CH161)
      have pqE := pq162
      rw [hA0] at pqE
      refine ⟨_, _, pqE _ ?_, hrun, hended, _, _, rfl, ?_, ?_, hEnd.1, hEnd.2.1, hEnd.2.2.1, hEnd.2.2.2.mono (by decide) (by decide)⟩
      · refine XS.aload X161.here hx rfl (hb hby at_173) rfl (own_pick_ref _ _ _ _ _ _) ?_
        refine Jvm.RoadKit.acmp (g := (mkF m 175 #[.val (.int p0), .val (.long q1), .second, .val (.int (((p0.toUInt32 >>> ((3 : Int32) &&& 31).toUInt32).toInt32) &&& (7 : Int32))), .val (.ref a148), .val (own_pick (own_cs (Int32.ofNat cs113.length) r120 r124 r128 r132 r136 r140 r144) i0 i1 i2 i3 i4), .val (.int (0 : Int32)), .val (.int (Int32.ofNat cs113.length)), .val (.int r120), .val (.int r124), .val (.int r128), .val (.int r132), .val (.int r136), .val (.int r140), .val (.int r144)] [(own_pick (own_cs (Int32.ofNat cs113.length) r120 r124 r128 r132 r136 r140 r144) i0 i1 i2 i3 i4), (own_pick (own_cs (Int32.ofNat cs113.length) r120 r124 r128 r132 r136 r140 r144) i0 i1 i2 i3 i4)])) X161 hx rfl (own_pick_ref _ _ _ _ _ _) (own_pick_ref _ _ _ _ _ _) (pc0 := 175) (pc' := 178) (same := true) rfl (hb hby at_175) rfl (decide_eq_true rfl) (by decide) (by decide) ?_
        refine XS.iconst X161.here hx rfl (hb hby at_178) ?_
        refine XS.goto X161.here hx rfl (pc0 := 179) (pc' := 183) rfl (hb hby at_179) (by decide) (by decide) ?_
        show Steps pP.tables e below (T161.setTop (mkF m 183 #[.val (.int p0), .val (.long q1), .second, .val (.int (((p0.toUInt32 >>> ((3 : Int32) &&& 31).toUInt32).toInt32) &&& (7 : Int32))), .val (.ref a148), .val (own_pick (own_cs (Int32.ofNat cs113.length) r120 r124 r128 r132 r136 r140 r144) i0 i1 i2 i3 i4), .val (.int (0 : Int32)), .val (.int (Int32.ofNat cs113.length)), .val (.int r120), .val (.int r124), .val (.int r128), .val (.int r132), .val (.int r136), .val (.int r140), .val (.int r144)] [(.int (1 : Int32))])) _
        exact retN X161 hx (t := .boolean) Bd.returns (by simp) (hb hby at_183) hrE
      · show Q_law n0 _ T161.heap _
        exact ⟨rfl, N161⟩
      · show CHr Z consts_1 s.vm s.heap T161.vm T161.heap
        rw [hh]; exact CHe
    · skip
      obtain ⟨_, _, ⟨T163, L163, k163, n163⟩, -, X163, S163, G163, ⟨Lc163, hQ163, l163, y163, z163, C163⟩, st163⟩ := callSS X0 hx (y := (⟨"interfold/model/LogicTypeNamedPinLaw", "ch", "(IIJZ)C"⟩ : MethodName)) hown (mvT hZ (hw _ (List.mem_of_getElem? (i := 25) rfl))) (mvT hZ (hw _ (List.mem_of_getElem? (i := 26) rfl))) (mvT hZ (hw _ (List.mem_of_getElem? (i := 2) rfl))) (mvT hZ (hw _ (List.mem_of_getElem? (i := 27) rfl))) (by decide) (backOfSH (s := s) (vm0 := s.vm) (EL := consts_1) (W := 0) (rm_ch l Z a0 hw hEW [] (((p0.toUInt32 >>> ((3 : Int32) &&& 31).toUInt32).toInt32) &&& (7 : Int32)) 0 q1 pt G1 G3 h0 n0 Z0 O2 P5 X00 O4 rG3 (by decide)) hZ (hw _ (List.mem_of_getElem? (i := 27) rfl)) (hw _ (List.mem_of_getElem? (i := 2) rfl)) (by decide) (by decide) hEW CH0) (g := (mkF m 74 #[.val (.int p0), .val (.long q1), .second, .val (.int (((p0.toUInt32 >>> ((3 : Int32) &&& 31).toUInt32).toInt32) &&& (7 : Int32))), .unset, .val (.int pt), .val (.int (1 : Int32)), .val (.int (p0 &&& (7 : Int32))), .unset, .unset, .unset, .unset, .unset, .unset, .unset] [(.int pt), (.long q1), (.int (0 : Int32)), (.int (((p0.toUInt32 >>> ((3 : Int32) &&& 31).toUInt32).toInt32) &&& (7 : Int32)))])) rfl (by rw [hml]; rfl) (argsL := [(.int (((p0.toUInt32 >>> ((3 : Int32) &&& 31).toUInt32).toInt32) &&& (7 : Int32))), (.int (0 : Int32)), (.long q1), (.int pt)]) (rest := []) (lenOf pdo_8 rfl) rfl (by show 2 * 0 + _ ≤ _; exact Nat.le_of_eq rfl) (hb hby at_74) (fun _ _ => ⟨rfl, e0, (by decide : 0 + 2 ≤ _), (by decide : 0 + 32 ≤ _)⟩)
      dsimp only [Pt.U, Pt.locs, Pt.cells, Pt.slots] at X163 l163 y163 z163 st163 hQ163 S163 G163 C163
      subst l163 y163 z163
      have G163a : h0.size ≤ T163.heap.size := by first | exact G163 | (rw [← e0]; exact G163)
      obtain ⟨X163, SI163, Z163, O163⟩ := rebS SI0 SK0 X163 S163 G163a hZ hown
      have SK163 : T163.heap.size ≤ T163.heap.size := Nat.le_refl _
      obtain ⟨r163, rfl, hr163, Nq163, K163⟩ := hQ163
      have N163 := Fr.app N0 Nq163
      have pq164 : ∀ τ, Steps pP.tables e below (T163.setTop (mkF m 77 #[.val (.int p0), .val (.long q1), .second, .val (.int (((p0.toUInt32 >>> ((3 : Int32) &&& 31).toUInt32).toInt32) &&& (7 : Int32))), .unset, .val (.int pt), .val (.int (1 : Int32)), .val (.int (p0 &&& (7 : Int32))), .unset, .unset, .unset, .unset, .unset, .unset, .unset] [(.int r163)])) τ → Steps pP.tables e below A0 τ := by
        intro τ κ
        refine pq111 τ ?_
        refine XS.ifNo X0.here hx rfl (hb hby at_38) rfl ((if0 _ _).trans (feq hc38_112).1) ?_
        refine XS.iconst X0.here hx rfl (hb hby at_41) ?_
        refine XS.goto X0.here hx rfl (pc0 := 42) (pc' := 46) rfl (hb hby at_42) (by decide) (by decide) ?_
        refine XS.istore X0.here hx rfl (hb hby at_46) rfl (l' := #[.val (.int p0), .val (.long q1), .second, .val (.int (((p0.toUInt32 >>> ((3 : Int32) &&& 31).toUInt32).toInt32) &&& (7 : Int32))), .unset, .val (.int pt), .val (.int (1 : Int32)), .unset, .unset, .unset, .unset, .unset, .unset, .unset, .unset]) rfl ?_
        refine XS.iload X0.here hx rfl (hb hby at_48) rfl ?_
        refine XS.ifNo X0.here hx rfl (hb hby at_50) rfl ((if0 _ _).trans (feq (by decide : ¬ ((1 : Int32) = (0 : Int32)))).1) ?_
        refine XS.iloadN X0.here hx rfl (hb hby at_53) rfl ?_
        refine XS.bipush X0.here hx rfl (hb hby at_54) ?_
        refine XS.iand X0.here hx rfl (hb hby at_56) rfl ?_
        refine XS.goto X0.here hx rfl (pc0 := 57) (pc' := 67) rfl (hb hby at_57) (by decide) (by decide) ?_
        refine XS.istore X0.here hx rfl (hb hby at_67) rfl (l' := #[.val (.int p0), .val (.long q1), .second, .val (.int (((p0.toUInt32 >>> ((3 : Int32) &&& 31).toUInt32).toInt32) &&& (7 : Int32))), .unset, .val (.int pt), .val (.int (1 : Int32)), .val (.int (p0 &&& (7 : Int32))), .unset, .unset, .unset, .unset, .unset, .unset, .unset]) rfl ?_
        refine XS.iloadN X0.here hx rfl (hb hby at_69) rfl ?_
        refine XS.iconst X0.here hx rfl (hb hby at_70) ?_
        refine XS.lloadN X0.here hx rfl (hb hby at_71) rfl ?_
        refine XS.iload X0.here hx rfl (hb hby at_72) rfl ?_
        refine st163.trans ?_
        exact κ
      have KC163 : Keep h0 T163.heap [] := KC0.trans K163 all0
      have CH163 := C163.1
      have CR163 := CHr.trans CR0 C163
      have f165 := (X00.keep K163 all0)
      have f166 := (Nat.le_trans Z0 K163.1)
      obtain ⟨_, _, ⟨T167, L167, k167, n167⟩, -, X167, S167, G167, ⟨Lc167, hQ167, l167, y167, z167, C167⟩, st167⟩ := callSS X163 hx (y := (⟨"interfold/model/LogicTypeNamedPinLaw", "ch", "(IIJZ)C"⟩ : MethodName)) O163 (mvT Z163 (hw _ (List.mem_of_getElem? (i := 25) rfl))) (mvT Z163 (hw _ (List.mem_of_getElem? (i := 26) rfl))) (mvT Z163 (hw _ (List.mem_of_getElem? (i := 2) rfl))) (mvT Z163 (hw _ (List.mem_of_getElem? (i := 27) rfl))) (by decide) (backOfSH (s := s) (vm0 := T163.vm) (EL := consts_1) (W := 0) (rm_ch l Z a0 hw hEW [] (((p0.toUInt32 >>> ((3 : Int32) &&& 31).toUInt32).toInt32) &&& (7 : Int32)) 1 q1 pt G1 G3 T163.heap n0 f166 O2 P5 f165 O4 rG3 (by decide)) Z163 (hw _ (List.mem_of_getElem? (i := 27) rfl)) (hw _ (List.mem_of_getElem? (i := 2) rfl)) (by decide) (by decide) hEW CH163) (g := (mkF m 84 #[.val (.int p0), .val (.long q1), .second, .val (.int (((p0.toUInt32 >>> ((3 : Int32) &&& 31).toUInt32).toInt32) &&& (7 : Int32))), .unset, .val (.int pt), .val (.int (1 : Int32)), .val (.int (p0 &&& (7 : Int32))), .val (.int r163), .unset, .unset, .unset, .unset, .unset, .unset] [(.int pt), (.long q1), (.int (1 : Int32)), (.int (((p0.toUInt32 >>> ((3 : Int32) &&& 31).toUInt32).toInt32) &&& (7 : Int32)))])) rfl (by rw [hml]; rfl) (argsL := [(.int (((p0.toUInt32 >>> ((3 : Int32) &&& 31).toUInt32).toInt32) &&& (7 : Int32))), (.int (1 : Int32)), (.long q1), (.int pt)]) (rest := []) (lenOf pdo_8 rfl) rfl (by show 2 * 0 + _ ≤ _; exact Nat.le_of_eq rfl) (hb hby at_84) (fun _ _ => ⟨rfl, rfl, (by decide : 2 + 2 ≤ _), (by decide : 32 + 32 ≤ _)⟩)
      dsimp only [Pt.U, Pt.locs, Pt.cells, Pt.slots] at X167 l167 y167 z167 st167 hQ167 S167 G167 C167
      subst l167 y167 z167
      have G167a : T163.heap.size ≤ T167.heap.size := by first | exact G167 | (rw [← rfl]; exact G167)
      obtain ⟨X167, SI167, Z167, O167⟩ := rebS SI163 SK163 X167 S167 G167a Z163 O163
      have SK167 : T167.heap.size ≤ T167.heap.size := Nat.le_refl _
      obtain ⟨r167, rfl, hr167, Nq167, K167⟩ := hQ167
      have N167 := Fr.app N163 Nq167
      have pq168 : ∀ τ, Steps pP.tables e below (T167.setTop (mkF m 87 #[.val (.int p0), .val (.long q1), .second, .val (.int (((p0.toUInt32 >>> ((3 : Int32) &&& 31).toUInt32).toInt32) &&& (7 : Int32))), .unset, .val (.int pt), .val (.int (1 : Int32)), .val (.int (p0 &&& (7 : Int32))), .val (.int r163), .unset, .unset, .unset, .unset, .unset, .unset] [(.int r167)])) τ → Steps pP.tables e below A0 τ := by
        intro τ κ
        refine pq164 τ ?_
        refine XS.istore X163.here hx rfl (hb hby at_77) rfl (l' := #[.val (.int p0), .val (.long q1), .second, .val (.int (((p0.toUInt32 >>> ((3 : Int32) &&& 31).toUInt32).toInt32) &&& (7 : Int32))), .unset, .val (.int pt), .val (.int (1 : Int32)), .val (.int (p0 &&& (7 : Int32))), .val (.int r163), .unset, .unset, .unset, .unset, .unset, .unset]) rfl ?_
        refine XS.iloadN X163.here hx rfl (hb hby at_79) rfl ?_
        refine XS.iconst X163.here hx rfl (hb hby at_80) ?_
        refine XS.lloadN X163.here hx rfl (hb hby at_81) rfl ?_
        refine XS.iload X163.here hx rfl (hb hby at_82) rfl ?_
        refine st167.trans ?_
        exact κ
      have KC167 : Keep h0 T167.heap [] := KC163.trans K167 all0
      have CH167 := C167.1
      have CR167 := CHr.trans CR163 C167
      have f169 := (f165.keep K167 all0)
      have f170 := (Nat.le_trans f166 K167.1)
      obtain ⟨_, _, ⟨T171, L171, k171, n171⟩, -, X171, S171, G171, ⟨Lc171, hQ171, l171, y171, z171, C171⟩, st171⟩ := callSS X167 hx (y := (⟨"interfold/model/LogicTypeNamedPinLaw", "ch", "(IIJZ)C"⟩ : MethodName)) O167 (mvT Z167 (hw _ (List.mem_of_getElem? (i := 25) rfl))) (mvT Z167 (hw _ (List.mem_of_getElem? (i := 26) rfl))) (mvT Z167 (hw _ (List.mem_of_getElem? (i := 2) rfl))) (mvT Z167 (hw _ (List.mem_of_getElem? (i := 27) rfl))) (by decide) (backOfSH (s := s) (vm0 := T167.vm) (EL := consts_1) (W := 0) (rm_ch l Z a0 hw hEW [] (((p0.toUInt32 >>> ((3 : Int32) &&& 31).toUInt32).toInt32) &&& (7 : Int32)) 2 q1 pt G1 G3 T167.heap n0 f170 O2 P5 f169 O4 rG3 (by decide)) Z167 (hw _ (List.mem_of_getElem? (i := 27) rfl)) (hw _ (List.mem_of_getElem? (i := 2) rfl)) (by decide) (by decide) hEW CH167) (g := (mkF m 94 #[.val (.int p0), .val (.long q1), .second, .val (.int (((p0.toUInt32 >>> ((3 : Int32) &&& 31).toUInt32).toInt32) &&& (7 : Int32))), .unset, .val (.int pt), .val (.int (1 : Int32)), .val (.int (p0 &&& (7 : Int32))), .val (.int r163), .val (.int r167), .unset, .unset, .unset, .unset, .unset] [(.int pt), (.long q1), (.int (2 : Int32)), (.int (((p0.toUInt32 >>> ((3 : Int32) &&& 31).toUInt32).toInt32) &&& (7 : Int32)))])) rfl (by rw [hml]; rfl) (argsL := [(.int (((p0.toUInt32 >>> ((3 : Int32) &&& 31).toUInt32).toInt32) &&& (7 : Int32))), (.int (2 : Int32)), (.long q1), (.int pt)]) (rest := []) (lenOf pdo_8 rfl) rfl (by show 2 * 0 + _ ≤ _; exact Nat.le_of_eq rfl) (hb hby at_94) (fun _ _ => ⟨rfl, rfl, (by decide : 4 + 2 ≤ _), (by decide : 64 + 32 ≤ _)⟩)
      dsimp only [Pt.U, Pt.locs, Pt.cells, Pt.slots] at X171 l171 y171 z171 st171 hQ171 S171 G171 C171
      subst l171 y171 z171
      have G171a : T167.heap.size ≤ T171.heap.size := by first | exact G171 | (rw [← rfl]; exact G171)
      obtain ⟨X171, SI171, Z171, O171⟩ := rebS SI167 SK167 X171 S171 G171a Z167 O167
      have SK171 : T171.heap.size ≤ T171.heap.size := Nat.le_refl _
      obtain ⟨r171, rfl, hr171, Nq171, K171⟩ := hQ171
      have N171 := Fr.app N167 Nq171
      have pq172 : ∀ τ, Steps pP.tables e below (T171.setTop (mkF m 97 #[.val (.int p0), .val (.long q1), .second, .val (.int (((p0.toUInt32 >>> ((3 : Int32) &&& 31).toUInt32).toInt32) &&& (7 : Int32))), .unset, .val (.int pt), .val (.int (1 : Int32)), .val (.int (p0 &&& (7 : Int32))), .val (.int r163), .val (.int r167), .unset, .unset, .unset, .unset, .unset] [(.int r171)])) τ → Steps pP.tables e below A0 τ := by
        intro τ κ
        refine pq168 τ ?_
        refine XS.istore X167.here hx rfl (hb hby at_87) rfl (l' := #[.val (.int p0), .val (.long q1), .second, .val (.int (((p0.toUInt32 >>> ((3 : Int32) &&& 31).toUInt32).toInt32) &&& (7 : Int32))), .unset, .val (.int pt), .val (.int (1 : Int32)), .val (.int (p0 &&& (7 : Int32))), .val (.int r163), .val (.int r167), .unset, .unset, .unset, .unset, .unset]) rfl ?_
        refine XS.iloadN X167.here hx rfl (hb hby at_89) rfl ?_
        refine XS.iconst X167.here hx rfl (hb hby at_90) ?_
        refine XS.lloadN X167.here hx rfl (hb hby at_91) rfl ?_
        refine XS.iload X167.here hx rfl (hb hby at_92) rfl ?_
        refine st171.trans ?_
        exact κ
      have KC171 : Keep h0 T171.heap [] := KC167.trans K171 all0
      have CH171 := C171.1
      have CR171 := CHr.trans CR167 C171
      have f173 := (f169.keep K171 all0)
      have f174 := (Nat.le_trans f170 K171.1)
      obtain ⟨_, _, ⟨T175, L175, k175, n175⟩, -, X175, S175, G175, ⟨Lc175, hQ175, l175, y175, z175, C175⟩, st175⟩ := callSS X171 hx (y := (⟨"interfold/model/LogicTypeNamedPinLaw", "ch", "(IIJZ)C"⟩ : MethodName)) O171 (mvT Z171 (hw _ (List.mem_of_getElem? (i := 25) rfl))) (mvT Z171 (hw _ (List.mem_of_getElem? (i := 26) rfl))) (mvT Z171 (hw _ (List.mem_of_getElem? (i := 2) rfl))) (mvT Z171 (hw _ (List.mem_of_getElem? (i := 27) rfl))) (by decide) (backOfSH (s := s) (vm0 := T171.vm) (EL := consts_1) (W := 0) (rm_ch l Z a0 hw hEW [] (((p0.toUInt32 >>> ((3 : Int32) &&& 31).toUInt32).toInt32) &&& (7 : Int32)) 3 q1 pt G1 G3 T171.heap n0 f174 O2 P5 f173 O4 rG3 (by decide)) Z171 (hw _ (List.mem_of_getElem? (i := 27) rfl)) (hw _ (List.mem_of_getElem? (i := 2) rfl)) (by decide) (by decide) hEW CH171) (g := (mkF m 104 #[.val (.int p0), .val (.long q1), .second, .val (.int (((p0.toUInt32 >>> ((3 : Int32) &&& 31).toUInt32).toInt32) &&& (7 : Int32))), .unset, .val (.int pt), .val (.int (1 : Int32)), .val (.int (p0 &&& (7 : Int32))), .val (.int r163), .val (.int r167), .val (.int r171), .unset, .unset, .unset, .unset] [(.int pt), (.long q1), (.int (3 : Int32)), (.int (((p0.toUInt32 >>> ((3 : Int32) &&& 31).toUInt32).toInt32) &&& (7 : Int32)))])) rfl (by rw [hml]; rfl) (argsL := [(.int (((p0.toUInt32 >>> ((3 : Int32) &&& 31).toUInt32).toInt32) &&& (7 : Int32))), (.int (3 : Int32)), (.long q1), (.int pt)]) (rest := []) (lenOf pdo_8 rfl) rfl (by show 2 * 0 + _ ≤ _; exact Nat.le_of_eq rfl) (hb hby at_104) (fun _ _ => ⟨rfl, rfl, (by decide : 6 + 2 ≤ _), (by decide : 96 + 32 ≤ _)⟩)
      dsimp only [Pt.U, Pt.locs, Pt.cells, Pt.slots] at X175 l175 y175 z175 st175 hQ175 S175 G175 C175
      subst l175 y175 z175
      have G175a : T171.heap.size ≤ T175.heap.size := by first | exact G175 | (rw [← rfl]; exact G175)
      obtain ⟨X175, SI175, Z175, O175⟩ := rebS SI171 SK171 X175 S175 G175a Z171 O171
      have SK175 : T175.heap.size ≤ T175.heap.size := Nat.le_refl _
      obtain ⟨r175, rfl, hr175, Nq175, K175⟩ := hQ175
      have N175 := Fr.app N171 Nq175
      have pq176 : ∀ τ, Steps pP.tables e below (T175.setTop (mkF m 107 #[.val (.int p0), .val (.long q1), .second, .val (.int (((p0.toUInt32 >>> ((3 : Int32) &&& 31).toUInt32).toInt32) &&& (7 : Int32))), .unset, .val (.int pt), .val (.int (1 : Int32)), .val (.int (p0 &&& (7 : Int32))), .val (.int r163), .val (.int r167), .val (.int r171), .unset, .unset, .unset, .unset] [(.int r175)])) τ → Steps pP.tables e below A0 τ := by
        intro τ κ
        refine pq172 τ ?_
        refine XS.istore X171.here hx rfl (hb hby at_97) rfl (l' := #[.val (.int p0), .val (.long q1), .second, .val (.int (((p0.toUInt32 >>> ((3 : Int32) &&& 31).toUInt32).toInt32) &&& (7 : Int32))), .unset, .val (.int pt), .val (.int (1 : Int32)), .val (.int (p0 &&& (7 : Int32))), .val (.int r163), .val (.int r167), .val (.int r171), .unset, .unset, .unset, .unset]) rfl ?_
        refine XS.iloadN X171.here hx rfl (hb hby at_99) rfl ?_
        refine XS.iconst X171.here hx rfl (hb hby at_100) ?_
        refine XS.lloadN X171.here hx rfl (hb hby at_101) rfl ?_
        refine XS.iload X171.here hx rfl (hb hby at_102) rfl ?_
        refine st175.trans ?_
        exact κ
      have KC175 : Keep h0 T175.heap [] := KC171.trans K175 all0
      have CH175 := C175.1
      have CR175 := CHr.trans CR171 C175
      have f177 := (f173.keep K175 all0)
      have f178 := (Nat.le_trans f174 K175.1)
      obtain ⟨_, _, ⟨T179, L179, k179, n179⟩, -, X179, S179, G179, ⟨Lc179, hQ179, l179, y179, z179, C179⟩, st179⟩ := callSS X175 hx (y := (⟨"interfold/model/LogicTypeNamedPinLaw", "ch", "(IIJZ)C"⟩ : MethodName)) O175 (mvT Z175 (hw _ (List.mem_of_getElem? (i := 25) rfl))) (mvT Z175 (hw _ (List.mem_of_getElem? (i := 26) rfl))) (mvT Z175 (hw _ (List.mem_of_getElem? (i := 2) rfl))) (mvT Z175 (hw _ (List.mem_of_getElem? (i := 27) rfl))) (by decide) (backOfSH (s := s) (vm0 := T175.vm) (EL := consts_1) (W := 0) (rm_ch l Z a0 hw hEW [] (((p0.toUInt32 >>> ((3 : Int32) &&& 31).toUInt32).toInt32) &&& (7 : Int32)) 4 q1 pt G1 G3 T175.heap n0 f178 O2 P5 f177 O4 rG3 (by decide)) Z175 (hw _ (List.mem_of_getElem? (i := 27) rfl)) (hw _ (List.mem_of_getElem? (i := 2) rfl)) (by decide) (by decide) hEW CH175) (g := (mkF m 114 #[.val (.int p0), .val (.long q1), .second, .val (.int (((p0.toUInt32 >>> ((3 : Int32) &&& 31).toUInt32).toInt32) &&& (7 : Int32))), .unset, .val (.int pt), .val (.int (1 : Int32)), .val (.int (p0 &&& (7 : Int32))), .val (.int r163), .val (.int r167), .val (.int r171), .val (.int r175), .unset, .unset, .unset] [(.int pt), (.long q1), (.int (4 : Int32)), (.int (((p0.toUInt32 >>> ((3 : Int32) &&& 31).toUInt32).toInt32) &&& (7 : Int32)))])) rfl (by rw [hml]; rfl) (argsL := [(.int (((p0.toUInt32 >>> ((3 : Int32) &&& 31).toUInt32).toInt32) &&& (7 : Int32))), (.int (4 : Int32)), (.long q1), (.int pt)]) (rest := []) (lenOf pdo_8 rfl) rfl (by show 2 * 0 + _ ≤ _; exact Nat.le_of_eq rfl) (hb hby at_114) (fun _ _ => ⟨rfl, rfl, (by decide : 8 + 2 ≤ _), (by decide : 128 + 32 ≤ _)⟩)
      dsimp only [Pt.U, Pt.locs, Pt.cells, Pt.slots] at X179 l179 y179 z179 st179 hQ179 S179 G179 C179
      subst l179 y179 z179
      have G179a : T175.heap.size ≤ T179.heap.size := by first | exact G179 | (rw [← rfl]; exact G179)
      obtain ⟨X179, SI179, Z179, O179⟩ := rebS SI175 SK175 X179 S179 G179a Z175 O175
      have SK179 : T179.heap.size ≤ T179.heap.size := Nat.le_refl _
      obtain ⟨r179, rfl, hr179, Nq179, K179⟩ := hQ179
      have N179 := Fr.app N175 Nq179
      have pq180 : ∀ τ, Steps pP.tables e below (T179.setTop (mkF m 117 #[.val (.int p0), .val (.long q1), .second, .val (.int (((p0.toUInt32 >>> ((3 : Int32) &&& 31).toUInt32).toInt32) &&& (7 : Int32))), .unset, .val (.int pt), .val (.int (1 : Int32)), .val (.int (p0 &&& (7 : Int32))), .val (.int r163), .val (.int r167), .val (.int r171), .val (.int r175), .unset, .unset, .unset] [(.int r179)])) τ → Steps pP.tables e below A0 τ := by
        intro τ κ
        refine pq176 τ ?_
        refine XS.istore X175.here hx rfl (hb hby at_107) rfl (l' := #[.val (.int p0), .val (.long q1), .second, .val (.int (((p0.toUInt32 >>> ((3 : Int32) &&& 31).toUInt32).toInt32) &&& (7 : Int32))), .unset, .val (.int pt), .val (.int (1 : Int32)), .val (.int (p0 &&& (7 : Int32))), .val (.int r163), .val (.int r167), .val (.int r171), .val (.int r175), .unset, .unset, .unset]) rfl ?_
        refine XS.iloadN X175.here hx rfl (hb hby at_109) rfl ?_
        refine XS.iconst X175.here hx rfl (hb hby at_110) ?_
        refine XS.lloadN X175.here hx rfl (hb hby at_111) rfl ?_
        refine XS.iload X175.here hx rfl (hb hby at_112) rfl ?_
        refine st179.trans ?_
        exact κ
      have KC179 : Keep h0 T179.heap [] := KC175.trans K179 all0
      have CH179 := C179.1
      have CR179 := CHr.trans CR175 C179
      have f181 := (f177.keep K179 all0)
      have f182 := (Nat.le_trans f178 K179.1)
      obtain ⟨_, _, ⟨T183, L183, k183, n183⟩, -, X183, S183, G183, ⟨Lc183, hQ183, l183, y183, z183, C183⟩, st183⟩ := callSS X179 hx (y := (⟨"interfold/model/LogicTypeNamedPinLaw", "ch", "(IIJZ)C"⟩ : MethodName)) O179 (mvT Z179 (hw _ (List.mem_of_getElem? (i := 25) rfl))) (mvT Z179 (hw _ (List.mem_of_getElem? (i := 26) rfl))) (mvT Z179 (hw _ (List.mem_of_getElem? (i := 2) rfl))) (mvT Z179 (hw _ (List.mem_of_getElem? (i := 27) rfl))) (by decide) (backOfSH (s := s) (vm0 := T179.vm) (EL := consts_1) (W := 0) (rm_ch l Z a0 hw hEW [] (((p0.toUInt32 >>> ((3 : Int32) &&& 31).toUInt32).toInt32) &&& (7 : Int32)) 5 q1 pt G1 G3 T179.heap n0 f182 O2 P5 f181 O4 rG3 (by decide)) Z179 (hw _ (List.mem_of_getElem? (i := 27) rfl)) (hw _ (List.mem_of_getElem? (i := 2) rfl)) (by decide) (by decide) hEW CH179) (g := (mkF m 124 #[.val (.int p0), .val (.long q1), .second, .val (.int (((p0.toUInt32 >>> ((3 : Int32) &&& 31).toUInt32).toInt32) &&& (7 : Int32))), .unset, .val (.int pt), .val (.int (1 : Int32)), .val (.int (p0 &&& (7 : Int32))), .val (.int r163), .val (.int r167), .val (.int r171), .val (.int r175), .val (.int r179), .unset, .unset] [(.int pt), (.long q1), (.int (5 : Int32)), (.int (((p0.toUInt32 >>> ((3 : Int32) &&& 31).toUInt32).toInt32) &&& (7 : Int32)))])) rfl (by rw [hml]; rfl) (argsL := [(.int (((p0.toUInt32 >>> ((3 : Int32) &&& 31).toUInt32).toInt32) &&& (7 : Int32))), (.int (5 : Int32)), (.long q1), (.int pt)]) (rest := []) (lenOf pdo_8 rfl) rfl (by show 2 * 0 + _ ≤ _; exact Nat.le_of_eq rfl) (hb hby at_124) (fun _ _ => ⟨rfl, rfl, (by decide : 10 + 2 ≤ _), (by decide : 160 + 32 ≤ _)⟩)
      dsimp only [Pt.U, Pt.locs, Pt.cells, Pt.slots] at X183 l183 y183 z183 st183 hQ183 S183 G183 C183
      subst l183 y183 z183
      have G183a : T179.heap.size ≤ T183.heap.size := by first | exact G183 | (rw [← rfl]; exact G183)
      obtain ⟨X183, SI183, Z183, O183⟩ := rebS SI179 SK179 X183 S183 G183a Z179 O179
      have SK183 : T183.heap.size ≤ T183.heap.size := Nat.le_refl _
      obtain ⟨r183, rfl, hr183, Nq183, K183⟩ := hQ183
      have N183 := Fr.app N179 Nq183
      have pq184 : ∀ τ, Steps pP.tables e below (T183.setTop (mkF m 127 #[.val (.int p0), .val (.long q1), .second, .val (.int (((p0.toUInt32 >>> ((3 : Int32) &&& 31).toUInt32).toInt32) &&& (7 : Int32))), .unset, .val (.int pt), .val (.int (1 : Int32)), .val (.int (p0 &&& (7 : Int32))), .val (.int r163), .val (.int r167), .val (.int r171), .val (.int r175), .val (.int r179), .unset, .unset] [(.int r183)])) τ → Steps pP.tables e below A0 τ := by
        intro τ κ
        refine pq180 τ ?_
        refine XS.istore X179.here hx rfl (hb hby at_117) rfl (l' := #[.val (.int p0), .val (.long q1), .second, .val (.int (((p0.toUInt32 >>> ((3 : Int32) &&& 31).toUInt32).toInt32) &&& (7 : Int32))), .unset, .val (.int pt), .val (.int (1 : Int32)), .val (.int (p0 &&& (7 : Int32))), .val (.int r163), .val (.int r167), .val (.int r171), .val (.int r175), .val (.int r179), .unset, .unset]) rfl ?_
        refine XS.iloadN X179.here hx rfl (hb hby at_119) rfl ?_
        refine XS.iconst X179.here hx rfl (hb hby at_120) ?_
        refine XS.lloadN X179.here hx rfl (hb hby at_121) rfl ?_
        refine XS.iload X179.here hx rfl (hb hby at_122) rfl ?_
        refine st183.trans ?_
        exact κ
      have KC183 : Keep h0 T183.heap [] := KC179.trans K183 all0
      have CH183 := C183.1
      have CR183 := CHr.trans CR179 C183
      have f185 := (f181.keep K183 all0)
      have f186 := (Nat.le_trans f182 K183.1)
      obtain ⟨_, _, ⟨T187, L187, k187, n187⟩, -, X187, S187, G187, ⟨Lc187, hQ187, l187, y187, z187, C187⟩, st187⟩ := callSS X183 hx (y := (⟨"interfold/model/LogicTypeNamedPinLaw", "ch", "(IIJZ)C"⟩ : MethodName)) O183 (mvT Z183 (hw _ (List.mem_of_getElem? (i := 25) rfl))) (mvT Z183 (hw _ (List.mem_of_getElem? (i := 26) rfl))) (mvT Z183 (hw _ (List.mem_of_getElem? (i := 2) rfl))) (mvT Z183 (hw _ (List.mem_of_getElem? (i := 27) rfl))) (by decide) (backOfSH (s := s) (vm0 := T183.vm) (EL := consts_1) (W := 0) (rm_ch l Z a0 hw hEW [] (((p0.toUInt32 >>> ((3 : Int32) &&& 31).toUInt32).toInt32) &&& (7 : Int32)) 6 q1 pt G1 G3 T183.heap n0 f186 O2 P5 f185 O4 rG3 (by decide)) Z183 (hw _ (List.mem_of_getElem? (i := 27) rfl)) (hw _ (List.mem_of_getElem? (i := 2) rfl)) (by decide) (by decide) hEW CH183) (g := (mkF m 135 #[.val (.int p0), .val (.long q1), .second, .val (.int (((p0.toUInt32 >>> ((3 : Int32) &&& 31).toUInt32).toInt32) &&& (7 : Int32))), .unset, .val (.int pt), .val (.int (1 : Int32)), .val (.int (p0 &&& (7 : Int32))), .val (.int r163), .val (.int r167), .val (.int r171), .val (.int r175), .val (.int r179), .val (.int r183), .unset] [(.int pt), (.long q1), (.int (6 : Int32)), (.int (((p0.toUInt32 >>> ((3 : Int32) &&& 31).toUInt32).toInt32) &&& (7 : Int32)))])) rfl (by rw [hml]; rfl) (argsL := [(.int (((p0.toUInt32 >>> ((3 : Int32) &&& 31).toUInt32).toInt32) &&& (7 : Int32))), (.int (6 : Int32)), (.long q1), (.int pt)]) (rest := []) (lenOf pdo_8 rfl) rfl (by show 2 * 0 + _ ≤ _; exact Nat.le_of_eq rfl) (hb hby at_135) (fun _ _ => ⟨rfl, rfl, (by decide : 12 + 2 ≤ _), (by decide : 192 + 32 ≤ _)⟩)
      dsimp only [Pt.U, Pt.locs, Pt.cells, Pt.slots] at X187 l187 y187 z187 st187 hQ187 S187 G187 C187
      subst l187 y187 z187
      have G187a : T183.heap.size ≤ T187.heap.size := by first | exact G187 | (rw [← rfl]; exact G187)
      obtain ⟨X187, SI187, Z187, O187⟩ := rebS SI183 SK183 X187 S187 G187a Z183 O183
      have SK187 : T187.heap.size ≤ T187.heap.size := Nat.le_refl _
      obtain ⟨r187, rfl, hr187, Nq187, K187⟩ := hQ187
      have N187 := Fr.app N183 Nq187
      have pq188 : ∀ τ, Steps pP.tables e below (T187.setTop (mkF m 138 #[.val (.int p0), .val (.long q1), .second, .val (.int (((p0.toUInt32 >>> ((3 : Int32) &&& 31).toUInt32).toInt32) &&& (7 : Int32))), .unset, .val (.int pt), .val (.int (1 : Int32)), .val (.int (p0 &&& (7 : Int32))), .val (.int r163), .val (.int r167), .val (.int r171), .val (.int r175), .val (.int r179), .val (.int r183), .unset] [(.int r187)])) τ → Steps pP.tables e below A0 τ := by
        intro τ κ
        refine pq184 τ ?_
        refine XS.istore X183.here hx rfl (hb hby at_127) rfl (l' := #[.val (.int p0), .val (.long q1), .second, .val (.int (((p0.toUInt32 >>> ((3 : Int32) &&& 31).toUInt32).toInt32) &&& (7 : Int32))), .unset, .val (.int pt), .val (.int (1 : Int32)), .val (.int (p0 &&& (7 : Int32))), .val (.int r163), .val (.int r167), .val (.int r171), .val (.int r175), .val (.int r179), .val (.int r183), .unset]) rfl ?_
        refine XS.iloadN X183.here hx rfl (hb hby at_129) rfl ?_
        refine XS.bipush X183.here hx rfl (hb hby at_130) ?_
        refine XS.lloadN X183.here hx rfl (hb hby at_132) rfl ?_
        refine XS.iload X183.here hx rfl (hb hby at_133) rfl ?_
        refine st187.trans ?_
        exact κ
      have KC187 : Keep h0 T187.heap [] := KC183.trans K187 all0
      have CH187 := C187.1
      have CR187 := CHr.trans CR183 C187
      have f189 := (f185.keep K187 all0)
      have f190 := (Nat.le_trans f186 K187.1)
      obtain ⟨_, _, ⟨T191, L191, k191, n191⟩, -, X191, S191, G191, ⟨Lc191, hQ191, l191, y191, z191, C191⟩, st191⟩ := callSS X187 hx (y := (⟨"interfold/model/LogicTypeNamedPinLaw", "make", "(ICCCCCCC)Ljava/lang/String;"⟩ : MethodName)) O187 (mvT Z187 (hw _ (List.mem_of_getElem? (i := 50) rfl))) (mvT Z187 (hw _ (List.mem_of_getElem? (i := 51) rfl))) (mvT Z187 (hw _ (List.mem_of_getElem? (i := 2) rfl))) (mvT Z187 (hw _ (List.mem_of_getElem? (i := 52) rfl))) (by decide) (backOfSH (s := s) (vm0 := T187.vm) (EL := consts_1) (W := 0) (rm_make l Z a0 hw hEW [] (p0 &&& (7 : Int32)) r163 r167 r171 r175 r179 r183 r187 G1 T187.heap n0 f190 O2 P5 f189 hr163 hr167 hr171 hr175 hr179 hr183 hr187) Z187 (hw _ (List.mem_of_getElem? (i := 52) rfl)) (hw _ (List.mem_of_getElem? (i := 2) rfl)) (by decide) (by decide) hEW CH187) (g := (mkF m 156 #[.val (.int p0), .val (.long q1), .second, .val (.int (((p0.toUInt32 >>> ((3 : Int32) &&& 31).toUInt32).toInt32) &&& (7 : Int32))), .unset, .val (.int pt), .val (.int (1 : Int32)), .val (.int (p0 &&& (7 : Int32))), .val (.int r163), .val (.int r167), .val (.int r171), .val (.int r175), .val (.int r179), .val (.int r183), .val (.int r187)] [(.int r187), (.int r183), (.int r179), (.int r175), (.int r171), (.int r167), (.int r163), (.int (p0 &&& (7 : Int32)))])) rfl (by rw [hml]; rfl) (argsL := [(.int (p0 &&& (7 : Int32))), (.int r163), (.int r167), (.int r171), (.int r175), (.int r179), (.int r183), (.int r187)]) (rest := []) (lenOf pdo_9 rfl) rfl (by show 2 * 0 + _ ≤ _; exact Nat.le_of_eq rfl) (hb hby at_156) (fun _ _ => ⟨rfl, rfl, (by decide : 14 + 4 ≤ _), (by decide : 224 + 18 ≤ _)⟩)
      dsimp only [Pt.U, Pt.locs, Pt.cells, Pt.slots] at X191 l191 y191 z191 st191 hQ191 S191 G191 C191
      subst l191 y191 z191
      have G191a : T187.heap.size ≤ T191.heap.size := by first | exact G191 | (rw [← rfl]; exact G191)
      obtain ⟨X191, SI191, Z191, O191⟩ := rebS SI187 SK187 X191 S191 G191a Z187 O187
      have SK191 : T191.heap.size ≤ T191.heap.size := Nat.le_refl _
      obtain ⟨a191, t191, kb191, rfl, Nq191, K191, Ex191, Fc191, Fv191, Vt191⟩ := hQ191
      have N191 := Fr.app N187 Nq191
      have pq192 : ∀ τ, Steps pP.tables e below (T191.setTop (mkF m 159 #[.val (.int p0), .val (.long q1), .second, .val (.int (((p0.toUInt32 >>> ((3 : Int32) &&& 31).toUInt32).toInt32) &&& (7 : Int32))), .unset, .val (.int pt), .val (.int (1 : Int32)), .val (.int (p0 &&& (7 : Int32))), .val (.int r163), .val (.int r167), .val (.int r171), .val (.int r175), .val (.int r179), .val (.int r183), .val (.int r187)] [(.ref a191)])) τ → Steps pP.tables e below A0 τ := by
        intro τ κ
        refine pq188 τ ?_
        refine XS.istore X187.here hx rfl (hb hby at_138) rfl (l' := #[.val (.int p0), .val (.long q1), .second, .val (.int (((p0.toUInt32 >>> ((3 : Int32) &&& 31).toUInt32).toInt32) &&& (7 : Int32))), .unset, .val (.int pt), .val (.int (1 : Int32)), .val (.int (p0 &&& (7 : Int32))), .val (.int r163), .val (.int r167), .val (.int r171), .val (.int r175), .val (.int r179), .val (.int r183), .val (.int r187)]) rfl ?_
        refine XS.iload X187.here hx rfl (hb hby at_140) rfl ?_
        refine XS.iload X187.here hx rfl (hb hby at_142) rfl ?_
        refine XS.iload X187.here hx rfl (hb hby at_144) rfl ?_
        refine XS.iload X187.here hx rfl (hb hby at_146) rfl ?_
        refine XS.iload X187.here hx rfl (hb hby at_148) rfl ?_
        refine XS.iload X187.here hx rfl (hb hby at_150) rfl ?_
        refine XS.iload X187.here hx rfl (hb hby at_152) rfl ?_
        refine XS.iload X187.here hx rfl (hb hby at_154) rfl ?_
        refine st191.trans ?_
        exact κ
      have KC191 : Keep h0 T191.heap [] := KC187.trans K191 all0
      have CH191 := C191.1
      have CR191 := CHr.trans CR187 C191
      have hq193 : ∀ c ∈ [r163, r167, r171, r175, r179, r183, r187], ¬ c < 0 ∧ ¬ (255 : Int32) < c := by
        intro c hc
        simp only [List.mem_cons, List.not_mem_nil, or_false] at hc
        rcases hc with rfl | rfl | rfl | rfl | rfl | rfl | rfl <;> assumption
      have f194 := (f189.keep K191 all0)
      have f195 := (Nat.le_trans f190 K191.1)
      obtain ⟨_, _, ⟨T196, L196, k196, n196⟩, -, X196, S196, G196, ⟨Lc196, hQ196, l196, y196, z196, C196⟩, st196⟩ := callSS X191 hx (y := (⟨"interfold/model/LogicTypeNamedPinLaw", "ref", "(Ljava/lang/String;)Linterfold/model/LogicType;"⟩ : MethodName)) O191 (mvT Z191 (hw _ (List.mem_of_getElem? (i := 75) rfl))) (mvT Z191 (hw _ (List.mem_of_getElem? (i := 76) rfl))) (mvT Z191 (hw _ (List.mem_of_getElem? (i := 2) rfl))) (mvT Z191 (hw _ (List.mem_of_getElem? (i := 77) rfl))) (by decide) (backOfSH (s := s) (vm0 := T191.vm) (EL := consts_1) (W := 0) (rm_ref l Z a0 hw hEW [] a191 t191 kb191 (own_cs (p0 &&& (7 : Int32)) r163 r167 r171 r175 r179 r183 r187) i0 i1 i2 i3 i4 G1 T191.heap n0 f195 OS0 OS1 OS2 OS3 OS4 O2 P5 f194 Ex191 Fc191 Fv191 Vt191 (own_cs_lat hq193) (own_cs_sub _ _ _ _ _ _ _ _).2) Z191 (hw _ (List.mem_of_getElem? (i := 77) rfl)) (hw _ (List.mem_of_getElem? (i := 2) rfl)) (by decide) (by decide) hEW CH191) (g := (mkF m 163 #[.val (.int p0), .val (.long q1), .second, .val (.int (((p0.toUInt32 >>> ((3 : Int32) &&& 31).toUInt32).toInt32) &&& (7 : Int32))), .val (.ref a191), .val (.int pt), .val (.int (1 : Int32)), .val (.int (p0 &&& (7 : Int32))), .val (.int r163), .val (.int r167), .val (.int r171), .val (.int r175), .val (.int r179), .val (.int r183), .val (.int r187)] [(.ref a191)])) rfl (by rw [hml]; rfl) (argsL := [(.ref a191)]) (rest := []) (lenOf pdo_7 rfl) rfl (by show 2 * 0 + _ ≤ _; exact Nat.le_of_eq rfl) (hb hby at_163) (fun _ _ => ⟨rfl, rfl, (by decide : 18 + 10 ≤ _), (by decide : 242 + 124 ≤ _)⟩)
      dsimp only [Pt.U, Pt.locs, Pt.cells, Pt.slots] at X196 l196 y196 z196 st196 hQ196 S196 G196 C196
      subst l196 y196 z196
      have G196a : T191.heap.size ≤ T196.heap.size := by first | exact G196 | (rw [← rfl]; exact G196)
      obtain ⟨X196, SI196, Z196, O196⟩ := rebS SI191 SK191 X196 S196 G196a Z191 O191
      have SK196 : T196.heap.size ≤ T196.heap.size := Nat.le_refl _
      obtain ⟨rfl, Nq196, K196⟩ := hQ196
      have N196 := Fr.app N191 Nq196
      have pq197 : ∀ τ, Steps pP.tables e below (T196.setTop (mkF m 166 #[.val (.int p0), .val (.long q1), .second, .val (.int (((p0.toUInt32 >>> ((3 : Int32) &&& 31).toUInt32).toInt32) &&& (7 : Int32))), .val (.ref a191), .val (.int pt), .val (.int (1 : Int32)), .val (.int (p0 &&& (7 : Int32))), .val (.int r163), .val (.int r167), .val (.int r171), .val (.int r175), .val (.int r179), .val (.int r183), .val (.int r187)] [(own_pick (own_cs (p0 &&& (7 : Int32)) r163 r167 r171 r175 r179 r183 r187) i0 i1 i2 i3 i4)])) τ → Steps pP.tables e below A0 τ := by
        intro τ κ
        refine pq192 τ ?_
        refine XS.astore X191.here hx rfl (hb hby at_159) rfl rfl (l' := #[.val (.int p0), .val (.long q1), .second, .val (.int (((p0.toUInt32 >>> ((3 : Int32) &&& 31).toUInt32).toInt32) &&& (7 : Int32))), .val (.ref a191), .val (.int pt), .val (.int (1 : Int32)), .val (.int (p0 &&& (7 : Int32))), .val (.int r163), .val (.int r167), .val (.int r171), .val (.int r175), .val (.int r179), .val (.int r183), .val (.int r187)]) rfl ?_
        refine XS.aload X191.here hx rfl (hb hby at_161) rfl rfl ?_
        refine st196.trans ?_
        exact κ
      have KC196 : Keep h0 T196.heap [] := KC191.trans K196 all0
      have CH196 := C196.1
      have CR196 := CHr.trans CR191 C196
      have f198 := (f194.keep K196 all0)
      have f199 := (Ex191.keep K196)
      have f200 := (Fc191.keep K196 nin0)
      have f201 := (Fv191.keep K196 nin0)
      have f202 := (Vt191.keep K196 nin0)
      have f203 := (Nat.le_trans f195 K196.1)
      obtain ⟨_, _, ⟨T204, L204, k204, n204⟩, -, X204, ⟨Lc204, hQ204, l204, y204, z204⟩, st204⟩ := Jvm.LawKit.callS X196 hx (y := (⟨"interfold/model/LogicType", "named", "(Ljava/lang/String;)Linterfold/model/LogicType;"⟩ : MethodName)) O196 (mvT Z196 (hw _ (List.mem_of_getElem? (i := 90) rfl))) (mvT Z196 (hw _ (List.mem_of_getElem? (i := 91) rfl))) (mvT Z196 (hw _ (List.mem_of_getElem? (i := 88) rfl))) (mvT Z196 (hw _ (List.mem_of_getElem? (i := 92) rfl))) (by decide) (backOf (W := 0) (rm_nam l Z a0 hw [] a191 t191 kb191 (own_cs (p0 &&& (7 : Int32)) r163 r167 r171 r175 r179 r183 r187) va ka i0 i1 i2 i3 i4 y0 b0 k0 y1 b1 k1 y2 b2 k2 y3 b3 k3 y4 b4 k4 G1 T196.heap n0 f203 OV EV VV FS0 ES0 FC0 FV0 VS0 FS1 ES1 FC1 FV1 VS1 FS2 ES2 FC2 FV2 VS2 FS3 ES3 FC3 FV3 VS3 FS4 ES4 FC4 FV4 VS4 O2 P5 f198 f199 f200 f201 f202 (own_cs_lat hq193) (own_cs_sub _ _ _ _ _ _ _ _).2) Z196 (hw _ (List.mem_of_getElem? (i := 92) rfl)) (hw _ (List.mem_of_getElem? (i := 88) rfl)) (by decide) (by decide)) (g := (mkF m 170 #[.val (.int p0), .val (.long q1), .second, .val (.int (((p0.toUInt32 >>> ((3 : Int32) &&& 31).toUInt32).toInt32) &&& (7 : Int32))), .val (.ref a191), .val (own_pick (own_cs (p0 &&& (7 : Int32)) r163 r167 r171 r175 r179 r183 r187) i0 i1 i2 i3 i4), .val (.int (1 : Int32)), .val (.int (p0 &&& (7 : Int32))), .val (.int r163), .val (.int r167), .val (.int r171), .val (.int r175), .val (.int r179), .val (.int r183), .val (.int r187)] [(.ref a191)])) rfl (by rw [hml]; rfl) (argsL := [(.ref a191)]) (rest := []) (lenOf pdo_7 rfl) rfl (by show 2 * 0 + _ ≤ _; exact Nat.le_of_eq rfl) (hb hby at_170) (fun _ _ => ⟨rfl, rfl, (by decide : 28 + 1 ≤ _), (by decide : 366 + 5 ≤ _)⟩)
      dsimp only [Pt.U, Pt.locs, Pt.cells, Pt.slots] at X204 l204 y204 z204 st204 hQ204
      subst l204 y204 z204
      obtain ⟨rfl, Nq204, K204⟩ := hQ204
      have N204 := Fr.app N196 Nq204
      have pq205 : ∀ τ, Steps pP.tables e below (T204.setTop (mkF m 173 #[.val (.int p0), .val (.long q1), .second, .val (.int (((p0.toUInt32 >>> ((3 : Int32) &&& 31).toUInt32).toInt32) &&& (7 : Int32))), .val (.ref a191), .val (own_pick (own_cs (p0 &&& (7 : Int32)) r163 r167 r171 r175 r179 r183 r187) i0 i1 i2 i3 i4), .val (.int (1 : Int32)), .val (.int (p0 &&& (7 : Int32))), .val (.int r163), .val (.int r167), .val (.int r171), .val (.int r175), .val (.int r179), .val (.int r183), .val (.int r187)] [(own_pick (own_cs (p0 &&& (7 : Int32)) r163 r167 r171 r175 r179 r183 r187) i0 i1 i2 i3 i4)])) τ → Steps pP.tables e below A0 τ := by
        intro τ κ
        refine pq197 τ ?_
        refine XS.astore X196.here hx rfl (hb hby at_166) rfl (own_pick_ref _ _ _ _ _ _) (l' := #[.val (.int p0), .val (.long q1), .second, .val (.int (((p0.toUInt32 >>> ((3 : Int32) &&& 31).toUInt32).toInt32) &&& (7 : Int32))), .val (.ref a191), .val (own_pick (own_cs (p0 &&& (7 : Int32)) r163 r167 r171 r175 r179 r183 r187) i0 i1 i2 i3 i4), .val (.int (1 : Int32)), .val (.int (p0 &&& (7 : Int32))), .val (.int r163), .val (.int r167), .val (.int r171), .val (.int r175), .val (.int r179), .val (.int r183), .val (.int r187)]) (XS.store1 rfl (Or.inr ⟨_, rfl, rfl⟩) (own_cat (own_pick_ref _ _ _ _ _ _))) ?_
        refine XS.aload X196.here hx rfl (hb hby at_168) rfl rfl ?_
        refine st204 _ ?_
        exact κ
      have KC204 : Keep h0 T204.heap [] := KC196.trans K204 all0
      have CH204 := CHv.keep K204 sf0 CH196
      have CR204 := CHr.trans CR196 (CHr.keep K204 sf0 CH196)
      have SK204 := Nat.le_trans SK196 K204.1
      have SKe := SK204
      obtain ⟨fs, hrE, hrun, hended, hEnd⟩ := X204.leaveW SI196 SKe (v := some (.int (1 : Int32))) (fun h => by rw [Bd.returns] at h; cases h)
      have CHe := CHr.trans CR204 (CHv.at X204 Z196 hEW CH204)
      have pqE := pq205
      rw [hA0] at pqE
      refine ⟨_, _, pqE _ ?_, hrun, hended, _, _, rfl, ?_, ?_, hEnd.1, hEnd.2.1, hEnd.2.2.1, hEnd.2.2.2.mono (by decide) (by decide)⟩
      · refine XS.aload X204.here hx rfl (hb hby at_173) rfl (own_pick_ref _ _ _ _ _ _) ?_
        refine Jvm.RoadKit.acmp (g := (mkF m 175 #[.val (.int p0), .val (.long q1), .second, .val (.int (((p0.toUInt32 >>> ((3 : Int32) &&& 31).toUInt32).toInt32) &&& (7 : Int32))), .val (.ref a191), .val (own_pick (own_cs (p0 &&& (7 : Int32)) r163 r167 r171 r175 r179 r183 r187) i0 i1 i2 i3 i4), .val (.int (1 : Int32)), .val (.int (p0 &&& (7 : Int32))), .val (.int r163), .val (.int r167), .val (.int r171), .val (.int r175), .val (.int r179), .val (.int r183), .val (.int r187)] [(own_pick (own_cs (p0 &&& (7 : Int32)) r163 r167 r171 r175 r179 r183 r187) i0 i1 i2 i3 i4), (own_pick (own_cs (p0 &&& (7 : Int32)) r163 r167 r171 r175 r179 r183 r187) i0 i1 i2 i3 i4)])) X204 hx rfl (own_pick_ref _ _ _ _ _ _) (own_pick_ref _ _ _ _ _ _) (pc0 := 175) (pc' := 178) (same := true) rfl (hb hby at_175) rfl (decide_eq_true rfl) (by decide) (by decide) ?_
        refine XS.iconst X204.here hx rfl (hb hby at_178) ?_
        refine XS.goto X204.here hx rfl (pc0 := 179) (pc' := 183) rfl (hb hby at_179) (by decide) (by decide) ?_
        show Steps pP.tables e below (T204.setTop (mkF m 183 #[.val (.int p0), .val (.long q1), .second, .val (.int (((p0.toUInt32 >>> ((3 : Int32) &&& 31).toUInt32).toInt32) &&& (7 : Int32))), .val (.ref a191), .val (own_pick (own_cs (p0 &&& (7 : Int32)) r163 r167 r171 r175 r179 r183 r187) i0 i1 i2 i3 i4), .val (.int (1 : Int32)), .val (.int (p0 &&& (7 : Int32))), .val (.int r163), .val (.int r167), .val (.int r171), .val (.int r175), .val (.int r179), .val (.int r183), .val (.int r187)] [(.int (1 : Int32))])) _
        exact retN X204 hx (t := .boolean) Bd.returns (by simp) (hb hby at_183) hrE
      · show Q_law n0 _ T204.heap _
        exact ⟨rfl, N204⟩
      · show CHr Z consts_1 s.vm s.heap T204.vm T204.heap
        rw [hh]; exact CHe
set_option maxRecDepth 65536 in
set_option maxHeartbeats 3000000 in
theorem comes_1 {Post : Tables → Env → Array Value → State → Outcome → State → Prop} (hpost : ∀ tb e args s v u, (limb_1_1.after args s (.returned v) u = true ∧ limb_1_2.after args s (.returned v) u = true ∧ True) → ReturnedEndW s (.returned v) u (Jvm.fieldLocs frame_1_writes args s ++ Jvm.arrayLocs frame_1_arrays args s ++ Jvm.staticLocs frame_1_statics s) 32 7360 → Post tb e args s (.returned v) u) :
    ArmFor flags0 classFile x code maxLocals ret World_1 tables_1 room_1 Calls_1 rest_1 Pre_1 Post := by
  intro l hfl _ _ p e ha hc hk s m args below hf hA hF happ hP
  obtain ⟨hcalls, hrest, hpre⟩ := hP
  obtain ⟨-, -, -, hnamed, -, -, -, hat⟩ := (Spec.applies_iff hf).mp happ
  obtain ⟨hg, hn⟩ := and_e (Cond.before_iff.mp (show (Jvm.Cond.and given_1 narrow_1).before args s = true from hpre))
  obtain ⟨gc, g0⟩ := and_e hg
  obtain ⟨ga0, g1⟩ := and_e g0
  obtain ⟨w0, w1, rfl⟩ : ∃ w0 w1 : Value, args = #[w0, w1] := by
    have hs : args.size = 2 := by simpa [Cond.value, given_1] using gc
    obtain ⟨L⟩ := args
    match L, hs with
    | [w0, w1], _ => exact ⟨w0, w1, rfl⟩
  have hw := fun d (hd : d ∈ tables_1) => atoms_spec (ws := Jvm.Cond.code x code maxLocals ret :: tables_1) hat d (List.mem_cons_of_mem _ hd)
  have hfit : Fit s := fun {y c} hc i hi => by
    obtain ⟨ha, rfl⟩ := Array.getElem?_eq_some_iff.mp hc
    have q := List.all_eq_true.mp ((Array.all_eq_true_iff_forall_mem.mp hF) _ (Array.getElem_mem ha)) i (List.mem_range.mpr hi)
    simpa [Array.getElem?_eq_getElem hi] using q
  obtain ⟨hsets, hown0⟩ := atoms_of _ (rest_1_c_eq ▸ (show rest_1_c.before _ s = true from hrest))
  have hr0 := Cond.before_iff.mp hown0
  have nz := not_v (Cond.before_iff.mp (hsets _ (List.mem_of_getElem? (i := 2) rfl)))
  obtain ⟨G1, eG1⟩ := is_v (Cond.before_iff.mp (hsets _ (List.mem_of_getElem? (i := 1) rfl)))
  have O2 : Sta s s.heap "java/lang/String" "COMPACT_STRINGS" "Z" (.int G1) := Sta.start eG1 (Or.inl (hsets _ (List.mem_of_getElem? (i := 0) rfl)))
  have P5 : ¬ (G1 = (0 : Int32)) := gotF (Cond.eq_ints eG1 (Term.int_eval (0))) nz
  obtain ⟨G3, eG3, rG3⟩ := isR_v (Cond.before_iff.mp (hsets _ (List.mem_of_getElem? (i := 8) rfl)))
  have O4 : Sta s s.heap "jdk/internal/util/Preconditions" "SIOOBE_FORMATTER" "Ljava/util/function/BiFunction;" G3 := Sta.start eG3 (Or.inl (hsets _ (List.mem_of_getElem? (i := 7) rfl)))
  obtain ⟨ar0, ear0⟩ := is_v ga0
  obtain rfl : w0 = (.int ar0) := Option.some.inj ear0
  obtain ⟨ar1, ear1⟩ := isL_v g1
  obtain rfl : w1 = (.long ar1) := Option.some.inj ear1
  obtain ⟨cj0, cr0⟩ := and_e hn
  obtain ⟨cj1, cr1⟩ := and_e cr0
  obtain ⟨cj2, cr2⟩ := and_e cr1
  obtain ⟨cj3, cr3⟩ := and_e cr2
  obtain ⟨cj4, cr4⟩ := and_e cr3
  obtain ⟨cj5, cr5⟩ := and_e cr4
  obtain ⟨cj6, cr6⟩ := and_e cr5
  obtain ⟨cj7, cr7⟩ := and_e cr6
  obtain ⟨cj8, cr8⟩ := and_e cr7
  obtain ⟨cj9, cr9⟩ := and_e cr8
  obtain ⟨cj10, cr10⟩ := and_e cr9
  obtain ⟨cj11, cr11⟩ := and_e cr10
  obtain ⟨cj12, cr12⟩ := and_e cr11
  obtain ⟨cj13, cr13⟩ := and_e cr12
  obtain ⟨cj14, cr14⟩ := and_e cr13
  obtain ⟨cj15, cr15⟩ := and_e cr14
  obtain ⟨cj16, cr16⟩ := and_e cr15
  obtain ⟨cj17, cr17⟩ := and_e cr16
  obtain ⟨cj18, cr18⟩ := and_e cr17
  obtain ⟨cj19, cr19⟩ := and_e cr18
  obtain ⟨cj20, cr20⟩ := and_e cr19
  obtain ⟨cj21, cr21⟩ := and_e cr20
  obtain ⟨cj22, cr22⟩ := and_e cr21
  obtain ⟨cj23, cr23⟩ := and_e cr22
  obtain ⟨cj24, cr24⟩ := and_e cr23
  obtain ⟨cj25, cr25⟩ := and_e cr24
  obtain ⟨cj26, cr26⟩ := and_e cr25
  obtain ⟨cj27, cr27⟩ := and_e cr26
  obtain ⟨cj28, cr28⟩ := and_e cr27
  obtain ⟨cj29, cr29⟩ := and_e cr28
  obtain ⟨cj30, cr30⟩ := and_e cr29
  obtain ⟨cj31, cr31⟩ := and_e cr30
  obtain ⟨cj32, cr32⟩ := and_e cr31
  obtain ⟨cj33, cr33⟩ := and_e cr32
  obtain ⟨cj34, cr34⟩ := and_e cr33
  obtain ⟨cj35, cr35⟩ := and_e cr34
  obtain ⟨cj36, cr36⟩ := and_e cr35
  obtain ⟨cj37, cr37⟩ := and_e cr36
  obtain ⟨cj38, cr38⟩ := and_e cr37
  obtain ⟨cj39, cr39⟩ := and_e cr38
  obtain ⟨cj40, cr40⟩ := and_e cr39
  obtain ⟨cj41, cr41⟩ := and_e cr40
  obtain ⟨cj42, cr42⟩ := and_e cr41
  obtain ⟨cj43, cr43⟩ := and_e cr42
  obtain ⟨cj44, cr44⟩ := and_e cr43
  obtain ⟨cj45, cr45⟩ := and_e cr44
  obtain ⟨cj46, cr46⟩ := and_e cr45
  obtain ⟨cj47, cr47⟩ := and_e cr46
  obtain ⟨cj48, cr48⟩ := and_e cr47
  obtain ⟨cj49, cr49⟩ := and_e cr48
  obtain ⟨cj50, cr50⟩ := and_e cr49
  obtain ⟨cj51, cr51⟩ := and_e cr50
  obtain ⟨cj52, cr52⟩ := and_e cr51
  obtain ⟨cj53, cr53⟩ := and_e cr52
  obtain ⟨cj54, cr54⟩ := and_e cr53
  obtain ⟨cj55, cr55⟩ := and_e cr54
  obtain ⟨cj56, cr56⟩ := and_e cr55
  obtain ⟨cj57, cr57⟩ := and_e cr56
  obtain ⟨va, eva⟩ := arr_v cj1
  obtain ⟨i0, ei0_⟩ := exa_v cj0
  obtain ⟨y0, b0, k0, ey0, ES0, FC0, FV0, VT0⟩ := own_oldstr (vs := [.int (105 : Int32), .int (110 : Int32), .int (116 : Int32)]) hfit cj13 cj14 cj15 cj16 (by decide) (by decide) ⟨Cond.eq_int (Cond.before_iff.mpr cj17) rfl, Cond.eq_int (Cond.before_iff.mpr cj18) rfl, Cond.eq_int (Cond.before_iff.mpr cj19) rfl, trivial⟩
  have VS0 : Arv s s.heap b0 k0 .byte (Int32.ofNat (([105, 110, 116] : List Int32)).length) (((([105, 110, 116] : List Int32)).map (fun c : Int32 => c.toInt8.toInt32)).map Value.int) (.int 0) := by first | exact VT0 | exact own_cast (by decide) (by decide) VT0
  have FS0 : Fld s s.heap i0 "interfold/model/LogicType" "written" "Ljava/lang/String;" (.ref y0) := Fld.start ((fld_at ei0_).symm.trans ey0)
  have OS0 : Sta s s.heap "interfold/model/LogicType" "INT" "Linterfold/model/LogicType;" (.ref i0) := Sta.start ei0_ (Or.inr ⟨(hw _ (List.mem_of_getElem? (i := 88) rfl)), (hw _ (List.mem_of_getElem? (i := 89) rfl))⟩)
  have el0 := own_elref ei0_ cj4
  obtain ⟨i1, ei1_⟩ := exa_v cj5
  obtain ⟨y1, b1, k1, ey1, ES1, FC1, FV1, VT1⟩ := own_oldstr (vs := [.int (108 : Int32), .int (111 : Int32), .int (110 : Int32), .int (103 : Int32)]) hfit cj20 cj21 cj22 cj23 (by decide) (by decide) ⟨Cond.eq_int (Cond.before_iff.mpr cj24) rfl, Cond.eq_int (Cond.before_iff.mpr cj37) rfl, Cond.eq_int (Cond.before_iff.mpr cj38) rfl, Cond.eq_int (Cond.before_iff.mpr cj39) rfl, trivial⟩
  have VS1 : Arv s s.heap b1 k1 .byte (Int32.ofNat (([108, 111, 110, 103] : List Int32)).length) (((([108, 111, 110, 103] : List Int32)).map (fun c : Int32 => c.toInt8.toInt32)).map Value.int) (.int 0) := by first | exact VT1 | exact own_cast (by decide) (by decide) VT1
  have FS1 : Fld s s.heap i1 "interfold/model/LogicType" "written" "Ljava/lang/String;" (.ref y1) := Fld.start ((fld_at ei1_).symm.trans ey1)
  have OS1 : Sta s s.heap "interfold/model/LogicType" "LONG" "Linterfold/model/LogicType;" (.ref i1) := Sta.start ei1_ (Or.inr ⟨(hw _ (List.mem_of_getElem? (i := 88) rfl)), (hw _ (List.mem_of_getElem? (i := 105) rfl))⟩)
  have el1 := own_elref ei1_ cj6
  obtain ⟨i2, ei2_⟩ := exa_v cj7
  obtain ⟨y2, b2, k2, ey2, ES2, FC2, FV2, VT2⟩ := own_oldstr (vs := [.int (100 : Int32), .int (111 : Int32), .int (117 : Int32), .int (98 : Int32), .int (108 : Int32), .int (101 : Int32)]) hfit cj25 cj26 cj27 cj28 (by decide) (by decide) ⟨Cond.eq_int (Cond.before_iff.mpr cj40) rfl, Cond.eq_int (Cond.before_iff.mpr cj41) rfl, Cond.eq_int (Cond.before_iff.mpr cj42) rfl, Cond.eq_int (Cond.before_iff.mpr cj43) rfl, Cond.eq_int (Cond.before_iff.mpr cj44) rfl, Cond.eq_int (Cond.before_iff.mpr cj45) rfl, trivial⟩
  have VS2 : Arv s s.heap b2 k2 .byte (Int32.ofNat (([100, 111, 117, 98, 108, 101] : List Int32)).length) (((([100, 111, 117, 98, 108, 101] : List Int32)).map (fun c : Int32 => c.toInt8.toInt32)).map Value.int) (.int 0) := by first | exact VT2 | exact own_cast (by decide) (by decide) VT2
  have FS2 : Fld s s.heap i2 "interfold/model/LogicType" "written" "Ljava/lang/String;" (.ref y2) := Fld.start ((fld_at ei2_).symm.trans ey2)
  have OS2 : Sta s s.heap "interfold/model/LogicType" "DOUBLE" "Linterfold/model/LogicType;" (.ref i2) := Sta.start ei2_ (Or.inr ⟨(hw _ (List.mem_of_getElem? (i := 88) rfl)), (hw _ (List.mem_of_getElem? (i := 106) rfl))⟩)
  have el2 := own_elref ei2_ cj8
  obtain ⟨i3, ei3_⟩ := exa_v cj9
  obtain ⟨y3, b3, k3, ey3, ES3, FC3, FV3, VT3⟩ := own_oldstr (vs := [.int (98 : Int32), .int (111 : Int32), .int (111 : Int32), .int (108 : Int32), .int (101 : Int32), .int (97 : Int32), .int (110 : Int32)]) hfit cj29 cj30 cj31 cj32 (by decide) (by decide) ⟨Cond.eq_int (Cond.before_iff.mpr cj46) rfl, Cond.eq_int (Cond.before_iff.mpr cj47) rfl, Cond.eq_int (Cond.before_iff.mpr cj48) rfl, Cond.eq_int (Cond.before_iff.mpr cj49) rfl, Cond.eq_int (Cond.before_iff.mpr cj50) rfl, Cond.eq_int (Cond.before_iff.mpr cj51) rfl, Cond.eq_int (Cond.before_iff.mpr cj52) rfl, trivial⟩
  have VS3 : Arv s s.heap b3 k3 .byte (Int32.ofNat (([98, 111, 111, 108, 101, 97, 110] : List Int32)).length) (((([98, 111, 111, 108, 101, 97, 110] : List Int32)).map (fun c : Int32 => c.toInt8.toInt32)).map Value.int) (.int 0) := by first | exact VT3 | exact own_cast (by decide) (by decide) VT3
  have FS3 : Fld s s.heap i3 "interfold/model/LogicType" "written" "Ljava/lang/String;" (.ref y3) := Fld.start ((fld_at ei3_).symm.trans ey3)
  have OS3 : Sta s s.heap "interfold/model/LogicType" "BOOLEAN" "Linterfold/model/LogicType;" (.ref i3) := Sta.start ei3_ (Or.inr ⟨(hw _ (List.mem_of_getElem? (i := 88) rfl)), (hw _ (List.mem_of_getElem? (i := 107) rfl))⟩)
  have el3 := own_elref ei3_ cj10
  obtain ⟨i4, ei4_⟩ := exa_v cj11
  obtain ⟨y4, b4, k4, ey4, ES4, FC4, FV4, VT4⟩ := own_oldstr (vs := [.int (83 : Int32), .int (116 : Int32), .int (114 : Int32), .int (105 : Int32), .int (110 : Int32), .int (103 : Int32)]) hfit cj33 cj34 cj35 cj36 (by decide) (by decide) ⟨Cond.eq_int (Cond.before_iff.mpr cj53) rfl, Cond.eq_int (Cond.before_iff.mpr cj54) rfl, Cond.eq_int (Cond.before_iff.mpr cj55) rfl, Cond.eq_int (Cond.before_iff.mpr cj56) rfl, Cond.eq_int (Cond.before_iff.mpr cj57) rfl, Cond.eq_int (Cond.before_iff.mpr cr57) rfl, trivial⟩
  have VS4 : Arv s s.heap b4 k4 .byte (Int32.ofNat (([83, 116, 114, 105, 110, 103] : List Int32)).length) (((([83, 116, 114, 105, 110, 103] : List Int32)).map (fun c : Int32 => c.toInt8.toInt32)).map Value.int) (.int 0) := by first | exact VT4 | exact own_cast (by decide) (by decide) VT4
  have FS4 : Fld s s.heap i4 "interfold/model/LogicType" "written" "Ljava/lang/String;" (.ref y4) := Fld.start ((fld_at ei4_).symm.trans ey4)
  have OS4 : Sta s s.heap "interfold/model/LogicType" "STRING" "Linterfold/model/LogicType;" (.ref i4) := Sta.start ei4_ (Or.inr ⟨(hw _ (List.mem_of_getElem? (i := 88) rfl)), (hw _ (List.mem_of_getElem? (i := 108) rfl))⟩)
  have el4 := own_elref ei4_ cj12
  obtain ⟨ka, VV⟩ := own_oldarr (vs := [.ref i0, .ref i1, .ref i2, .ref i3, .ref i4]) .null hfit eva cj1 cj3 (by decide) rfl ⟨el0, el1, el2, el3, el4, trivial⟩
  have EV : Exa s s.heap va "[Linterfold/model/LogicType;" := Exa.start eva cj2
  have OV : Sta s s.heap "interfold/model/LogicType" "$VALUES" "[Linterfold/model/LogicType;" (.ref va) := Sta.start eva (Or.inl (hw _ (List.mem_of_getElem? (i := 109) rfl)))
  have hEW : EW s _ consts_1 := (EW.cons (hw _ (List.mem_of_getElem? (i := 4) rfl)) (by decide) (EW.cons (hw _ (List.mem_of_getElem? (i := 115) rfl)) (by decide) (EW.cons (hw _ (List.mem_of_getElem? (i := 117) rfl)) (by decide) (EW.cons (hw _ (List.mem_of_getElem? (i := 118) rfl)) (by decide) (EW.cons (hw _ (List.mem_of_getElem? (i := 119) rfl)) (by decide) (EW.cons (hw _ (List.mem_of_getElem? (i := 120) rfl)) (by decide) (EW.cons (hw _ (List.mem_of_getElem? (i := 121) rfl)) (by decide) EW.nil)))))))
  have hCH : CHv s consts_1 s.vm s.heap := CHv.start hEW (fun p hp => hcalls.1 p hp) (hsets _ (List.mem_of_getElem? (i := 2) rfl)) (hw _ (List.mem_of_getElem? (i := 7) rfl)) (hw _ (List.mem_of_getElem? (i := 6) rfl))
  obtain ⟨n, o, h1, h2, h3, _, L, rfl, ⟨rfl, N⟩, hC, hq⟩ := rm_law l s _ hw hEW tables_1 ar0 ar1 va ka i0 i1 i2 i3 i4 y0 b0 k0 y1 b1 k1 y2 b2 k2 y3 b3 k3 y4 b4 k4 G1 G3 s.heap s.heap.size (Nat.le_refl _) OV EV VV OS0 OS1 OS2 OS3 OS4 FS0 ES0 FC0 FV0 VS0 FS1 ES1 FC1 FV1 VS1 FS2 ES2 FC2 FV2 VS2 FS3 ES3 FC3 FV3 VS3 FS4 ES4 FC4 FV4 VS4 O2 P5 (Old.start s) O4 rG3 p e ha hc hk s m _ below hf ((Spec.applies_iff_loose hf).mp happ).1 ⟨rfl, State.Warmed39.refl s, rfl, hCH⟩ trivial
  refine ⟨n, _, h1, h2, h3, hpost _ _ _ _ _ _ ⟨Cond.after_iff.mpr rfl, Cond.after_iff.mpr (eq_i res_at (Term.int_eval (1)) rfl), trivial⟩ ⟨hq.1, hq.2.1, hq.2.2.1, (hq.2.2.2.sift fun y hy => Or.inr (N y hy)).mono (by decide) (by decide)⟩⟩
theorem main_1_1 : Claimed_1_1 := comes_1 fun _ _ _ _ _ _ h hF => ⟨h.1, hF⟩
theorem main_1_2 : Claimed_1_2 := comes_1 fun _ _ _ _ _ _ h hF => ⟨h.2.1, hF⟩
end Jvm.Pilot.@@N@@
namespace Jvm.Pilot.@@N@@
open Jvm Jvm.ClassFile Sem Op Lib Jvm.Free Jvm.Stand Jvm.Pilot.@@N@@.Jvm.D
/-! MADE BY PROGRAM (witnessworld.py) out of the Statement's table words and the real class files: 22 classes; the members and pool entries that the words name. The judged class is class 1, her method 1. -/
namespace start1
open Jvm.ClassFile
def u (s : String) : CpInfo := .utf8 (stringToUtf16 s)
/-- a pool by its gaps: so many unusable entries, then the entry; so many at the end -/
def gap : Nat → List CpInfo → List CpInfo
  | 0, r => r
  | n + 1, r => .unusable :: gap n r
def poolList (es : List (Nat × CpInfo)) (last : Nat) : List CpInfo := es.foldr (fun e r => gap e.1 (e.2 :: r)) (gap last [])
def pool (es : List (Nat × CpInfo)) (last : Nat) : Array CpInfo := ⟨poolList es last⟩
def fileOf (pool : Array CpInfo) (this : Nat) (attrs : Array Attribute := #[]) (ms : Array MethodInfo := #[]) (fl : Nat := 33) (sup : Nat := 0) (ifs : Array Nat := #[]) (fds : Array FieldInfo := #[]) : ClassFile where
  minorVersion := 0
  majorVersion := 65
  constantPool := pool
  accessFlags := fl
  thisClass := this
  superClass := sup
  interfaces := ifs
  fields := fds
  methods := ms
  attributes := attrs
def plain (name : String) (sup : Option ClassId) : Class where
  name := name
  kind := .ordinary
  loader := none
  accessFlags := 33
  super := sup
  interfaces := #[]
  cf := none
  fields := #[]
  methods := #[]
  instanceTypes := #[]
  staticTypes := #[]
  resolved := #[]
  callSites := []
  init := .initialized
  statics := none
  mirror := none

def pool0 : Array CpInfo := pool [(5, u "<init>"), (0, u "()V"), (1, .class_ 10), (1, u "java/lang/Object"), (85, u "clone"), (0, u "()Ljava/lang/Object;")] 26

def k0c0 : Code := { maxStack := 0, maxLocals := 1, code := object_method_1_code, exceptionTable := #[], attributes := #[] }
def k0m0 : Method := { name := "<init>", desc := "()V", sig := { parameters := [], returnType := none }, accessFlags := 1, code := some k0c0 }
def k0m1 : Method := { name := "clone", desc := "()Ljava/lang/Object;", sig := { parameters := [], returnType := some (.object "java/lang/Object") }, accessFlags := 260, code := none }
/-- java/lang/Object -/
def k0 : Class := { plain "java/lang/Object" none with
  accessFlags := 33
  interfaces := #[]
  cf := some (fileOf pool0 8 #[] #[{ accessFlags := 1, nameIndex := 5, descriptorIndex := 6, attributes := #[] }, { accessFlags := 260, nameIndex := 96, descriptorIndex := 97, attributes := #[] }] 33 0 #[] #[])
  fields := #[]
  methods := #[k0m0, k0m1]
  instanceTypes := #[]
  staticTypes := #[]
  resolved := Array.replicate 124 none
  statics := none }

def pool1 : Array CpInfo := pool [(2, .class_ 4), (1, u "java/lang/Object"), (0, u "<init>"), (0, u "()V"), (0, .methodref 8 9), (0, .class_ 10), (0, .nameAndType 11 12), (0, u "interfold/model/LogicTypeNamedPinLaw"), (0, u "name"), (0, u "(I)Ljava/lang/String;"), (0, .methodref 14 15), (0, .class_ 16), (0, .nameAndType 17 18), (0, u "java/lang/String"), (0, u "length"), (0, u "()I"), (0, .methodref 8 20), (0, .nameAndType 21 22), (0, u "ch"), (0, u "(IIJZ)C"), (0, .methodref 8 24), (0, .nameAndType 25 26), (0, u "make"), (0, u "(ICCCCCCC)Ljava/lang/String;"), (0, .methodref 8 28), (0, .nameAndType 29 30), (0, u "ref"), (0, u "(Ljava/lang/String;)Linterfold/model/LogicType;"), (0, .methodref 32 33), (0, .class_ 34), (0, .nameAndType 35 30), (0, u "interfold/model/LogicType"), (0, u "named"), (0, .string 37), (0, u "int"), (0, .string 39), (0, u "long"), (0, .string 41), (0, u "double"), (0, .string 43), (0, u "boolean"), (0, .string 45), (0, u "String"), (0, .string 47), (0, u ""), (0, .methodref 14 49), (0, .nameAndType 50 51), (0, u "charAt"), (0, u "(I)C"), (0, .long 255), (1, .methodref 14 55), (0, .nameAndType 5 56), (0, u "([C)V"), (0, .methodref 14 58), (0, .nameAndType 59 60), (0, u "equals"), (0, u "(Ljava/lang/Object;)Z"), (0, .fieldref 32 62), (0, .nameAndType 63 64), (0, u "INT"), (0, u "Linterfold/model/LogicType;"), (0, .fieldref 32 66), (0, .nameAndType 67 64), (0, u "LONG"), (0, .fieldref 32 69), (0, .nameAndType 70 64), (0, u "DOUBLE"), (0, .fieldref 32 72), (0, .nameAndType 73 64), (0, u "BOOLEAN"), (0, .fieldref 32 75), (0, .nameAndType 76 64), (0, u "STRING"), (2, u "law"), (0, u "(IJ)Z")] 3

def k1m0 : Method := { name := "<init>", desc := "()V", sig := { parameters := [], returnType := none }, accessFlags := 1, code := none }
def k1c1 : Code := { maxStack := 8, maxLocals := 15, code := code, exceptionTable := #[], attributes := #[] }
def k1m1 : Method := { name := "law", desc := "(IJ)Z", sig := { parameters := [.int, .long], returnType := some .boolean }, accessFlags := 9, code := some k1c1 }
def k1c2 : Code := { maxStack := 2, maxLocals := 1, code := method_3_code, exceptionTable := #[], attributes := #[] }
def k1m2 : Method := { name := "name", desc := "(I)Ljava/lang/String;", sig := { parameters := [.int], returnType := some (.object "java/lang/String") }, accessFlags := 10, code := some k1c2 }
def k1c3 : Code := { maxStack := 4, maxLocals := 8, code := method_4_code, exceptionTable := #[], attributes := #[] }
def k1m3 : Method := { name := "ch", desc := "(IIJZ)C", sig := { parameters := [.int, .int, .long, .boolean], returnType := some .char }, accessFlags := 10, code := some k1c3 }
def k1c4 : Code := { maxStack := 6, maxLocals := 8, code := method_5_code, exceptionTable := #[], attributes := #[] }
def k1m4 : Method := { name := "make", desc := "(ICCCCCCC)Ljava/lang/String;", sig := { parameters := [.int, .char, .char, .char, .char, .char, .char, .char], returnType := some (.object "java/lang/String") }, accessFlags := 10, code := some k1c4 }
def k1c5 : Code := { maxStack := 2, maxLocals := 1, code := method_6_code, exceptionTable := #[], attributes := #[] }
def k1m5 : Method := { name := "ref", desc := "(Ljava/lang/String;)Linterfold/model/LogicType;", sig := { parameters := [(.object "java/lang/String")], returnType := some (.object "interfold/model/LogicType") }, accessFlags := 10, code := some k1c5 }
/-- interfold/model/LogicTypeNamedPinLaw -/
def k1 : Class := { plain "interfold/model/LogicTypeNamedPinLaw" (some 0) with
  accessFlags := 49
  interfaces := #[]
  cf := some (fileOf pool1 8 #[] #[{ accessFlags := 1, nameIndex := 5, descriptorIndex := 6, attributes := #[] }, { accessFlags := 9, nameIndex := 79, descriptorIndex := 80, attributes := #[] }, { accessFlags := 10, nameIndex := 11, descriptorIndex := 12, attributes := #[] }, { accessFlags := 10, nameIndex := 21, descriptorIndex := 22, attributes := #[] }, { accessFlags := 10, nameIndex := 25, descriptorIndex := 26, attributes := #[] }, { accessFlags := 10, nameIndex := 29, descriptorIndex := 30, attributes := #[] }] 49 2 #[] #[])
  fields := #[]
  methods := #[k1m0, k1m1, k1m2, k1m3, k1m4, k1m5]
  instanceTypes := #[]
  staticTypes := #[]
  resolved := Array.replicate 84 none
  statics := none }

def pool2 : Array CpInfo := pool [(1, .class_ 2), (0, u "java/io/Serializable"), (0, .class_ 4), (0, u "java/lang/Object")] 2

/-- java/io/Serializable -/
def k2 : Class := { plain "java/io/Serializable" (some 0) with
  accessFlags := 1537
  interfaces := #[]
  cf := some (fileOf pool2 1 #[] #[] 1537 3 #[] #[])
  fields := #[]
  methods := #[]
  instanceTypes := #[]
  staticTypes := #[]
  resolved := Array.replicate 7 none
  statics := none }

def pool3 : Array CpInfo := pool [(1, .class_ 2), (0, u "java/lang/Comparable"), (0, .class_ 4), (0, u "java/lang/Object")] 7

/-- java/lang/Comparable -/
def k3 : Class := { plain "java/lang/Comparable" (some 0) with
  accessFlags := 1537
  interfaces := #[]
  cf := some (fileOf pool3 1 #[] #[] 1537 3 #[] #[])
  fields := #[]
  methods := #[]
  instanceTypes := #[]
  staticTypes := #[]
  resolved := Array.replicate 12 none
  statics := none }

def pool4 : Array CpInfo := pool [(2, .class_ 4), (1, u "java/lang/CharSequence"), (42, .class_ 48), (0, u "java/lang/CharSequence$1CodePointIterator"), (10, .class_ 60), (0, u "java/lang/CharSequence$1CharIterator"), (5, .class_ 67), (0, u "java/lang/Object")] 63

/-- java/lang/CharSequence -/
def k4 : Class := { plain "java/lang/CharSequence" (some 0) with
  accessFlags := 1537
  interfaces := #[]
  cf := some (fileOf pool4 2 #[.nestMembers #[47, 59]] #[] 1537 66 #[] #[])
  fields := #[]
  methods := #[]
  instanceTypes := #[]
  staticTypes := #[]
  resolved := Array.replicate 131 none
  statics := none }

def pool5 : Array CpInfo := pool [(1, .class_ 2), (0, u "java/lang/constant/Constable"), (0, .class_ 4), (0, u "java/lang/Object")] 6

/-- java/lang/constant/Constable -/
def k5 : Class := { plain "java/lang/constant/Constable" (some 0) with
  accessFlags := 1537
  interfaces := #[]
  cf := some (fileOf pool5 1 #[] #[] 1537 3 #[] #[])
  fields := #[]
  methods := #[]
  instanceTypes := #[]
  staticTypes := #[]
  resolved := Array.replicate 11 none
  statics := none }

def pool6 : Array CpInfo := pool [(1, .class_ 2), (0, u "java/lang/constant/ConstantDesc"), (0, .class_ 4), (0, u "java/lang/Object")] 32

/-- java/lang/constant/ConstantDesc -/
def k6 : Class := { plain "java/lang/constant/ConstantDesc" (some 0) with
  accessFlags := 1537
  interfaces := #[]
  cf := some (fileOf pool6 1 #[] #[] 1537 3 #[] #[])
  fields := #[]
  methods := #[]
  instanceTypes := #[]
  staticTypes := #[]
  resolved := Array.replicate 37 none
  statics := none }

def pool7 : Array CpInfo := pool [(1, .methodref 2 3), (0, .class_ 4), (0, .nameAndType 5 6), (0, u "java/lang/Object"), (0, u "<init>"), (0, u "()V"), (0, .string 8), (0, u ""), (0, .fieldref 10 11), (0, .class_ 12), (0, .nameAndType 13 14), (0, u "java/lang/String"), (0, u "value"), (0, u "[B"), (0, .fieldref 10 16), (0, .nameAndType 17 18), (0, u "coder"), (0, u "B"), (2, u "hash"), (0, u "I"), (2, u "hashIsZero"), (0, u "Z"), (0, .methodref 10 28), (0, .nameAndType 5 29), (0, u "([CIILjava/lang/Void;)V"), (8, .fieldref 10 39), (0, .nameAndType 40 26), (0, u "COMPACT_STRINGS"), (1, .class_ 44), (1, u "java/lang/StringUTF16"), (0, u "compress"), (1, .methodref 42 48), (0, .nameAndType 49 50), (0, u "coderFromArrayLen"), (0, u "([BI)B"), (56, .class_ 109), (1, u "java/lang/StringLatin1"), (32, u "()Z"), (34, .methodref 42 178), (0, .nameAndType 45 179), (0, u "([CII)[B"), (154, u "()I"), (0, .methodref 10 336), (0, .nameAndType 17 337), (0, u "()B"), (25, u "([BI)C"), (27, u "(II)V"), (35, u "(I)C"), (64, .methodref 10 493), (0, .nameAndType 494 142), (0, u "isLatin1"), (0, .methodref 107 496), (0, .nameAndType 497 363), (0, u "charAt"), (3, u "checkIndex"), (5, u "length"), (33, .methodref 107 542), (0, .nameAndType 543 544), (0, u "equals"), (0, u "([B[B)Z"), (28, u "(Ljava/lang/Object;)Z"), (1, .class_ 576), (0, u "java/lang/CharSequence"), (22, u "CASE_INSENSITIVE_ORDER"), (0, u "Ljava/util/Comparator;"), (409, u "([C)V"), (42, .fieldref 1054 1055), (0, .class_ 1056), (0, .nameAndType 1057 1058), (0, u "jdk/internal/util/Preconditions"), (0, u "SIOOBE_FORMATTER"), (0, u "Ljava/util/function/BiFunction;"), (0, .methodref 1054 1060), (0, .nameAndType 501 1061), (0, u "(IILjava/util/function/BiFunction;)I"), (39, u "serialPersistentFields"), (0, u "[Ljava/io/ObjectStreamField;"), (0, .class_ 1104), (0, u "java/lang/String$CaseInsensitiveComparator"), (1, .class_ 1107), (0, u "java/io/Serializable"), (0, .class_ 1109), (0, u "java/lang/Comparable"), (0, .class_ 1111), (0, u "java/lang/constant/Constable"), (0, .class_ 1113), (0, u "java/lang/constant/ConstantDesc"), (2, u "serialVersionUID"), (0, u "J"), (3, u "REPL"), (0, u "C"), (2, u "LATIN1"), (1, u "UTF16")] 323

def k7m0 : Method := { name := "<init>", desc := "()V", sig := { parameters := [], returnType := none }, accessFlags := 1, code := none }
def k7c1 : Code := { maxStack := 5, maxLocals := 2, code := jdk_42_method_3_code, exceptionTable := #[], attributes := #[] }
def k7m1 : Method := { name := "<init>", desc := "([C)V", sig := { parameters := [(.array .char)], returnType := none }, accessFlags := 1, code := some k7c1 }
def k7c2 : Code := { maxStack := 2, maxLocals := 1, code := jdk_42_method_54_code, exceptionTable := #[], attributes := #[] }
def k7m2 : Method := { name := "length", desc := "()I", sig := { parameters := [], returnType := some .int }, accessFlags := 1, code := some k7c2 }
def k7c3 : Code := { maxStack := 2, maxLocals := 2, code := jdk_42_method_56_code, exceptionTable := #[], attributes := #[] }
def k7m3 : Method := { name := "charAt", desc := "(I)C", sig := { parameters := [.int], returnType := some .char }, accessFlags := 1, code := some k7c3 }
def k7c4 : Code := { maxStack := 2, maxLocals := 3, code := jdk_42_method_66_code, exceptionTable := #[], attributes := #[] }
def k7m4 : Method := { name := "equals", desc := "(Ljava/lang/Object;)Z", sig := { parameters := [(.object "java/lang/Object")], returnType := some .boolean }, accessFlags := 1, code := some k7c4 }
def k7c5 : Code := { maxStack := 4, maxLocals := 6, code := jdk_42_method_149_code, exceptionTable := #[], attributes := #[] }
def k7m5 : Method := { name := "<init>", desc := "([CIILjava/lang/Void;)V", sig := { parameters := [(.array .char), .int, .int, (.object "java/lang/Void")], returnType := none }, accessFlags := 2, code := some k7c5 }
def k7c6 : Code := { maxStack := 1, maxLocals := 1, code := jdk_42_method_152_code, exceptionTable := #[], attributes := #[] }
def k7m6 : Method := { name := "coder", desc := "()B", sig := { parameters := [], returnType := some .byte }, accessFlags := 0, code := some k7c6 }
def k7c7 : Code := { maxStack := 1, maxLocals := 1, code := jdk_42_method_154_code, exceptionTable := #[], attributes := #[] }
def k7m7 : Method := { name := "isLatin1", desc := "()Z", sig := { parameters := [], returnType := some .boolean }, accessFlags := 0, code := some k7c7 }
def k7c8 : Code := { maxStack := 3, maxLocals := 2, code := jdk_42_method_155_code, exceptionTable := #[], attributes := #[] }
def k7m8 : Method := { name := "checkIndex", desc := "(II)V", sig := { parameters := [.int, .int], returnType := none }, accessFlags := 8, code := some k7c8 }
/-- java/lang/String -/
def k7 : Class := { plain "java/lang/String" (some 0) with
  accessFlags := 49
  interfaces := #[2, 3, 4, 5, 6]
  cf := some (fileOf pool7 10 #[.nestMembers #[1103]] #[{ accessFlags := 1, nameIndex := 5, descriptorIndex := 6, attributes := #[] }, { accessFlags := 1, nameIndex := 5, descriptorIndex := 1010, attributes := #[] }, { accessFlags := 1, nameIndex := 507, descriptorIndex := 334, attributes := #[] }, { accessFlags := 1, nameIndex := 497, descriptorIndex := 427, attributes := #[] }, { accessFlags := 1, nameIndex := 543, descriptorIndex := 573, attributes := #[] }, { accessFlags := 2, nameIndex := 5, descriptorIndex := 29, attributes := #[] }, { accessFlags := 0, nameIndex := 17, descriptorIndex := 337, attributes := #[] }, { accessFlags := 0, nameIndex := 494, descriptorIndex := 142, attributes := #[] }, { accessFlags := 8, nameIndex := 501, descriptorIndex := 391, attributes := #[] }] 49 2 #[1106, 1108, 575, 1110, 1112] #[{ accessFlags := 18, nameIndex := 13, descriptorIndex := 14, attributes := #[] }, { accessFlags := 18, nameIndex := 17, descriptorIndex := 18, attributes := #[] }, { accessFlags := 2, nameIndex := 21, descriptorIndex := 22, attributes := #[] }, { accessFlags := 2, nameIndex := 25, descriptorIndex := 26, attributes := #[] }, { accessFlags := 26, nameIndex := 1116, descriptorIndex := 1117, attributes := #[] }, { accessFlags := 24, nameIndex := 40, descriptorIndex := 26, attributes := #[] }, { accessFlags := 26, nameIndex := 1101, descriptorIndex := 1102, attributes := #[] }, { accessFlags := 26, nameIndex := 1121, descriptorIndex := 1122, attributes := #[] }, { accessFlags := 25, nameIndex := 599, descriptorIndex := 600, attributes := #[] }, { accessFlags := 24, nameIndex := 1125, descriptorIndex := 18, attributes := #[] }, { accessFlags := 24, nameIndex := 1127, descriptorIndex := 18, attributes := #[] }])
  fields := #[{ name := "value", type := (.array .byte), accessFlags := 18, slot := 0, constantValue := 0 }, { name := "coder", type := .byte, accessFlags := 18, slot := 1, constantValue := 0 }, { name := "hash", type := .int, accessFlags := 2, slot := 2, constantValue := 0 }, { name := "hashIsZero", type := .boolean, accessFlags := 2, slot := 3, constantValue := 0 }, { name := "serialVersionUID", type := .long, accessFlags := 26, slot := 0, constantValue := 0 }, { name := "COMPACT_STRINGS", type := .boolean, accessFlags := 24, slot := 1, constantValue := 0 }, { name := "serialPersistentFields", type := (.array (.object "java/io/ObjectStreamField")), accessFlags := 26, slot := 2, constantValue := 0 }, { name := "REPL", type := .char, accessFlags := 26, slot := 3, constantValue := 0 }, { name := "CASE_INSENSITIVE_ORDER", type := (.object "java/util/Comparator"), accessFlags := 25, slot := 4, constantValue := 0 }, { name := "LATIN1", type := .byte, accessFlags := 24, slot := 5, constantValue := 0 }, { name := "UTF16", type := .byte, accessFlags := 24, slot := 6, constantValue := 0 }]
  methods := #[k7m0, k7m1, k7m2, k7m3, k7m4, k7m5, k7m6, k7m7, k7m8]
  instanceTypes := #[(.array .byte), .byte, .int, .boolean]
  staticTypes := #[.long, .boolean, (.array (.object "java/io/ObjectStreamField")), .char, (.object "java/util/Comparator"), .byte, .byte]
  resolved := Array.replicate 1451 none
  statics := some 0 }

def pool8 : Array CpInfo := pool [(1, .class_ 2), (0, u "java/lang/String"), (1, .class_ 6), (1, u "java/lang/Object"), (0, u "<init>"), (0, u "()V"), (0, .methodref 1 10), (0, .nameAndType 11 12), (0, u "checkIndex"), (0, u "(II)V"), (1, .class_ 16), (1, u "java/lang/StringLatin1"), (36, u "([BI)C"), (67, u "$assertionsDisabled"), (0, u "Z"), (98, .class_ 223), (1, u "java/lang/StringLatin1$LinesSpliterator"), (28, u "charAt"), (28, u "equals"), (0, u "([B[B)Z"), (107, .class_ 391), (0, u "java/lang/StringLatin1$CharsSpliterator")] 3

def k8m0 : Method := { name := "<init>", desc := "()V", sig := { parameters := [], returnType := none }, accessFlags := 0, code := none }
def k8c1 : Code := { maxStack := 2, maxLocals := 2, code := jdk_43_method_2_code, exceptionTable := #[], attributes := #[] }
def k8m1 : Method := { name := "charAt", desc := "([BI)C", sig := { parameters := [(.array .byte), .int], returnType := some .char }, accessFlags := 9, code := some k8c1 }
def k8c2 : Code := { maxStack := 3, maxLocals := 3, code := jdk_43_method_13_code, exceptionTable := #[], attributes := #[] }
def k8m2 : Method := { name := "equals", desc := "([B[B)Z", sig := { parameters := [(.array .byte), (.array .byte)], returnType := some .boolean }, accessFlags := 9, code := some k8c2 }
/-- java/lang/StringLatin1 -/
def k8 : Class := { plain "java/lang/StringLatin1" (some 0) with
  accessFlags := 48
  interfaces := #[]
  cf := some (fileOf pool8 14 #[.nestMembers #[390, 221]] #[{ accessFlags := 0, nameIndex := 7, descriptorIndex := 8, attributes := #[] }, { accessFlags := 9, nameIndex := 252, descriptorIndex := 53, attributes := #[] }, { accessFlags := 9, nameIndex := 281, descriptorIndex := 282, attributes := #[] }] 48 4 #[] #[{ accessFlags := 4120, nameIndex := 121, descriptorIndex := 122, attributes := #[] }])
  fields := #[{ name := "$assertionsDisabled", type := .boolean, accessFlags := 4120, slot := 0, constantValue := 0 }]
  methods := #[k8m0, k8m1, k8m2]
  instanceTypes := #[]
  staticTypes := #[.boolean]
  resolved := Array.replicate 395 none
  statics := none }

def pool9 : Array CpInfo := pool [(2, .class_ 4), (1, u "java/lang/Object"), (0, u "<init>"), (0, u "()V"), (17, .class_ 26), (1, u "jdk/internal/util/Preconditions"), (6, u "checkIndex"), (21, .class_ 56), (0, u "jdk/internal/util/Preconditions$4"), (57, .class_ 115), (0, u "jdk/internal/util/Preconditions$1"), (7, u "SIOOBE_FORMATTER"), (0, u "Ljava/util/function/BiFunction;"), (0, .class_ 126), (0, u "jdk/internal/util/Preconditions$2"), (3, u "AIOOBE_FORMATTER"), (0, .class_ 132), (0, u "jdk/internal/util/Preconditions$3"), (3, u "IOOBE_FORMATTER"), (41, u "(IILjava/util/function/BiFunction;)I")] 15

def k9m0 : Method := { name := "<init>", desc := "()V", sig := { parameters := [], returnType := none }, accessFlags := 1, code := none }
def k9c1 : Code := { maxStack := 3, maxLocals := 3, code := jdk_41_method_11_code, exceptionTable := #[], attributes := #[] }
def k9m1 : Method := { name := "checkIndex", desc := "(IILjava/util/function/BiFunction;)I", sig := { parameters := [.int, .int, (.object "java/util/function/BiFunction")], returnType := some .int }, accessFlags := 9, code := some k9c1 }
/-- jdk/internal/util/Preconditions -/
def k9 : Class := { plain "jdk/internal/util/Preconditions" (some 0) with
  accessFlags := 33
  interfaces := #[]
  cf := some (fileOf pool9 24 #[.nestMembers #[55, 131, 125, 114]] #[{ accessFlags := 1, nameIndex := 5, descriptorIndex := 6, attributes := #[] }, { accessFlags := 9, nameIndex := 33, descriptorIndex := 178, attributes := #[] }] 33 2 #[] #[{ accessFlags := 25, nameIndex := 123, descriptorIndex := 124, attributes := #[] }, { accessFlags := 25, nameIndex := 130, descriptorIndex := 124, attributes := #[] }, { accessFlags := 25, nameIndex := 136, descriptorIndex := 124, attributes := #[] }])
  fields := #[{ name := "SIOOBE_FORMATTER", type := (.object "java/util/function/BiFunction"), accessFlags := 25, slot := 0, constantValue := 0 }, { name := "AIOOBE_FORMATTER", type := (.object "java/util/function/BiFunction"), accessFlags := 25, slot := 1, constantValue := 0 }, { name := "IOOBE_FORMATTER", type := (.object "java/util/function/BiFunction"), accessFlags := 25, slot := 2, constantValue := 0 }]
  methods := #[k9m0, k9m1]
  instanceTypes := #[]
  staticTypes := #[(.object "java/util/function/BiFunction"), (.object "java/util/function/BiFunction"), (.object "java/util/function/BiFunction")]
  resolved := Array.replicate 194 none
  statics := some 1 }

def pool10 : Array CpInfo := pool [(6, .class_ 8), (1, u "java/lang/Object"), (0, u "<init>"), (0, u "()V"), (1, .class_ 14), (1, u "java/lang/StringUTF16"), (31, u "$assertionsDisabled"), (0, u "Z"), (13, u "HI_BYTE_SHIFT"), (0, u "I"), (2, u "LO_BYTE_SHIFT"), (49, .methodref 12 116), (0, .nameAndType 117 118), (0, u "compress"), (0, u "([CI[BII)I"), (3, u "([CII)[B"), (138, u "coderFromArrayLen"), (0, u "([BI)B"), (106, .class_ 371), (1, u "java/lang/StringUTF16$LinesSpliterator"), (58, u "MAX_LENGTH"), (196, .class_ 628), (0, u "java/lang/StringUTF16$CodePointsSpliterator"), (0, .class_ 630), (0, u "java/lang/StringUTF16$CharsSpliterator")] 4

def k10m0 : Method := { name := "<init>", desc := "()V", sig := { parameters := [], returnType := none }, accessFlags := 0, code := none }
def k10c1 : Code := { maxStack := 2, maxLocals := 2, code := jdk_52_method_15_code, exceptionTable := #[], attributes := #[] }
def k10m1 : Method := { name := "coderFromArrayLen", desc := "([BI)B", sig := { parameters := [(.array .byte), .int], returnType := some .byte }, accessFlags := 8, code := some k10c1 }
def k10c2 : Code := { maxStack := 5, maxLocals := 6, code := jdk_52_method_16_code, exceptionTable := #[], attributes := #[] }
def k10m2 : Method := { name := "compress", desc := "([CII)[B", sig := { parameters := [(.array .char), .int, .int], returnType := some (.array .byte) }, accessFlags := 9, code := some k10c2 }
def k10c3 : Code := { maxStack := 3, maxLocals := 7, code := jdk_52_method_21_code, exceptionTable := #[], attributes := #[] }
def k10m3 : Method := { name := "compress", desc := "([CI[BII)I", sig := { parameters := [(.array .char), .int, (.array .byte), .int, .int], returnType := some .int }, accessFlags := 9, code := some k10c3 }
/-- java/lang/StringUTF16 -/
def k10 : Class := { plain "java/lang/StringUTF16" (some 0) with
  accessFlags := 48
  interfaces := #[]
  cf := some (fileOf pool10 12 #[.nestMembers #[627, 629, 369]] #[{ accessFlags := 0, nameIndex := 9, descriptorIndex := 10, attributes := #[] }, { accessFlags := 8, nameIndex := 261, descriptorIndex := 262, attributes := #[] }, { accessFlags := 9, nameIndex := 117, descriptorIndex := 122, attributes := #[] }, { accessFlags := 9, nameIndex := 117, descriptorIndex := 118, attributes := #[] }] 48 6 #[] #[{ accessFlags := 26, nameIndex := 61, descriptorIndex := 62, attributes := #[] }, { accessFlags := 26, nameIndex := 65, descriptorIndex := 62, attributes := #[] }, { accessFlags := 24, nameIndex := 430, descriptorIndex := 62, attributes := #[] }, { accessFlags := 4120, nameIndex := 46, descriptorIndex := 47, attributes := #[] }])
  fields := #[{ name := "HI_BYTE_SHIFT", type := .int, accessFlags := 26, slot := 0, constantValue := 0 }, { name := "LO_BYTE_SHIFT", type := .int, accessFlags := 26, slot := 1, constantValue := 0 }, { name := "MAX_LENGTH", type := .int, accessFlags := 24, slot := 2, constantValue := 0 }, { name := "$assertionsDisabled", type := .boolean, accessFlags := 4120, slot := 3, constantValue := 0 }]
  methods := #[k10m0, k10m1, k10m2, k10m3]
  instanceTypes := #[]
  staticTypes := #[.int, .int, .int, .boolean]
  resolved := Array.replicate 635 none
  statics := none }

def pool11 : Array CpInfo := pool [(2, .class_ 4), (1, u "java/lang/Enum"), (0, u "name"), (0, u "Ljava/lang/String;"), (2, u "ordinal"), (0, u "I"), (1, .class_ 14), (1, u "java/lang/Object"), (4, u "hash"), (86, .class_ 108), (1, u "java/lang/Enum$EnumDesc"), (2, .class_ 112), (0, u "java/lang/constant/Constable"), (0, .class_ 114), (0, u "java/lang/Comparable"), (0, .class_ 116), (0, u "java/io/Serializable")] 87

/-- java/lang/Enum -/
def k11 : Class := { plain "java/lang/Enum" (some 0) with
  accessFlags := 1057
  interfaces := #[5, 3, 2]
  cf := some (fileOf pool11 2 #[.nestMembers #[106]] #[] 1057 12 #[111, 113, 115] #[{ accessFlags := 18, nameIndex := 5, descriptorIndex := 6, attributes := #[] }, { accessFlags := 18, nameIndex := 9, descriptorIndex := 10, attributes := #[] }, { accessFlags := 2, nameIndex := 19, descriptorIndex := 10, attributes := #[] }])
  fields := #[{ name := "name", type := (.object "java/lang/String"), accessFlags := 18, slot := 0, constantValue := 0 }, { name := "ordinal", type := .int, accessFlags := 18, slot := 1, constantValue := 0 }, { name := "hash", type := .int, accessFlags := 2, slot := 2, constantValue := 0 }]
  methods := #[]
  instanceTypes := #[(.object "java/lang/String"), .int, .int]
  staticTypes := #[]
  resolved := Array.replicate 204 none
  statics := none }

def pool12 : Array CpInfo := pool [(1, .class_ 2), (0, u "interfold/model/LogicType"), (2, u "INT"), (0, u "Linterfold/model/LogicType;"), (2, u "LONG"), (2, u "DOUBLE"), (2, u "BOOLEAN"), (2, u "STRING"), (0, .fieldref 1 20), (0, .nameAndType 21 22), (0, u "$VALUES"), (0, u "[Linterfold/model/LogicType;"), (0, .methodref 24 25), (0, .class_ 22), (0, .nameAndType 26 27), (0, u "clone"), (0, u "()Ljava/lang/Object;"), (1, .class_ 31), (1, u "java/lang/Enum"), (6, .fieldref 1 39), (0, .nameAndType 40 41), (0, u "written"), (0, u "Ljava/lang/String;"), (2, u "javaType"), (0, u "Ljava/lang/Class;"), (0, .methodref 1 47), (0, .nameAndType 48 49), (0, u "values"), (0, u "()[Linterfold/model/LogicType;"), (0, .methodref 51 52), (0, .class_ 53), (0, .nameAndType 54 55), (0, u "java/lang/String"), (0, u "equals"), (0, u "(Ljava/lang/Object;)Z"), (39, u "(Ljava/lang/String;)Linterfold/model/LogicType;"), (2, u "named")] 10

def k12c0 : Code := { maxStack := 1, maxLocals := 0, code := prog_77_method_1_code, exceptionTable := #[], attributes := #[] }
def k12m0 : Method := { name := "values", desc := "()[Linterfold/model/LogicType;", sig := { parameters := [], returnType := some (.array (.object "interfold/model/LogicType")) }, accessFlags := 9, code := some k12c0 }
def k12c1 : Code := { maxStack := 2, maxLocals := 5, code := prog_77_method_4_code, exceptionTable := #[], attributes := #[] }
def k12m1 : Method := { name := "named", desc := "(Ljava/lang/String;)Linterfold/model/LogicType;", sig := { parameters := [(.object "java/lang/String")], returnType := some (.object "interfold/model/LogicType") }, accessFlags := 9, code := some k12c1 }
/-- interfold/model/LogicType -/
def k12 : Class := { plain "interfold/model/LogicType" (some 11) with
  accessFlags := 16433
  interfaces := #[]
  cf := some (fileOf pool12 1 #[] #[{ accessFlags := 9, nameIndex := 48, descriptorIndex := 49, attributes := #[] }, { accessFlags := 9, nameIndex := 98, descriptorIndex := 95, attributes := #[] }] 16433 29 #[] #[{ accessFlags := 16409, nameIndex := 5, descriptorIndex := 6, attributes := #[] }, { accessFlags := 16409, nameIndex := 9, descriptorIndex := 6, attributes := #[] }, { accessFlags := 16409, nameIndex := 12, descriptorIndex := 6, attributes := #[] }, { accessFlags := 16409, nameIndex := 15, descriptorIndex := 6, attributes := #[] }, { accessFlags := 16409, nameIndex := 18, descriptorIndex := 6, attributes := #[] }, { accessFlags := 18, nameIndex := 40, descriptorIndex := 41, attributes := #[] }, { accessFlags := 18, nameIndex := 44, descriptorIndex := 45, attributes := #[] }, { accessFlags := 4122, nameIndex := 21, descriptorIndex := 22, attributes := #[] }])
  fields := #[{ name := "INT", type := (.object "interfold/model/LogicType"), accessFlags := 16409, slot := 0, constantValue := 0 }, { name := "LONG", type := (.object "interfold/model/LogicType"), accessFlags := 16409, slot := 1, constantValue := 0 }, { name := "DOUBLE", type := (.object "interfold/model/LogicType"), accessFlags := 16409, slot := 2, constantValue := 0 }, { name := "BOOLEAN", type := (.object "interfold/model/LogicType"), accessFlags := 16409, slot := 3, constantValue := 0 }, { name := "STRING", type := (.object "interfold/model/LogicType"), accessFlags := 16409, slot := 4, constantValue := 0 }, { name := "written", type := (.object "java/lang/String"), accessFlags := 18, slot := 3, constantValue := 0 }, { name := "javaType", type := (.object "java/lang/Class"), accessFlags := 18, slot := 4, constantValue := 0 }, { name := "$VALUES", type := (.array (.object "interfold/model/LogicType")), accessFlags := 4122, slot := 5, constantValue := 0 }]
  methods := #[k12m0, k12m1]
  instanceTypes := #[(.object "java/lang/String"), .int, .int, (.object "java/lang/String"), (.object "java/lang/Class")]
  staticTypes := #[(.object "interfold/model/LogicType"), (.object "interfold/model/LogicType"), (.object "interfold/model/LogicType"), (.object "interfold/model/LogicType"), (.object "interfold/model/LogicType"), (.array (.object "interfold/model/LogicType"))]
  resolved := Array.replicate 109 none
  statics := some 2 }

def pool13 : Array CpInfo := pool [(1, .class_ 2), (0, u "java/lang/Cloneable"), (0, .class_ 4), (0, u "java/lang/Object")] 2

/-- java/lang/Cloneable -/
def k13 : Class := { plain "java/lang/Cloneable" (some 0) with
  accessFlags := 1537
  interfaces := #[]
  cf := some (fileOf pool13 1 #[] #[] 1537 3 #[] #[])
  fields := #[]
  methods := #[]
  instanceTypes := #[]
  staticTypes := #[]
  resolved := Array.replicate 7 none
  statics := none }

def pool14 : Array CpInfo := pool [(9, u "<init>"), (6, .class_ 18), (1, u "java/lang/Object"), (0, u "()V"), (1, .class_ 23), (1, u "jdk/internal/util/ArraysSupport"), (0, u "LOG2_ARRAY_LONG_INDEX_SCALE"), (0, u "I"), (2, u "U"), (0, u "Ljdk/internal/misc/Unsafe;"), (8, u "BIG_ENDIAN"), (0, u "Z"), (8, u "LOG2_BYTE_BIT_SIZE"), (4, u "LOG2_ARRAY_INT_INDEX_SCALE"), (54, u "JLA"), (0, u "Ljdk/internal/access/JavaLangAccess;"), (11, u "LOG2_ARRAY_BOOLEAN_INDEX_SCALE"), (9, u "LOG2_ARRAY_BYTE_INDEX_SCALE"), (5, u "LOG2_ARRAY_CHAR_INDEX_SCALE"), (5, u "LOG2_ARRAY_SHORT_INDEX_SCALE"), (18, u "LOG2_ARRAY_FLOAT_INDEX_SCALE"), (24, u "LOG2_ARRAY_DOUBLE_INDEX_SCALE"), (89, u "T_BOOLEAN"), (2, u "T_CHAR"), (1, u "T_FLOAT"), (1, u "T_DOUBLE"), (1, u "T_BYTE"), (1, u "T_SHORT"), (1, u "T_INT"), (1, u "T_LONG"), (1, u "SOFT_MAX_ARRAY_LENGTH")] 83

def k14m0 : Method := { name := "<init>", desc := "()V", sig := { parameters := [], returnType := none }, accessFlags := 2, code := none }
/-- jdk/internal/util/ArraysSupport -/
def k14 : Class := { plain "jdk/internal/util/ArraysSupport" (some 0) with
  accessFlags := 33
  interfaces := #[]
  cf := some (fileOf pool14 21 #[] #[{ accessFlags := 2, nameIndex := 9, descriptorIndex := 19, attributes := #[] }] 33 16 #[] #[{ accessFlags := 24, nameIndex := 28, descriptorIndex := 29, attributes := #[] }, { accessFlags := 26, nameIndex := 38, descriptorIndex := 39, attributes := #[] }, { accessFlags := 25, nameIndex := 121, descriptorIndex := 25, attributes := #[] }, { accessFlags := 25, nameIndex := 131, descriptorIndex := 25, attributes := #[] }, { accessFlags := 25, nameIndex := 137, descriptorIndex := 25, attributes := #[] }, { accessFlags := 25, nameIndex := 143, descriptorIndex := 25, attributes := #[] }, { accessFlags := 25, nameIndex := 53, descriptorIndex := 25, attributes := #[] }, { accessFlags := 25, nameIndex := 24, descriptorIndex := 25, attributes := #[] }, { accessFlags := 25, nameIndex := 162, descriptorIndex := 25, attributes := #[] }, { accessFlags := 25, nameIndex := 187, descriptorIndex := 25, attributes := #[] }, { accessFlags := 26, nameIndex := 48, descriptorIndex := 25, attributes := #[] }, { accessFlags := 25, nameIndex := 277, descriptorIndex := 25, attributes := #[] }, { accessFlags := 25, nameIndex := 280, descriptorIndex := 25, attributes := #[] }, { accessFlags := 25, nameIndex := 282, descriptorIndex := 25, attributes := #[] }, { accessFlags := 25, nameIndex := 284, descriptorIndex := 25, attributes := #[] }, { accessFlags := 25, nameIndex := 286, descriptorIndex := 25, attributes := #[] }, { accessFlags := 25, nameIndex := 288, descriptorIndex := 25, attributes := #[] }, { accessFlags := 25, nameIndex := 290, descriptorIndex := 25, attributes := #[] }, { accessFlags := 25, nameIndex := 292, descriptorIndex := 25, attributes := #[] }, { accessFlags := 26, nameIndex := 108, descriptorIndex := 109, attributes := #[] }, { accessFlags := 25, nameIndex := 294, descriptorIndex := 25, attributes := #[] }])
  fields := #[{ name := "U", type := (.object "jdk/internal/misc/Unsafe"), accessFlags := 24, slot := 0, constantValue := 0 }, { name := "BIG_ENDIAN", type := .boolean, accessFlags := 26, slot := 1, constantValue := 0 }, { name := "LOG2_ARRAY_BOOLEAN_INDEX_SCALE", type := .int, accessFlags := 25, slot := 2, constantValue := 0 }, { name := "LOG2_ARRAY_BYTE_INDEX_SCALE", type := .int, accessFlags := 25, slot := 3, constantValue := 0 }, { name := "LOG2_ARRAY_CHAR_INDEX_SCALE", type := .int, accessFlags := 25, slot := 4, constantValue := 0 }, { name := "LOG2_ARRAY_SHORT_INDEX_SCALE", type := .int, accessFlags := 25, slot := 5, constantValue := 0 }, { name := "LOG2_ARRAY_INT_INDEX_SCALE", type := .int, accessFlags := 25, slot := 6, constantValue := 0 }, { name := "LOG2_ARRAY_LONG_INDEX_SCALE", type := .int, accessFlags := 25, slot := 7, constantValue := 0 }, { name := "LOG2_ARRAY_FLOAT_INDEX_SCALE", type := .int, accessFlags := 25, slot := 8, constantValue := 0 }, { name := "LOG2_ARRAY_DOUBLE_INDEX_SCALE", type := .int, accessFlags := 25, slot := 9, constantValue := 0 }, { name := "LOG2_BYTE_BIT_SIZE", type := .int, accessFlags := 26, slot := 10, constantValue := 0 }, { name := "T_BOOLEAN", type := .int, accessFlags := 25, slot := 11, constantValue := 0 }, { name := "T_CHAR", type := .int, accessFlags := 25, slot := 12, constantValue := 0 }, { name := "T_FLOAT", type := .int, accessFlags := 25, slot := 13, constantValue := 0 }, { name := "T_DOUBLE", type := .int, accessFlags := 25, slot := 14, constantValue := 0 }, { name := "T_BYTE", type := .int, accessFlags := 25, slot := 15, constantValue := 0 }, { name := "T_SHORT", type := .int, accessFlags := 25, slot := 16, constantValue := 0 }, { name := "T_INT", type := .int, accessFlags := 25, slot := 17, constantValue := 0 }, { name := "T_LONG", type := .int, accessFlags := 25, slot := 18, constantValue := 0 }, { name := "JLA", type := (.object "jdk/internal/access/JavaLangAccess"), accessFlags := 26, slot := 19, constantValue := 0 }, { name := "SOFT_MAX_ARRAY_LENGTH", type := .int, accessFlags := 25, slot := 20, constantValue := 0 }]
  methods := #[k14m0]
  instanceTypes := #[]
  staticTypes := #[(.object "jdk/internal/misc/Unsafe"), .boolean, .int, .int, .int, .int, .int, .int, .int, .int, .int, .int, .int, .int, .int, .int, .int, .int, .int, (.object "jdk/internal/access/JavaLangAccess"), .int]
  resolved := Array.replicate 378 none
  statics := none }

/-- the primitive byte -/
def k15 : Class := { plain "byte" none with kind := .primitive 'B', accessFlags := 0x411 }
/-- [B -/
def k16 : Class := { plain "[B" (some 0) with kind := .array 15 .byte, interfaces := #[13, 2], accessFlags := 1041 }

/-- the primitive char -/
def k17 : Class := { plain "char" none with kind := .primitive 'C', accessFlags := 0x411 }
/-- [C -/
def k18 : Class := { plain "[C" (some 0) with kind := .array 17 .char, interfaces := #[13, 2], accessFlags := 1041 }

/-- the primitive int -/
def k19 : Class := { plain "int" none with kind := .primitive 'I', accessFlags := 0x411 }
/-- [I -/
def k20 : Class := { plain "[I" (some 0) with kind := .array 19 .int, interfaces := #[13, 2], accessFlags := 1041 }

/-- [Linterfold/model/LogicType; -/
def k21 : Class := { plain "[Linterfold/model/LogicType;" (some 0) with kind := .array 12 (.object "interfold/model/LogicType"), interfaces := #[13, 2], accessFlags := 1041 }

def heap : Heap := #[{ cls := 7, slots := #[.long 0, .int 1, .null, .int 0, .null, .int 0, .int 0], vm := .statics 7 },
  { cls := 9, slots := #[.null, .null, .null], vm := .statics 9 },
  { cls := 12, slots := #[.ref 4, .ref 5, .ref 6, .ref 7, .ref 8, .ref 3], vm := .statics 12 },
  { cls := 21, slots := #[.ref 4, .ref 5, .ref 6, .ref 7, .ref 8], vm := .none },
  { cls := 12, slots := #[.null, .int 0, .int 0, .ref 9, .null], vm := .none },
  { cls := 12, slots := #[.null, .int 1, .int 0, .ref 10, .null], vm := .none },
  { cls := 12, slots := #[.null, .int 2, .int 0, .ref 11, .null], vm := .none },
  { cls := 12, slots := #[.null, .int 3, .int 0, .ref 12, .null], vm := .none },
  { cls := 12, slots := #[.null, .int 4, .int 0, .ref 13, .null], vm := .none },
  { cls := 7, slots := #[.ref 14, .int 0, .int 0, .int 0], vm := .none },
  { cls := 7, slots := #[.ref 15, .int 0, .int 0, .int 0], vm := .none },
  { cls := 7, slots := #[.ref 16, .int 0, .int 0, .int 0], vm := .none },
  { cls := 7, slots := #[.ref 17, .int 0, .int 0, .int 0], vm := .none },
  { cls := 7, slots := #[.ref 18, .int 0, .int 0, .int 0], vm := .none },
  { cls := 16, slots := #[.int 105, .int 110, .int 116], vm := .none },
  { cls := 16, slots := #[.int 108, .int 111, .int 110, .int 103], vm := .none },
  { cls := 16, slots := #[.int 100, .int 111, .int 117, .int 98, .int 108, .int 101], vm := .none },
  { cls := 16, slots := #[.int 98, .int 111, .int 111, .int 108, .int 101, .int 97, .int 110], vm := .none },
  { cls := 16, slots := #[.int 83, .int 116, .int 114, .int 105, .int 110, .int 103], vm := .none }]
def classes : Array Class := #[k0, k1, k2, k3, k4, k5, k6, k7, k8, k9, k10, k11, k12, k13, k14, k15, k16, k17, k18, k19, k20, k21]
def interned : List (Array UInt16 × Addr) := []
def slotsUsed : Nat := 92
def theMethod : MethodId := ⟨1, 1⟩
def args0 : Array Value := #[.int 7, .long 1]
def aboutOver (below : List Frame) : State where
  vm := { classes := classes, interned := interned.toArray }
  heap := heap
  slotsUsed := slotsUsed
  threads := #[{ frames := .invoking theMethod args0 :: below }]
def below0 : List Frame := [.native { method := ⟨0, 0⟩, args := #[] }]
def about1 : State := aboutOver below0
def p0 : Program := .bare "" "" ""
def e0 : Env := launch0.env 0 0 0
theorem w_frames : about1.frames = Frame.invoking theMethod args0 :: below0 := rfl
set_option maxRecDepth 65536 in
theorem w_args : argsFit about1.vm theMethod args0 = true := by decide +kernel
set_option maxRecDepth 65536 in
theorem w_heap : heapFits about1 = true := by decide +kernel
set_option maxRecDepth 65536 in
theorem w_runnable : about1.curStatus? = some .runnable := by decide +kernel
set_option maxRecDepth 65536 in
theorem w_alone : about1.alone = true := by decide +kernel
set_option maxRecDepth 65536 in
theorem w_named : about1.methodNamed? x = some theMethod := by decide +kernel
set_option maxRecDepth 65536 in
theorem w_hears : about1.hears theMethod below0 = true := by decide +kernel
set_option maxRecDepth 65536 in
theorem w_ripe : about1.ripe theMethod args0 below0 = true := by decide +kernel
theorem w_running : about1.status = .running := rfl
set_option maxRecDepth 65536 in
theorem w_room : about1.hasRoom e0.platform room_1 = true :=
  launch0.hasRoom_least _ room_1 (by decide +kernel) (by decide +kernel) (by decide +kernel) (by decide +kernel) (by decide +kernel) (by decide +kernel)
theorem allAtoms_all (ts : List Jvm.Cond) (a : Array Jvm.Value) (st : Jvm.State) : (allAtoms ts).before a st = ts.all (fun c => c.before a st) := by
  induction ts with
  | nil => rfl
  | cons c t ih =>
    show (Jvm.Cond.and c (allAtoms t)).before a st = _
    rw [Jvm.Cond.before_and, ih, List.all_cons]
def words1 : List Jvm.Cond := Jvm.Cond.code x code maxLocals ret :: tables_1
/-- a 'code' word, met by the world's own term for the bytes: nothing is compared byte by byte -/
theorem code_word {y : MethodName} {bytes : ByteArray} {mx : Nat} {rt : Option FieldType} {a : Array Value} {s : State} {m : MethodId} {meth : Method} {c : Code} (h1 : s.methodNamed? y = some m) (h2 : s.vm.method? m = some meth) (h3 : meth.code = some c) (h4 : c.code = bytes)
    (h5 : (c.maxLocals == mx && c.exceptionTable.isEmpty && decide (c.maxStack ≤ mostOperands) && decide (meth.sig.returnType = rt) && !meth.locks && decide (parseMethodDescriptor y.desc = some meth.sig)) = true) : (Jvm.Cond.code y bytes mx rt).before a s = true := by
  simp only [Bool.and_eq_true, beq_iff_eq, Bool.not_eq_true', decide_eq_true_eq] at h5
  obtain ⟨⟨⟨⟨⟨g1, g2⟩, g3⟩, g4⟩, g5⟩, g6⟩ := h5
  simp [Cond.before, Cond.holds, Cond.value, h1, h2, h3, h4, g1, g2, g3, g4, g5, g6]
def isCode : Jvm.Cond → Bool
  | .code _ _ _ _ => true
  | _ => false
theorem all_split {L : List Jvm.Cond} {P : Jvm.Cond → Bool} (h1 : L.all (fun c => isCode c || P c) = true) (h2 : ∀ c ∈ L.filter isCode, P c = true) : L.all P = true := by
  refine List.all_eq_true.mpr fun c hc => ?_
  have h := List.all_eq_true.mp h1 c hc
  rcases Bool.eq_false_or_eq_true (isCode c) with hi | hi
  · exact h2 c (List.mem_filter.mpr ⟨hc, hi⟩)
  · simpa [hi] using h
set_option maxRecDepth 65536 in
theorem w_c0 : (Jvm.Cond.code x code maxLocals ret).before args0 about1 = true := code_word (m := ⟨1, 1⟩) (meth := k1m1) (c := k1c1) (by decide +kernel) rfl rfl rfl (by decide +kernel)
set_option maxRecDepth 65536 in
theorem w_c1 : (Jvm.Cond.code ({ cls := "interfold/model/LogicTypeNamedPinLaw", name := "name", desc := "(I)Ljava/lang/String;" } : Jvm.MethodName) method_3_code (1 : Nat) (Option.some (Jvm.ClassFile.FieldType.object "java/lang/String"))).before args0 about1 = true := code_word (m := ⟨1, 2⟩) (meth := k1m2) (c := k1c2) (by decide +kernel) rfl rfl rfl (by decide +kernel)
set_option maxRecDepth 65536 in
theorem w_c2 : (Jvm.Cond.code ({ cls := "java/lang/String", name := "length", desc := "()I" } : Jvm.MethodName) jdk_42_method_54_code (1 : Nat) (Option.some Jvm.ClassFile.FieldType.int)).before args0 about1 = true := code_word (m := ⟨7, 2⟩) (meth := k7m2) (c := k7c2) (by decide +kernel) rfl rfl rfl (by decide +kernel)
set_option maxRecDepth 65536 in
theorem w_c3 : (Jvm.Cond.code ({ cls := "java/lang/String", name := "coder", desc := "()B" } : Jvm.MethodName) jdk_42_method_152_code (1 : Nat) (Option.some Jvm.ClassFile.FieldType.byte)).before args0 about1 = true := code_word (m := ⟨7, 6⟩) (meth := k7m6) (c := k7c6) (by decide +kernel) rfl rfl rfl (by decide +kernel)
set_option maxRecDepth 65536 in
theorem w_c4 : (Jvm.Cond.code ({ cls := "interfold/model/LogicTypeNamedPinLaw", name := "ch", desc := "(IIJZ)C" } : Jvm.MethodName) method_4_code (8 : Nat) (Option.some Jvm.ClassFile.FieldType.char)).before args0 about1 = true := code_word (m := ⟨1, 3⟩) (meth := k1m3) (c := k1c3) (by decide +kernel) rfl rfl rfl (by decide +kernel)
set_option maxRecDepth 65536 in
theorem w_c5 : (Jvm.Cond.code ({ cls := "java/lang/String", name := "charAt", desc := "(I)C" } : Jvm.MethodName) jdk_42_method_56_code (2 : Nat) (Option.some Jvm.ClassFile.FieldType.char)).before args0 about1 = true := code_word (m := ⟨7, 3⟩) (meth := k7m3) (c := k7c3) (by decide +kernel) rfl rfl rfl (by decide +kernel)
set_option maxRecDepth 65536 in
theorem w_c6 : (Jvm.Cond.code ({ cls := "java/lang/String", name := "isLatin1", desc := "()Z" } : Jvm.MethodName) jdk_42_method_154_code (1 : Nat) (Option.some Jvm.ClassFile.FieldType.boolean)).before args0 about1 = true := code_word (m := ⟨7, 7⟩) (meth := k7m7) (c := k7c7) (by decide +kernel) rfl rfl rfl (by decide +kernel)
set_option maxRecDepth 65536 in
theorem w_c7 : (Jvm.Cond.code ({ cls := "java/lang/StringLatin1", name := "charAt", desc := "([BI)C" } : Jvm.MethodName) jdk_43_method_2_code (2 : Nat) (Option.some Jvm.ClassFile.FieldType.char)).before args0 about1 = true := code_word (m := ⟨8, 1⟩) (meth := k8m1) (c := k8c1) (by decide +kernel) rfl rfl rfl (by decide +kernel)
set_option maxRecDepth 65536 in
theorem w_c8 : (Jvm.Cond.code ({ cls := "java/lang/String", name := "checkIndex", desc := "(II)V" } : Jvm.MethodName) jdk_42_method_155_code (2 : Nat) (Option.none : Option Jvm.ClassFile.FieldType)).before args0 about1 = true := code_word (m := ⟨7, 8⟩) (meth := k7m8) (c := k7c8) (by decide +kernel) rfl rfl rfl (by decide +kernel)
set_option maxRecDepth 65536 in
theorem w_c9 : (Jvm.Cond.code ({ cls := "jdk/internal/util/Preconditions", name := "checkIndex", desc := "(IILjava/util/function/BiFunction;)I" } : Jvm.MethodName) jdk_41_method_11_code (3 : Nat) (Option.some Jvm.ClassFile.FieldType.int)).before args0 about1 = true := code_word (m := ⟨9, 1⟩) (meth := k9m1) (c := k9c1) (by decide +kernel) rfl rfl rfl (by decide +kernel)
set_option maxRecDepth 65536 in
theorem w_c10 : (Jvm.Cond.code ({ cls := "interfold/model/LogicTypeNamedPinLaw", name := "make", desc := "(ICCCCCCC)Ljava/lang/String;" } : Jvm.MethodName) method_5_code (8 : Nat) (Option.some (Jvm.ClassFile.FieldType.object "java/lang/String"))).before args0 about1 = true := code_word (m := ⟨1, 4⟩) (meth := k1m4) (c := k1c4) (by decide +kernel) rfl rfl rfl (by decide +kernel)
set_option maxRecDepth 65536 in
theorem w_c11 : (Jvm.Cond.code ({ cls := "java/lang/String", name := "<init>", desc := "([C)V" } : Jvm.MethodName) jdk_42_method_3_code (2 : Nat) (Option.none : Option Jvm.ClassFile.FieldType)).before args0 about1 = true := code_word (m := ⟨7, 1⟩) (meth := k7m1) (c := k7c1) (by decide +kernel) rfl rfl rfl (by decide +kernel)
set_option maxRecDepth 65536 in
theorem w_c12 : (Jvm.Cond.code ({ cls := "java/lang/String", name := "<init>", desc := "([CIILjava/lang/Void;)V" } : Jvm.MethodName) jdk_42_method_149_code (6 : Nat) (Option.none : Option Jvm.ClassFile.FieldType)).before args0 about1 = true := code_word (m := ⟨7, 5⟩) (meth := k7m5) (c := k7c5) (by decide +kernel) rfl rfl rfl (by decide +kernel)
set_option maxRecDepth 65536 in
theorem w_c13 : (Jvm.Cond.code ({ cls := "java/lang/Object", name := "<init>", desc := "()V" } : Jvm.MethodName) object_method_1_code (1 : Nat) (Option.none : Option Jvm.ClassFile.FieldType)).before args0 about1 = true := code_word (m := ⟨0, 0⟩) (meth := k0m0) (c := k0c0) (by decide +kernel) rfl rfl rfl (by decide +kernel)
set_option maxRecDepth 65536 in
theorem w_c14 : (Jvm.Cond.code ({ cls := "java/lang/StringUTF16", name := "compress", desc := "([CII)[B" } : Jvm.MethodName) jdk_52_method_16_code (6 : Nat) (Option.some (Jvm.ClassFile.FieldType.array Jvm.ClassFile.FieldType.byte))).before args0 about1 = true := code_word (m := ⟨10, 2⟩) (meth := k10m2) (c := k10c2) (by decide +kernel) rfl rfl rfl (by decide +kernel)
set_option maxRecDepth 65536 in
theorem w_c15 : (Jvm.Cond.code ({ cls := "java/lang/StringUTF16", name := "compress", desc := "([CI[BII)I" } : Jvm.MethodName) jdk_52_method_21_code (7 : Nat) (Option.some Jvm.ClassFile.FieldType.int)).before args0 about1 = true := code_word (m := ⟨10, 3⟩) (meth := k10m3) (c := k10c3) (by decide +kernel) rfl rfl rfl (by decide +kernel)
set_option maxRecDepth 65536 in
theorem w_c16 : (Jvm.Cond.code ({ cls := "java/lang/StringUTF16", name := "coderFromArrayLen", desc := "([BI)B" } : Jvm.MethodName) jdk_52_method_15_code (2 : Nat) (Option.some Jvm.ClassFile.FieldType.byte)).before args0 about1 = true := code_word (m := ⟨10, 1⟩) (meth := k10m1) (c := k10c1) (by decide +kernel) rfl rfl rfl (by decide +kernel)
set_option maxRecDepth 65536 in
theorem w_c17 : (Jvm.Cond.code ({ cls := "interfold/model/LogicTypeNamedPinLaw", name := "ref", desc := "(Ljava/lang/String;)Linterfold/model/LogicType;" } : Jvm.MethodName) method_6_code (1 : Nat) (Option.some (Jvm.ClassFile.FieldType.object "interfold/model/LogicType"))).before args0 about1 = true := code_word (m := ⟨1, 5⟩) (meth := k1m5) (c := k1c5) (by decide +kernel) rfl rfl rfl (by decide +kernel)
set_option maxRecDepth 65536 in
theorem w_c18 : (Jvm.Cond.code ({ cls := "java/lang/String", name := "equals", desc := "(Ljava/lang/Object;)Z" } : Jvm.MethodName) jdk_42_method_66_code (3 : Nat) (Option.some Jvm.ClassFile.FieldType.boolean)).before args0 about1 = true := code_word (m := ⟨7, 4⟩) (meth := k7m4) (c := k7c4) (by decide +kernel) rfl rfl rfl (by decide +kernel)
set_option maxRecDepth 65536 in
theorem w_c19 : (Jvm.Cond.code ({ cls := "java/lang/StringLatin1", name := "equals", desc := "([B[B)Z" } : Jvm.MethodName) jdk_43_method_13_code (3 : Nat) (Option.some Jvm.ClassFile.FieldType.boolean)).before args0 about1 = true := code_word (m := ⟨8, 2⟩) (meth := k8m2) (c := k8c2) (by decide +kernel) rfl rfl rfl (by decide +kernel)
set_option maxRecDepth 65536 in
theorem w_c20 : (Jvm.Cond.code ({ cls := "interfold/model/LogicType", name := "named", desc := "(Ljava/lang/String;)Linterfold/model/LogicType;" } : Jvm.MethodName) prog_77_method_4_code (5 : Nat) (Option.some (Jvm.ClassFile.FieldType.object "interfold/model/LogicType"))).before args0 about1 = true := code_word (m := ⟨12, 1⟩) (meth := k12m1) (c := k12c1) (by decide +kernel) rfl rfl rfl (by decide +kernel)
set_option maxRecDepth 65536 in
theorem w_c21 : (Jvm.Cond.code ({ cls := "interfold/model/LogicType", name := "values", desc := "()[Linterfold/model/LogicType;" } : Jvm.MethodName) prog_77_method_1_code (0 : Nat) (Option.some (Jvm.ClassFile.FieldType.array (Jvm.ClassFile.FieldType.object "interfold/model/LogicType")))).before args0 about1 = true := code_word (m := ⟨12, 0⟩) (meth := k12m0) (c := k12c0) (by decide +kernel) rfl rfl rfl (by decide +kernel)
def codes1 : List Jvm.Cond := [Jvm.Cond.code x code maxLocals ret, Jvm.Cond.code ({ cls := "interfold/model/LogicTypeNamedPinLaw", name := "name", desc := "(I)Ljava/lang/String;" } : Jvm.MethodName) method_3_code (1 : Nat) (Option.some (Jvm.ClassFile.FieldType.object "java/lang/String")), Jvm.Cond.code ({ cls := "java/lang/String", name := "length", desc := "()I" } : Jvm.MethodName) jdk_42_method_54_code (1 : Nat) (Option.some Jvm.ClassFile.FieldType.int), Jvm.Cond.code ({ cls := "java/lang/String", name := "coder", desc := "()B" } : Jvm.MethodName) jdk_42_method_152_code (1 : Nat) (Option.some Jvm.ClassFile.FieldType.byte), Jvm.Cond.code ({ cls := "interfold/model/LogicTypeNamedPinLaw", name := "ch", desc := "(IIJZ)C" } : Jvm.MethodName) method_4_code (8 : Nat) (Option.some Jvm.ClassFile.FieldType.char), Jvm.Cond.code ({ cls := "java/lang/String", name := "charAt", desc := "(I)C" } : Jvm.MethodName) jdk_42_method_56_code (2 : Nat) (Option.some Jvm.ClassFile.FieldType.char), Jvm.Cond.code ({ cls := "java/lang/String", name := "isLatin1", desc := "()Z" } : Jvm.MethodName) jdk_42_method_154_code (1 : Nat) (Option.some Jvm.ClassFile.FieldType.boolean), Jvm.Cond.code ({ cls := "java/lang/StringLatin1", name := "charAt", desc := "([BI)C" } : Jvm.MethodName) jdk_43_method_2_code (2 : Nat) (Option.some Jvm.ClassFile.FieldType.char), Jvm.Cond.code ({ cls := "java/lang/String", name := "checkIndex", desc := "(II)V" } : Jvm.MethodName) jdk_42_method_155_code (2 : Nat) (Option.none : Option Jvm.ClassFile.FieldType), Jvm.Cond.code ({ cls := "jdk/internal/util/Preconditions", name := "checkIndex", desc := "(IILjava/util/function/BiFunction;)I" } : Jvm.MethodName) jdk_41_method_11_code (3 : Nat) (Option.some Jvm.ClassFile.FieldType.int), Jvm.Cond.code ({ cls := "interfold/model/LogicTypeNamedPinLaw", name := "make", desc := "(ICCCCCCC)Ljava/lang/String;" } : Jvm.MethodName) method_5_code (8 : Nat) (Option.some (Jvm.ClassFile.FieldType.object "java/lang/String")), Jvm.Cond.code ({ cls := "java/lang/String", name := "<init>", desc := "([C)V" } : Jvm.MethodName) jdk_42_method_3_code (2 : Nat) (Option.none : Option Jvm.ClassFile.FieldType), Jvm.Cond.code ({ cls := "java/lang/String", name := "<init>", desc := "([CIILjava/lang/Void;)V" } : Jvm.MethodName) jdk_42_method_149_code (6 : Nat) (Option.none : Option Jvm.ClassFile.FieldType), Jvm.Cond.code ({ cls := "java/lang/Object", name := "<init>", desc := "()V" } : Jvm.MethodName) object_method_1_code (1 : Nat) (Option.none : Option Jvm.ClassFile.FieldType), Jvm.Cond.code ({ cls := "java/lang/StringUTF16", name := "compress", desc := "([CII)[B" } : Jvm.MethodName) jdk_52_method_16_code (6 : Nat) (Option.some (Jvm.ClassFile.FieldType.array Jvm.ClassFile.FieldType.byte)), Jvm.Cond.code ({ cls := "java/lang/StringUTF16", name := "compress", desc := "([CI[BII)I" } : Jvm.MethodName) jdk_52_method_21_code (7 : Nat) (Option.some Jvm.ClassFile.FieldType.int), Jvm.Cond.code ({ cls := "java/lang/StringUTF16", name := "coderFromArrayLen", desc := "([BI)B" } : Jvm.MethodName) jdk_52_method_15_code (2 : Nat) (Option.some Jvm.ClassFile.FieldType.byte), Jvm.Cond.code ({ cls := "interfold/model/LogicTypeNamedPinLaw", name := "ref", desc := "(Ljava/lang/String;)Linterfold/model/LogicType;" } : Jvm.MethodName) method_6_code (1 : Nat) (Option.some (Jvm.ClassFile.FieldType.object "interfold/model/LogicType")), Jvm.Cond.code ({ cls := "java/lang/String", name := "equals", desc := "(Ljava/lang/Object;)Z" } : Jvm.MethodName) jdk_42_method_66_code (3 : Nat) (Option.some Jvm.ClassFile.FieldType.boolean), Jvm.Cond.code ({ cls := "java/lang/StringLatin1", name := "equals", desc := "([B[B)Z" } : Jvm.MethodName) jdk_43_method_13_code (3 : Nat) (Option.some Jvm.ClassFile.FieldType.boolean), Jvm.Cond.code ({ cls := "interfold/model/LogicType", name := "named", desc := "(Ljava/lang/String;)Linterfold/model/LogicType;" } : Jvm.MethodName) prog_77_method_4_code (5 : Nat) (Option.some (Jvm.ClassFile.FieldType.object "interfold/model/LogicType")), Jvm.Cond.code ({ cls := "interfold/model/LogicType", name := "values", desc := "()[Linterfold/model/LogicType;" } : Jvm.MethodName) prog_77_method_1_code (0 : Nat) (Option.some (Jvm.ClassFile.FieldType.array (Jvm.ClassFile.FieldType.object "interfold/model/LogicType")))]
set_option maxRecDepth 65536 in
theorem codes_eq : words1.filter isCode = codes1 := rfl
theorem w_codes : ∀ c ∈ words1.filter isCode, c.before args0 about1 = true := by
  rw [codes_eq]
  intro c hc
  simp only [codes1, List.mem_cons, List.not_mem_nil, or_false] at hc
  rcases hc with rfl | rfl | rfl | rfl | rfl | rfl | rfl | rfl | rfl | rfl | rfl | rfl | rfl | rfl | rfl | rfl | rfl | rfl | rfl | rfl | rfl | rfl
  · exact w_c0
  · exact w_c1
  · exact w_c2
  · exact w_c3
  · exact w_c4
  · exact w_c5
  · exact w_c6
  · exact w_c7
  · exact w_c8
  · exact w_c9
  · exact w_c10
  · exact w_c11
  · exact w_c12
  · exact w_c13
  · exact w_c14
  · exact w_c15
  · exact w_c16
  · exact w_c17
  · exact w_c18
  · exact w_c19
  · exact w_c20
  · exact w_c21
set_option maxRecDepth 65536 in
theorem w_t1 : (words1.take 24).all (fun c => isCode c || c.before args0 about1) = true := by decide +kernel
set_option maxRecDepth 65536 in
theorem w_t2 : ((words1.drop 24).take 24).all (fun c => isCode c || c.before args0 about1) = true := by decide +kernel
set_option maxRecDepth 65536 in
theorem w_t3 : (((words1.drop 24).drop 24).take 24).all (fun c => isCode c || c.before args0 about1) = true := by decide +kernel
set_option maxRecDepth 65536 in
theorem w_t4 : ((((words1.drop 24).drop 24).drop 24).take 24).all (fun c => isCode c || c.before args0 about1) = true := by decide +kernel
set_option maxRecDepth 65536 in
theorem w_t5 : (((((words1.drop 24).drop 24).drop 24).drop 24).take 24).all (fun c => isCode c || c.before args0 about1) = true := by decide +kernel
set_option maxRecDepth 65536 in
theorem w_t6 : (((((words1.drop 24).drop 24).drop 24).drop 24).drop 24).all (fun c => isCode c || c.before args0 about1) = true := by decide +kernel
theorem w_tables : (allAtoms (Jvm.Cond.code x code maxLocals ret :: tables_1)).before args0 about1 = true := by
  rw [allAtoms_all]
  show words1.all (fun c => c.before args0 about1) = true
  refine all_split ?_ w_codes
  rw [← List.take_append_drop 24 words1, List.all_append, w_t1, ← List.take_append_drop 24 (words1.drop 24), List.all_append, w_t2, ← List.take_append_drop 24 ((words1.drop 24).drop 24), List.all_append, w_t3, ← List.take_append_drop 24 (((words1.drop 24).drop 24).drop 24), List.all_append, w_t4, ← List.take_append_drop 24 ((((words1.drop 24).drop 24).drop 24).drop 24), List.all_append, w_t5, w_t6]
  rfl
set_option maxRecDepth 65536 in
theorem w_rest : rest_1_c.before args0 about1 = true := by decide +kernel
set_option maxRecDepth 65536 in
theorem w_case : (Jvm.Cond.and given_1 narrow_1).before args0 about1 = true := by decide +kernel
set_option maxRecDepth 65536 in
theorem w_consts : constsHeld consts_1 about1 := Jvm.Lit.constsHeldB_iff.mp (by decide +kernel)
theorem w_applies : (headSpec (Jvm.Cond.code x code maxLocals ret :: tables_1) room_1).applies x e0.platform about1 = true :=
  (Spec.applies_iff w_frames).mpr ⟨w_running, w_runnable, w_alone, w_named, w_hears, w_ripe, w_room, w_tables⟩
theorem atStart : AtStart classFile x code maxLocals ret World_1 tables_1 room_1 Calls_1 rest_1 Pre_1 launch0 p0 e0 about1 theMethod args0 below0 :=
  ⟨lists_1, trivial, launch0.admits_env _ _ _, launch0.least_env, fairChoices_fair.cas, fairChoices_fair.clock, w_frames, w_args, w_heap, w_applies, ⟨w_consts, trivial⟩, w_rest, w_case⟩
end start1
theorem witness_1 : WitnessClaimed_1 := ⟨start1.p0, start1.e0, start1.about1, start1.theMethod, start1.args0, start1.below0, start1.atStart⟩
end Jvm.Pilot.@@N@@
