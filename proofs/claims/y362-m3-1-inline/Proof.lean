import JvmDerived
import JvmDerived.Pilot.@@N@@Statement
import JvmDerived.Pilot.@@N@@Code
set_option linter.unusedVariables false
set_option linter.unusedSimpArgs false
/- laws to paste: Road.backV (cut by pick.py; bodies as the Statement names them) -/
namespace Jvm.Pilot.@@N@@
namespace StrChars
open Jvm Sem ClassFile Op Lib Jvm.Stand Jvm.Free.XT Jvm.Free.ALB Jvm.Free.JM Jvm.Free
open Jvm.Lib.Cold (StaticIs)
/-- a char array whose places are chars -/
def Ch (a : Addr) (A : Cell) (U : State) : Prop := Arr .char a A U ∧ Typed .char A
theorem Ch.mv {a : Addr} {A : Cell} {U U' : State} (h : Ch a A U) (hal : U.vm.Alike U'.vm) (hh : U'.heap = U.heap) : Ch a A U' := ⟨h.1.mv hal hh, h.2⟩
theorem Ch.keep {a : Addr} {A : Cell} {U U' : State} (h : Ch a A U) (hal : U.vm.Alike U'.vm) (hk : U'.heap[a]? = some A) : Ch a A U' := ⟨h.1.keep hal hk, h.2⟩
/-- what place i of a char[]'s cell holds -/
def cv (A : Cell) (i : Nat) : Int32 := match A.slots[i]? with | some (.int x) => x | _ => 0
theorem Ch.get {a : Addr} {A : Cell} {U : State} (h : Ch a A U) {i : Nat} (hi : i < A.slots.size) : A.slots[i]? = some (.int (cv A i)) := by
  have e := Array.getElem?_eq_getElem hi
  have f := h.2 i _ e
  unfold cv; rw [e]
  generalize A.slots[i] = v at f
  cases v <;> simp [fits] at f ⊢
/-- the byte that i2b leaves of a char -/
def lo8 (x : Int32) : Int32 := x.toInt8.toInt32
theorem fits_lo8 (y : Int32) : fits .byte (.int (lo8 y)) = true := by
  have h1 := y.toInt8.le_toInt
  have h2 := y.toInt8.toInt_lt
  simp only [lo8, fits, Bool.and_eq_true, decide_eq_true_eq, Int32.le_iff_toInt_le, Int8.toInt_toInt32, show (-128 : Int32).toInt = -128 from by decide, show (127 : Int32).toInt = 127 from by decide]
  omega
/-- A' is A but that each place j of lo .. hi - 1 holds f j -/
def Laid (A A' : Cell) (lo hi : Nat) (f : Nat → Value) : Prop := A'.cls = A.cls ∧ A'.vm = A.vm ∧ A'.slots.size = A.slots.size ∧ ∀ i, A'.slots[i]? = if lo ≤ i ∧ i < hi then some (f i) else A.slots[i]?
theorem Laid.zero (A : Cell) (lo : Nat) (f : Nat → Value) : Laid A A lo (lo + 0) f := ⟨rfl, rfl, rfl, fun i => by rw [if_neg (by omega)]⟩
theorem Laid.step {A Ak : Cell} {lo k : Nat} {f : Nat → Value} {v : Value} (h : Laid A Ak lo k f) (hlo : lo ≤ k) (hk : k < Ak.slots.size) (hv : v = f k) : Laid A (Ak.setSlot k v) lo (k + 1) f := by
  refine ⟨h.1, h.2.1, by simpa [Cell.setSlot] using h.2.2.1, fun i => ?_⟩
  by_cases e : k = i
  · subst e; rw [Cell.slots_setSlot_self v hk, if_pos (by omega), hv]
  · rw [Cell.slots_setSlot_ne v e, h.2.2.2 i]
    by_cases q : lo ≤ i ∧ i < k
    · rw [if_pos q, if_pos (by omega)]
    · rw [if_neg q, if_neg (by omega)]
def U16 : String := "java/lang/StringUTF16"
namespace Cmp5
def yN : MethodName := ⟨"java/lang/StringUTF16", "compress", "([CI[BII)I"⟩
abbrev yB : ByteArray := jdk_52_method_21_code
theorem d0 : decode yB 0 = .ok (.iconst 0, 1) := by decide +kernel
theorem d1 : decode yB 1 = .ok (.istore 5, 2) := by decide +kernel
theorem d3 : decode yB 3 = .ok (.iload 5, 2) := by decide +kernel
theorem d5 : decode yB 5 = .ok (.iload 4, 2) := by decide +kernel
theorem d7 : decode yB 7 = .ok (.if_icmp (.ge) 37, 3) := by decide +kernel
theorem d10 : decode yB 10 = .ok (.aload_n 0, 1) := by decide +kernel
theorem d11 : decode yB 11 = .ok (.iload_n 1, 1) := by decide +kernel
theorem d12 : decode yB 12 = .ok (.caload, 1) := by decide +kernel
theorem d13 : decode yB 13 = .ok (.istore 6, 2) := by decide +kernel
theorem d15 : decode yB 15 = .ok (.iload 6, 2) := by decide +kernel
theorem d17 : decode yB 17 = .ok (.sipush 255, 3) := by decide +kernel
theorem d20 : decode yB 20 = .ok (.if_icmp (.le) 6, 3) := by decide +kernel
theorem d26 : decode yB 26 = .ok (.aload_n 2, 1) := by decide +kernel
theorem d27 : decode yB 27 = .ok (.iload_n 3, 1) := by decide +kernel
theorem d28 : decode yB 28 = .ok (.iload 6, 2) := by decide +kernel
theorem d30 : decode yB 30 = .ok (.i2b, 1) := by decide +kernel
theorem d31 : decode yB 31 = .ok (.bastore, 1) := by decide +kernel
theorem d32 : decode yB 32 = .ok (.iinc 1 1, 3) := by decide +kernel
theorem d35 : decode yB 35 = .ok (.iinc 3 1, 3) := by decide +kernel
theorem d38 : decode yB 38 = .ok (.iinc 5 1, 3) := by decide +kernel
theorem d41 : decode yB 41 = .ok (.goto (-38), 3) := by decide +kernel
theorem d44 : decode yB 44 = .ok (.iload 4, 2) := by decide +kernel
theorem d46 : decode yB 46 = .ok (.ireturn, 1) := by decide +kernel
def site : List Cond := []
def tab : Cond := tabOf yN yB 7 (some .int) site
def P (b : Addr) (A : Cell) (d : Addr) (B : Cell) (o q len : Nat) (args : Array Value) (s : State) : Prop := args = #[.ref b, .int (Int32.ofNat o), .ref d, .int (Int32.ofNat q), .int (Int32.ofNat len)] ∧ Ch b A s ∧ Arr .byte d B s ∧ b ≠ d ∧ o + len ≤ A.slots.size ∧ q + len ≤ B.slots.size ∧ ∀ i, i < len → ¬ 255 < cv A (o + i)
def E (b : Addr) (A : Cell) (d : Addr) (B : Cell) (o q len : Nat) (r : Option Value) (s u : State) : Prop := r = some (.int (Int32.ofNat len)) ∧ ∃ B', Put d B' s u ∧ Laid B B' q (q + len) (fun j => Value.int (lo8 (cv A (o + (j - q)))))
/-- no char of the range above 255: len; the places written hold each char's low byte -/
theorem law (l : Launch) (b : Addr) (A : Cell) (d : Addr) (B : Cell) (o q len : Nat) : Law l yN 5 5 0 0 yB 7 (some .int) site (P b A d B o q len) (E b A d B o q len) (copyLocs d q len) 0 0 := by
  refine Law.of_walk (plainFor_of_name (by decide +kernel)) (by decide +kernel) (by decide +kernel) (by decide) (fun _ _ h => by rw [h.1]; rfl) (fun _ U U' hal hh h => ⟨h.1, h.2.1.mv hal hh, h.2.2.1.mv hal hh, h.2.2.2⟩) (fun r U U' V V' h1 hal h2 h => ⟨h.1, h.2.elim fun B' q => ⟨B', q.1.mv h1 h2, q.2⟩⟩) ?_
  intro p e s m args below meth c s₁ X0 hexec hbytes hml hret hlk hnm hown hh0 W hP
  obtain ⟨rfl, hA, hB, hne, l1, l2, hp⟩ := hP
  have c1 : Steps p.tables e below (s₁.setTop (entryFrame m #[.ref b, .int (Int32.ofNat o), .ref d, .int (Int32.ofNat q), .int (Int32.ofNat len)] 7)) (s₁.setTop (mkF m 0 #[.val (.ref b), .val (.int (Int32.ofNat o)), .val (.ref d), .val (.int (Int32.ofNat q)), .val (.int (Int32.ofNat len)), .unset, .unset] [])) := entry rfl
  have hA0 := hA.1.mv X0.warmed.alike hh0
  have hB0 := hB.mv X0.warmed.alike hh0
  have a31 := hA.1.2.2.2
  have c2 : Steps p.tables e below (s₁.setTop (entryFrame m #[.ref b, .int (Int32.ofNat o), .ref d, .int (Int32.ofNat q), .int (Int32.ofNat len)] 7)) (s₁.setTop (mkF m 3 #[.val (.ref b), .val (.int (Int32.ofNat o)), .val (.ref d), .val (.int (Int32.ofNat q)), .val (.int (Int32.ofNat len)), .val (.int 0), .unset] [])) := c1.trans (by
    refine iconstV X0.here hexec rfl 0 (hb hbytes d0) (by decide) ?_
    refine XS.istore X0.here hexec rfl (hb hbytes d1) rfl rfl ?_
    exact Steps.refl _)
  have loop : ∀ (r i : Nat), i + r = len → ∀ (z : Slot), (z = .unset ∨ ∃ w, z = .val w ∧ w.category = 1) → ∀ (Tl : State) (Bk : Cell), Stand p l e { frames := 0, locals := 0, cells := 0, slots := 0 } s m #[.ref b, .int (Int32.ofNat o), .ref d, .int (Int32.ofNat q), .int (Int32.ofNat len)] below meth c Tl ([] ++ copyLocs d q i) 0 0 → Put d Bk s₁ Tl → Laid B Bk q (q + i) (fun j => Value.int (lo8 (cv A (o + (j - q))))) →
      Steps p.tables e below (s₁.setTop (entryFrame m #[.ref b, .int (Int32.ofNat o), .ref d, .int (Int32.ofNat q), .int (Int32.ofNat len)] 7)) (Tl.setTop (mkF m 3 #[.val (.ref b), .val (.int (Int32.ofNat (o + i))), .val (.ref d), .val (.int (Int32.ofNat (q + i))), .val (.int (Int32.ofNat len)), .val (.int (Int32.ofNat i)), z] [])) → ∃ (T' : State) (B' : Cell) (z' : Slot), Stand p l e { frames := 0, locals := 0, cells := 0, slots := 0 } s m #[.ref b, .int (Int32.ofNat o), .ref d, .int (Int32.ofNat q), .int (Int32.ofNat len)] below meth c T' ([] ++ copyLocs d q len) 0 0 ∧ Put d B' s₁ T' ∧ Laid B B' q (q + len) (fun j => Value.int (lo8 (cv A (o + (j - q))))) ∧
      Steps p.tables e below (s₁.setTop (entryFrame m #[.ref b, .int (Int32.ofNat o), .ref d, .int (Int32.ofNat q), .int (Int32.ofNat len)] 7)) (T'.setTop (mkF m 3 #[.val (.ref b), .val (.int (Int32.ofNat (o + len))), .val (.ref d), .val (.int (Int32.ofNat (q + len))), .val (.int (Int32.ofNat len)), .val (.int (Int32.ofNat len)), z'] [])) := by
    intro r
    induction r with
    | zero =>
      intro i hi z hz Tl Bk Xl pl fl cl
      have hil : i = len := by omega
      rw [hil] at Xl fl cl
      exact ⟨Tl, Bk, z, Xl, pl, fl, cl⟩
    | succ r ih =>
      intro i hi z hz Tl Bk Xl pl fl cl
      have all := X0.warmed.alike.symm.trans Xl.warmed.alike
      have hAl := hA0.keep all (pl.other hne hA0.1)
      have hBk := hB0.like all pl.1 fl.1 fl.2.1 fl.2.2.1
      have hlt : q + i < Bk.slots.size := by rw [fl.2.2.1]; omega
      have c3 : Steps p.tables e below (s₁.setTop (entryFrame m #[.ref b, .int (Int32.ofNat o), .ref d, .int (Int32.ofNat q), .int (Int32.ofNat len)] 7)) (Tl.setTop (mkF m 12 #[.val (.ref b), .val (.int (Int32.ofNat (o + i))), .val (.ref d), .val (.int (Int32.ofNat (q + i))), .val (.int (Int32.ofNat len)), .val (.int (Int32.ofNat i)), z] [.int (Int32.ofNat (o + i)), .ref b])) := cl.trans (by
        refine XS.iload Xl.here hexec rfl (hb hbytes d3) rfl ?_
        refine XS.iload Xl.here hexec rfl (hb hbytes d5) rfl ?_
        refine XS.icmpNo Xl.here hexec rfl (hb hbytes d7) rfl (ii_ge_f (lt32 (by omega) (by omega))) ?_
        refine XS.aloadN Xl.here hexec rfl (hb hbytes d10) rfl rfl ?_
        refine XS.iloadN Xl.here hexec rfl (hb hbytes d11) rfl ?_
        exact Steps.refl _)
      have c4 : Steps p.tables e below (s₁.setTop (entryFrame m #[.ref b, .int (Int32.ofNat o), .ref d, .int (Int32.ofNat q), .int (Int32.ofNat len)] 7)) (Tl.setTop (mkF m 13 #[.val (.ref b), .val (.int (Int32.ofNat (o + i))), .val (.ref d), .val (.int (Int32.ofNat (q + i))), .val (.int (Int32.ofNat len)), .val (.int (Int32.ofNat i)), z] [.int (cv A (o + i))])) := c3.trans (by
        refine Xl.aget hexec hAl rfl (hA.get (i := o + i) (by omega)) rfl rfl (hb hbytes d12) ?_
        exact Steps.refl _)
      have c5 : Steps p.tables e below (s₁.setTop (entryFrame m #[.ref b, .int (Int32.ofNat o), .ref d, .int (Int32.ofNat q), .int (Int32.ofNat len)] 7)) (Tl.setTop (mkF m 15 #[.val (.ref b), .val (.int (Int32.ofNat (o + i))), .val (.ref d), .val (.int (Int32.ofNat (q + i))), .val (.int (Int32.ofNat len)), .val (.int (Int32.ofNat i)), .val (.int (cv A (o + i)))] [])) := c4.trans (by
        refine XS.istoreS Xl.here hexec rfl (hb hbytes d13) rfl rfl hz ?_
        exact Steps.refl _)
      have c6 : Steps p.tables e below (s₁.setTop (entryFrame m #[.ref b, .int (Int32.ofNat o), .ref d, .int (Int32.ofNat q), .int (Int32.ofNat len)] 7)) (Tl.setTop (mkF m 31 #[.val (.ref b), .val (.int (Int32.ofNat (o + i))), .val (.ref d), .val (.int (Int32.ofNat (q + i))), .val (.int (Int32.ofNat len)), .val (.int (Int32.ofNat i)), .val (.int (cv A (o + i)))] [.int (lo8 (cv A (o + i))), .int (Int32.ofNat (q + i)), .ref d])) := c5.trans (by
        refine XS.iload Xl.here hexec rfl (hb hbytes d15) rfl ?_
        refine sipushV Xl.here hexec rfl 255 (hb hbytes d17) (by decide) ?_
        refine XS.icmpYes Xl.here hexec rfl (pc0 := 20) rfl (hb hbytes d20) rfl (ii_le_t (hp i (by omega))) (by decide) rfl ?_
        refine XS.aloadN Xl.here hexec rfl (hb hbytes d26) rfl rfl ?_
        refine XS.iloadN Xl.here hexec rfl (hb hbytes d27) rfl ?_
        refine XS.iload Xl.here hexec rfl (hb hbytes d28) rfl ?_
        refine i2b Xl.here hexec rfl (hb hbytes d30) rfl ?_
        exact Steps.refl _)
      obtain ⟨T7, X7, p7, st7⟩ := Xl.aput hexec hBk rfl hlt rfl (fits_lo8 (cv A (o + i))) (g := (mkF m 31 #[.val (.ref b), .val (.int (Int32.ofNat (o + i))), .val (.ref d), .val (.int (Int32.ofNat (q + i))), .val (.int (Int32.ofNat len)), .val (.int (Int32.ofNat i)), .val (.int (cv A (o + i)))] [.int (lo8 (cv A (o + i))), .int (Int32.ofNat (q + i)), .ref d])) rfl (rest := []) rfl (hb hbytes d31)
      have c8 : Steps p.tables e below (s₁.setTop (entryFrame m #[.ref b, .int (Int32.ofNat o), .ref d, .int (Int32.ofNat q), .int (Int32.ofNat len)] 7)) (T7.setTop (mkF m 32 #[.val (.ref b), .val (.int (Int32.ofNat (o + i))), .val (.ref d), .val (.int (Int32.ofNat (q + i))), .val (.int (Int32.ofNat len)), .val (.int (Int32.ofNat i)), .val (.int (cv A (o + i)))] [])) := c6.trans (st7 _ (Steps.refl _))
      have c9 : Steps p.tables e below (s₁.setTop (entryFrame m #[.ref b, .int (Int32.ofNat o), .ref d, .int (Int32.ofNat q), .int (Int32.ofNat len)] 7)) (T7.setTop (mkF m 3 #[.val (.ref b), .val (.int (Int32.ofNat (o + i) + 1)), .val (.ref d), .val (.int (Int32.ofNat (q + i) + 1)), .val (.int (Int32.ofNat len)), .val (.int (Int32.ofNat i + 1)), .val (.int (cv A (o + i)))] [])) := c8.trans (by
        refine iincV X7.here hexec rfl 1 (hb hbytes d32) (by decide) rfl rfl ?_
        refine iincV X7.here hexec rfl 1 (hb hbytes d35) (by decide) rfl rfl ?_
        refine iincV X7.here hexec rfl 1 (hb hbytes d38) (by decide) rfl rfl ?_
        refine XS.goto X7.here hexec rfl (pc0 := 41) rfl (hb hbytes d41) (by decide) rfl ?_
        exact Steps.refl _)
      have c10 : Steps p.tables e below (s₁.setTop (entryFrame m #[.ref b, .int (Int32.ofNat o), .ref d, .int (Int32.ofNat q), .int (Int32.ofNat len)] 7)) (T7.setTop (mkF m 3 #[.val (.ref b), .val (.int (Int32.ofNat (o + (i + 1)))), .val (.ref d), .val (.int (Int32.ofNat (q + (i + 1)))), .val (.int (Int32.ofNat len)), .val (.int (Int32.ofNat (i + 1))), .val (.int (cv A (o + i)))] [])) := by
        have := c9
        rw [succ32, succ32, succ32] at this
        exact this
      exact ih (i + 1) (by omega) _ (Or.inr ⟨_, rfl, rfl⟩) T7 _ (by rw [copyLocs_step, ← List.append_assoc]; exact X7) (pl.trans p7) (fl.step (by omega) hlt (by simp)) c10
  obtain ⟨T9, B9, z9, X9, p9, f9, g9⟩ := loop len 0 (by omega) .unset (Or.inl rfl) s₁ B (by simpa [copyLocs] using X0) ⟨hB0.1, fun _ _ => rfl, rfl⟩ (Laid.zero _ _ _) c2
  have c11 : Steps p.tables e below (s₁.setTop (entryFrame m #[.ref b, .int (Int32.ofNat o), .ref d, .int (Int32.ofNat q), .int (Int32.ofNat len)] 7)) (T9.setTop (mkF m 46 #[.val (.ref b), .val (.int (Int32.ofNat (o + len))), .val (.ref d), .val (.int (Int32.ofNat (q + len))), .val (.int (Int32.ofNat len)), .val (.int (Int32.ofNat len)), z9] [.int (Int32.ofNat len)])) := g9.trans (by
    refine XS.iload X9.here hexec rfl (hb hbytes d3) rfl ?_
    refine XS.iload X9.here hexec rfl (hb hbytes d5) rfl ?_
    refine XS.icmpYes X9.here hexec rfl (pc0 := 7) rfl (hb hbytes d7) rfl (ii_ge_t (nlt32 (by omega) (Nat.le_refl _))) (by decide) rfl ?_
    refine XS.iload X9.here hexec rfl (hb hbytes d44) rfl ?_
    exact Steps.refl _)
  exact ⟨T9, some (.int (Int32.ofNat len)), _, _, _, X9, by simp, rfl, rfl, (fun h => by cases h), ⟨rfl, B9, p9.from hh0, f9⟩, fun fs hl => c11.trans (X9.ireturnOut hexec hret rfl (Or.inl rfl) (hb hbytes d46) hl)⟩
end Cmp5
namespace Cmp3
def yN : MethodName := ⟨"java/lang/StringUTF16", "compress", "([CII)[B"⟩
abbrev yB : ByteArray := jdk_52_method_16_code
theorem d0 : decode yB 0 = .ok (.iload_n 2, 1) := by decide +kernel
theorem d1 : decode yB 1 = .ok (.newarray .byte, 2) := by decide +kernel
theorem d3 : decode yB 3 = .ok (.astore_n 3, 1) := by decide +kernel
theorem d4 : decode yB 4 = .ok (.aload_n 0, 1) := by decide +kernel
theorem d5 : decode yB 5 = .ok (.iload_n 1, 1) := by decide +kernel
theorem d6 : decode yB 6 = .ok (.aload_n 3, 1) := by decide +kernel
theorem d7 : decode yB 7 = .ok (.iconst 0, 1) := by decide +kernel
theorem d8 : decode yB 8 = .ok (.iload_n 2, 1) := by decide +kernel
theorem d9 : decode yB 9 = .ok (.invokestatic 115, 3) := by decide +kernel
theorem d12 : decode yB 12 = .ok (.istore 4, 2) := by decide +kernel
theorem d14 : decode yB 14 = .ok (.iload 4, 2) := by decide +kernel
theorem d16 : decode yB 16 = .ok (.iload_n 2, 1) := by decide +kernel
theorem d17 : decode yB 17 = .ok (.if_icmp (.eq) 40, 3) := by decide +kernel
theorem d57 : decode yB 57 = .ok (.aload_n 3, 1) := by decide +kernel
theorem d58 : decode yB 58 = .ok (.areturn, 1) := by decide +kernel
def site : List Cond := [.arrayClass .byte, Cmp5.tab] ++ staticW U16 115 Cmp5.yN
def tab : Cond := tabOf yN yB 6 (some (.array .byte)) site
def P (b : Addr) (A : Cell) (o len : Nat) (args : Array Value) (s : State) : Prop := args = #[.ref b, .int (Int32.ofNat o), .int (Int32.ofNat len)] ∧ Ch b A s ∧ o + len ≤ A.slots.size ∧ len ≤ 536870912 ∧ ∀ i, i < len → ¬ 255 < cv A (o + i)
def E (b : Addr) (A : Cell) (o len : Nat) (r : Option Value) (s u : State) : Prop := NewArr .byte "[B" len (fun j => .int (lo8 (cv A (o + j)))) r s u ∧ u.heap.size = s.heap.size + 1
/-- no char of the range above 255: a new byte[] of their low bytes -/
theorem law (l : Launch) (b : Addr) (A : Cell) (o len : Nat) : Law l yN 3 3 1 18 yB 6 (some (.array .byte)) site (P b A o len) (E b A o len) [] 1 len := by
  refine Law.of_walk (plainFor_of_name (by decide +kernel)) (by decide +kernel) (by decide +kernel) (by decide) (fun _ _ h => by rw [h.1]; rfl) (fun _ U U' hal hh h => ⟨h.1, h.2.1.mv hal hh, h.2.2⟩) (fun r U U' V V' h1 hal h2 h => ⟨NewArr.mv r U U' V V' h1 hal h2 h.1, by rw [h1, h2]; exact h.2⟩) ?_
  intro p e s m args below meth c s₁ X0 hexec hbytes hml hret hlk hnm hown hh0 W hP
  obtain ⟨rfl, hA, l1, l2, hp⟩ := hP
  have a31 := hA.1.2.2.2
  have c1 : Steps p.tables e below (s₁.setTop (entryFrame m #[.ref b, .int (Int32.ofNat o), .int (Int32.ofNat len)] 6)) (s₁.setTop (mkF m 0 #[.val (.ref b), .val (.int (Int32.ofNat o)), .val (.int (Int32.ofNat len)), .unset, .unset, .unset] [])) := entry rfl
  have c2 : Steps p.tables e below (s₁.setTop (entryFrame m #[.ref b, .int (Int32.ofNat o), .int (Int32.ofNat len)] 6)) (s₁.setTop (mkF m 1 #[.val (.ref b), .val (.int (Int32.ofNat o)), .val (.int (Int32.ofNat len)), .unset, .unset, .unset] [.int (Int32.ofNat len)])) := c1.trans (by
    refine XS.iloadN X0.here hexec rfl (hb hbytes d0) rfl ?_
    exact Steps.refl _)
  obtain ⟨T3, B3, X3, ba3, bs3, bv3, bh3, bf3, st3⟩ := X0.anew hexec (atype := .byte) (wk W (.arrayClass .byte)) rfl (by show len * 1 ≤ _; omega) (by omega) (g := (mkF m 1 #[.val (.ref b), .val (.int (Int32.ofNat o)), .val (.int (Int32.ofNat len)), .unset, .unset, .unset] [.int (Int32.ofNat len)])) rfl (hb hbytes d1) (rest := []) rfl (Nat.le_refl _) (by show 0 + len ≤ len; omega)
  rw [hh0] at ba3 st3
  have kp3 : XT.Kept s T3 := (XT.Kept.of_eq hh0).push bh3
  have hA3 := hA.keep X3.warmed.alike (kp3 _ _ hA.1.1)
  have hne : b ≠ s.heap.size := hA.1.ne
  have c4 : Steps p.tables e below (s₁.setTop (entryFrame m #[.ref b, .int (Int32.ofNat o), .int (Int32.ofNat len)] 6)) (T3.setTop (mkF m 3 #[.val (.ref b), .val (.int (Int32.ofNat o)), .val (.int (Int32.ofNat len)), .unset, .unset, .unset] [.ref s.heap.size])) := c2.trans (st3 _ (Steps.refl _))
  have c5 : Steps p.tables e below (s₁.setTop (entryFrame m #[.ref b, .int (Int32.ofNat o), .int (Int32.ofNat len)] 6)) (T3.setTop (mkF m 9 #[.val (.ref b), .val (.int (Int32.ofNat o)), .val (.int (Int32.ofNat len)), .val (.ref s.heap.size), .unset, .unset] [.int (Int32.ofNat len), .int 0, .ref s.heap.size, .int (Int32.ofNat o), .ref b])) := c4.trans (by
    refine XS.astoreN X3.here hexec rfl (hb hbytes d3) rfl rfl rfl ?_
    refine XS.aloadN X3.here hexec rfl (hb hbytes d4) rfl rfl ?_
    refine XS.iloadN X3.here hexec rfl (hb hbytes d5) rfl ?_
    refine XS.aloadN X3.here hexec rfl (hb hbytes d6) rfl rfl ?_
    refine iconstV X3.here hexec rfl 0 (hb hbytes d7) (by decide) ?_
    refine XS.iloadN X3.here hexec rfl (hb hbytes d8) rfl ?_
    exact Steps.refl _)
  obtain ⟨v6, T6, X6, E6, g6⟩ := X3.callS hexec (Cmp5.law l b A s.heap.size B3 o 0 len) hown (wks W (staticW U16 115 Cmp5.yN)) (wk W Cmp5.tab) (W := 0) (Nat.le_of_ble_eq_true rfl) (Nat.le_of_ble_eq_true rfl) (Nat.le_refl _) (by show 0 + len + 0 ≤ len; omega) (g := (mkF m 9 #[.val (.ref b), .val (.int (Int32.ofNat o)), .val (.int (Int32.ofNat len)), .val (.ref s.heap.size), .unset, .unset] [.int (Int32.ofNat len), .int (Int32.ofNat 0), .ref s.heap.size, .int (Int32.ofNat o), .ref b])) rfl (by rw [hml]; rfl) c5 (argsL := [.ref b, .int (Int32.ofNat o), .ref s.heap.size, .int (Int32.ofNat 0), .int (Int32.ofNat len)]) (rest := []) rfl rfl (by show 2 * 0 + 0 ≤ _; decide) (hb hbytes d9) (⟨rfl, hA3, ba3, hne, l1, by rw [bs3]; simp, hp⟩)
  obtain ⟨rfl, B6, p6, f6⟩ := E6
  have c7 : Steps p.tables e below (s₁.setTop (entryFrame m #[.ref b, .int (Int32.ofNat o), .int (Int32.ofNat len)] 6)) (T6.setTop (mkF m 12 #[.val (.ref b), .val (.int (Int32.ofNat o)), .val (.int (Int32.ofNat len)), .val (.ref s.heap.size), .unset, .unset] [.int (Int32.ofNat len)])) := g6
  have c8 : Steps p.tables e below (s₁.setTop (entryFrame m #[.ref b, .int (Int32.ofNat o), .int (Int32.ofNat len)] 6)) (T6.setTop (mkF m 58 #[.val (.ref b), .val (.int (Int32.ofNat o)), .val (.int (Int32.ofNat len)), .val (.ref s.heap.size), .val (.int (Int32.ofNat len)), .unset] [.ref s.heap.size])) := c7.trans (by
    refine XS.istore X6.here hexec rfl (hb hbytes d12) rfl rfl ?_
    refine XS.iload X6.here hexec rfl (hb hbytes d14) rfl ?_
    refine XS.iloadN X6.here hexec rfl (hb hbytes d16) rfl ?_
    refine XS.icmpYes X6.here hexec rfl (pc0 := 17) rfl (hb hbytes d17) rfl (ii_eq_t rfl) (by decide) rfl ?_
    refine XS.aloadN X6.here hexec rfl (hb hbytes d57) rfl rfl ?_
    exact Steps.refl _)
  have X8 := X6.wide (L' := []) (cells' := 1) (slots' := len) (fun x hx hlt => by
    simp only [List.nil_append, copyLocs, List.mem_map, List.mem_range] at hx
    obtain ⟨i, -, rfl⟩ := hx
    exact absurd hlt (Nat.lt_irrefl _)) (Nat.le_refl _) (by omega)
  exact ⟨T6, some (.ref s.heap.size), _, _, _, X8, rfl, rfl, rfl, (fun h => by cases h), ⟨⟨rfl, B6, ba3.like (X3.warmed.alike.symm.trans X6.warmed.alike) p6.1 f6.1 f6.2.1 f6.2.2.1, f6.2.1.trans bv3, by rw [X6.warmed.alike.findClass, f6.1]; exact bf3, by rw [f6.2.2.1, bs3]; simp, fun j hj => by rw [f6.2.2.2 j, if_pos (by omega)]; rfl, kp3.put p6 (Nat.le_refl _)⟩, by rw [p6.2.2, bh3, hh0]; simp⟩, fun fs hl => c8.trans (X8.areturnOut hexec rfl hret rfl (hb hbytes d58) hl)⟩
end Cmp3
namespace CodL
def yN : MethodName := ⟨"java/lang/StringUTF16", "coderFromArrayLen", "([BI)B"⟩
abbrev yB : ByteArray := jdk_52_method_15_code
theorem d0 : decode yB 0 = .ok (.iload_n 1, 1) := by decide +kernel
theorem d1 : decode yB 1 = .ok (.aload_n 0, 1) := by decide +kernel
theorem d2 : decode yB 2 = .ok (.arraylength, 1) := by decide +kernel
theorem d3 : decode yB 3 = .ok (.isub, 1) := by decide +kernel
theorem d4 : decode yB 4 = .ok (.bipush 31, 2) := by decide +kernel
theorem d6 : decode yB 6 = .ok (.iushr, 1) := by decide +kernel
theorem d7 : decode yB 7 = .ok (.i2b, 1) := by decide +kernel
theorem d8 : decode yB 8 = .ok (.ireturn, 1) := by decide +kernel
def site : List Cond := []
def tab : Cond := tabOf yN yB 2 (some .byte) site
def P (d : Addr) (B : Cell) (args : Array Value) (s : State) : Prop := args = #[.ref d, .int (Int32.ofNat B.slots.size)] ∧ Arr .byte d B s
def E (r : Option Value) (s u : State) : Prop := XT.PureE (some (.int 0)) r s u
/-- an array as long as the number of chars: LATIN1 -/
theorem law (l : Launch) (d : Addr) (B : Cell) : Law l yN 2 2 0 0 yB 2 (some .byte) site (P d B) E [] 0 0 := by
  refine Law.of_walk (plainFor_of_name (by decide +kernel)) (by decide +kernel) (by decide +kernel) (by decide) (fun _ _ h => by rw [h.1]; rfl) (fun _ U U' hal hh h => ⟨h.1, h.2.mv hal hh⟩) (fun r U U' V V' h1 hal h2 h => XT.PureE.mv r U U' V V' h1 hal h2 h) ?_
  intro p e s m args below meth c s₁ X0 hexec hbytes hml hret hlk hnm hown hh0 W hP
  obtain ⟨rfl, hB⟩ := hP
  have hB0 := hB.mv X0.warmed.alike hh0
  have c1 : Steps p.tables e below (s₁.setTop (entryFrame m #[.ref d, .int (Int32.ofNat B.slots.size)] 2)) (s₁.setTop (mkF m 0 #[.val (.ref d), .val (.int (Int32.ofNat B.slots.size))] [])) := entry rfl
  have c2 : Steps p.tables e below (s₁.setTop (entryFrame m #[.ref d, .int (Int32.ofNat B.slots.size)] 2)) (s₁.setTop (mkF m 2 #[.val (.ref d), .val (.int (Int32.ofNat B.slots.size))] [.ref d, .int (Int32.ofNat B.slots.size)])) := c1.trans (by
    refine XS.iloadN X0.here hexec rfl (hb hbytes d0) rfl ?_
    refine XS.aloadN X0.here hexec rfl (hb hbytes d1) rfl rfl ?_
    exact Steps.refl _)
  have c3 : Steps p.tables e below (s₁.setTop (entryFrame m #[.ref d, .int (Int32.ofNat B.slots.size)] 2)) (s₁.setTop (mkF m 8 #[.val (.ref d), .val (.int (Int32.ofNat B.slots.size))] [.int (lo8 (ushr (Int32.ofNat B.slots.size - Int32.ofNat B.slots.size) 31))])) := c2.trans (by
    refine X0.alen hexec hB0 rfl rfl (hb hbytes d2) ?_
    refine XS.isub X0.here hexec rfl (hb hbytes d3) rfl ?_
    refine bipushV X0.here hexec rfl 31 (hb hbytes d4) (by decide) ?_
    refine iushr X0.here hexec rfl (hb hbytes d6) rfl ?_
    refine i2b X0.here hexec rfl (hb hbytes d7) rfl ?_
    exact Steps.refl _)
  have e0 : lo8 (ushr (Int32.ofNat B.slots.size - Int32.ofNat B.slots.size) 31) = 0 := by rw [Int32.sub_self]; decide
  rw [e0] at c3
  exact ⟨s₁, some (.int 0), _, _, _, X0, rfl, rfl, rfl, (fun h => by cases h), ⟨rfl, hh0⟩, fun fs hl => c3.trans (X0.ireturnOut hexec hret rfl (Or.inr (Or.inr (Or.inl rfl))) (hb hbytes d8) hl)⟩
end CodL
/-- the String at a is Latin-1 over a new byte[] (the heap's one new cell): the low bytes of the len chars of A from o on; every cell but a is kept -/
def Got (a : Addr) (D : Cell) (fV fC : Field) (A : Cell) (o len : Nat) (r : Option Value) (s u : State) : Prop := r = none ∧ ∃ D' V : Cell, Blank "java/lang/String" a D' u ∧ Same D D' [fV.slot, fC.slot] ∧ D'.slots[fV.slot]? = some (.ref s.heap.size) ∧ D'.slots[fC.slot]? = some (.int 0) ∧ Arr .byte s.heap.size V u ∧ V.vm = .none ∧ u.vm.findClass "[B" = some V.cls ∧ V.slots.size = len ∧ (∀ j, j < len → V.slots[j]? = some (.int (lo8 (cv A (o + j))))) ∧ (∀ (y : Addr) (c : Cell), y ≠ a → s.heap[y]? = some c → u.heap[y]? = some c) ∧ u.heap.size = s.heap.size + 1
theorem Got.mv {a : Addr} {D A : Cell} {fV fC : Field} {o len : Nat} : ∀ r (U U' V V' : State), U'.heap = U.heap → V.vm.Alike V'.vm → V'.heap = V.heap → Got a D fV fC A o len r U V → Got a D fV fC A o len r U' V' :=
  fun r U U' V V' h1 hal h2 ⟨e0, D', X, a1, a2, a3, a4, a5, a6, a7, a8, a9, a10, a11⟩ => ⟨e0, D', X, a1.mv hal h2, a2, by rw [h1]; exact a3, a4, by rw [h1]; exact a5.mv hal h2, a6, by rw [hal.findClass]; exact a7, a8, a9, by rw [h1, h2]; exact a10, by rw [h1, h2]; exact a11⟩
namespace New4
def yN : MethodName := ⟨"java/lang/String", "<init>", "([CIILjava/lang/Void;)V"⟩
abbrev yB : ByteArray := jdk_42_method_149_code
theorem d0 : decode yB 0 = .ok (.aload_n 0, 1) := by decide +kernel
theorem d1 : decode yB 1 = .ok (.invokespecial 1, 3) := by decide +kernel
theorem d4 : decode yB 4 = .ok (.iload_n 3, 1) := by decide +kernel
theorem d5 : decode yB 5 = .ok (.ifCond (.ne) 22, 3) := by decide +kernel
theorem d27 : decode yB 27 = .ok (.getstatic 38, 3) := by decide +kernel
theorem d30 : decode yB 30 = .ok (.ifCond (.eq) 28, 3) := by decide +kernel
theorem d33 : decode yB 33 = .ok (.aload_n 1, 1) := by decide +kernel
theorem d34 : decode yB 34 = .ok (.iload_n 2, 1) := by decide +kernel
theorem d35 : decode yB 35 = .ok (.iload_n 3, 1) := by decide +kernel
theorem d36 : decode yB 36 = .ok (.invokestatic 177, 3) := by decide +kernel
theorem d39 : decode yB 39 = .ok (.astore 5, 2) := by decide +kernel
theorem d41 : decode yB 41 = .ok (.aload_n 0, 1) := by decide +kernel
theorem d42 : decode yB 42 = .ok (.aload 5, 2) := by decide +kernel
theorem d44 : decode yB 44 = .ok (.iload_n 3, 1) := by decide +kernel
theorem d45 : decode yB 45 = .ok (.invokestatic 47, 3) := by decide +kernel
theorem d48 : decode yB 48 = .ok (.putfield 15, 3) := by decide +kernel
theorem d51 : decode yB 51 = .ok (.aload_n 0, 1) := by decide +kernel
theorem d52 : decode yB 52 = .ok (.aload 5, 2) := by decide +kernel
theorem d54 : decode yB 54 = .ok (.putfield 9, 3) := by decide +kernel
theorem d57 : decode yB 57 = .ok (.return_, 1) := by decide +kernel
def site : List Cond := [.fieldLink "java/lang/String" 38 "java/lang/String" "COMPACT_STRINGS" "Z", Cmp3.tab, CodL.tab, .laysFinal "java/lang/String" "java/lang/String" "value" "[B", .fieldLink "java/lang/String" 9 "java/lang/String" "value" "[B", .laysFinal "java/lang/String" "java/lang/String" "coder" "B", .fieldLink "java/lang/String" 15 "java/lang/String" "coder" "B"] ++ objW "java/lang/String" 1 ++ staticW "java/lang/String" 177 Cmp3.yN ++ staticW "java/lang/String" 47 CodL.yN
def tab : Cond := tabOf yN yB 6 none site
def P (a : Addr) (D : Cell) (fV fC : Field) (b : Addr) (A : Cell) (z : Int32) (o len : Nat) (args : Array Value) (s : State) : Prop := args = #[.ref a, .ref b, .int (Int32.ofNat o), .int (Int32.ofNat len), .null] ∧ Blank "java/lang/String" a D s ∧ Found "java/lang/String" "value" "[B" fV s ∧ Found "java/lang/String" "coder" "B" fC s ∧ Ch b A s ∧ StaticIs s "java/lang/String" "COMPACT_STRINGS" "Z" (.int z) ∧ ¬ z = 0 ∧ 0 < len ∧ o + len ≤ A.slots.size ∧ len ≤ 536870912 ∧ ∀ i, i < len → ¬ 255 < cv A (o + i)
def E (a : Addr) (D : Cell) (fV fC : Field) (A : Cell) (o len : Nat) (r : Option Value) (s u : State) : Prop := Got a D fV fC A o len r s u
/-- len > 0, no char of the range above 255: a Latin-1 String of their low bytes -/
theorem law (l : Launch) (a : Addr) (D : Cell) (fV fC : Field) (b : Addr) (A : Cell) (z : Int32) (o len : Nat) : Law l yN 5 4 2 35 yB 6 none site (P a D fV fC b A z o len) (E a D fV fC A o len) [⟨a, fC.slot⟩, ⟨a, fV.slot⟩] 1 len := by
  refine Law.of_walk (plainFor_of_name (by decide +kernel)) (by decide +kernel) (by decide +kernel) (by decide) (fun _ _ h => by rw [h.1]; rfl) (fun _ U U' hal hh h => ⟨h.1, h.2.1.mv hal hh, h.2.2.1.al hal, h.2.2.2.1.al hal, h.2.2.2.2.1.mv hal hh, h.2.2.2.2.2.1.there hal hh, h.2.2.2.2.2.2⟩) (fun r U U' V V' h1 hal h2 h => Got.mv r U U' V V' h1 hal h2 h) ?_
  intro p e s m args below meth c s₁ X0 hexec hbytes hml hret hlk hnm hown hh0 W hP
  obtain ⟨rfl, hB, f1, f2, hA, s1, hz, l0, l1, l2, hp⟩ := hP
  have a31 := hA.1.2.2.2
  have c1 : Steps p.tables e below (s₁.setTop (entryFrame m #[.ref a, .ref b, .int (Int32.ofNat o), .int (Int32.ofNat len), .null] 6)) (s₁.setTop (mkF m 0 #[.val (.ref a), .val (.ref b), .val (.int (Int32.ofNat o)), .val (.int (Int32.ofNat len)), .val .null, .unset] [])) := entry rfl
  have c2 : Steps p.tables e below (s₁.setTop (entryFrame m #[.ref a, .ref b, .int (Int32.ofNat o), .int (Int32.ofNat len), .null] 6)) (s₁.setTop (mkF m 1 #[.val (.ref a), .val (.ref b), .val (.int (Int32.ofNat o)), .val (.int (Int32.ofNat len)), .val .null, .unset] [.ref a])) := c1.trans (by
    refine XS.aloadN X0.here hexec rfl (hb hbytes d0) rfl rfl ?_
    exact Steps.refl _)
  obtain ⟨T3, X3, q3, st3⟩ := X0.oinit hexec hown (wks W (objW "java/lang/String" 1)) (g := (mkF m 1 #[.val (.ref a), .val (.ref b), .val (.int (Int32.ofNat o)), .val (.int (Int32.ofNat len)), .val .null, .unset] [.ref a])) rfl (by rw [hml]; rfl) (rest := []) rfl (hb hbytes d1) (W := 0) (by show 2 * 0 + 0 ≤ _; decide) (Nat.le_of_ble_eq_true rfl) (Nat.le_of_ble_eq_true rfl)
  have hh3 := q3.trans hh0
  have c4 : Steps p.tables e below (s₁.setTop (entryFrame m #[.ref a, .ref b, .int (Int32.ofNat o), .int (Int32.ofNat len), .null] 6)) (T3.setTop (mkF m 27 #[.val (.ref a), .val (.ref b), .val (.int (Int32.ofNat o)), .val (.int (Int32.ofNat len)), .val .null, .unset] [])) := (c2.trans (st3 _ (Steps.refl _))).trans (by
    refine XS.iloadN X3.here hexec rfl (hb hbytes d4) rfl ?_
    refine XS.ifYes X3.here hexec rfl (pc0 := 5) rfl (hb hbytes d5) rfl (i0_ne_t (nz32 (by omega) l0)) (by decide) rfl ?_
    exact Steps.refl _)
  obtain ⟨T5, X5, q5, st5⟩ := X3.sget hexec hown (wk W (.fieldLink "java/lang/String" 38 "java/lang/String" "COMPACT_STRINGS" "Z")) s1 (fun _ _ h => by rw [hh3]; exact h) (g := (mkF m 27 #[.val (.ref a), .val (.ref b), .val (.int (Int32.ofNat o)), .val (.int (Int32.ofNat len)), .val .null, .unset] [])) rfl (hb hbytes d27)
  have hh5 := q5.trans hh3
  have c6 : Steps p.tables e below (s₁.setTop (entryFrame m #[.ref a, .ref b, .int (Int32.ofNat o), .int (Int32.ofNat len), .null] 6)) (T5.setTop (mkF m 30 #[.val (.ref a), .val (.ref b), .val (.int (Int32.ofNat o)), .val (.int (Int32.ofNat len)), .val .null, .unset] [.int z])) := c4.trans (st5 _ (Steps.refl _))
  have c7 : Steps p.tables e below (s₁.setTop (entryFrame m #[.ref a, .ref b, .int (Int32.ofNat o), .int (Int32.ofNat len), .null] 6)) (T5.setTop (mkF m 36 #[.val (.ref a), .val (.ref b), .val (.int (Int32.ofNat o)), .val (.int (Int32.ofNat len)), .val .null, .unset] [.int (Int32.ofNat len), .int (Int32.ofNat o), .ref b])) := c6.trans (by
    refine XS.ifNo X5.here hexec rfl (hb hbytes d30) rfl (i0_eq_f hz) ?_
    refine XS.aloadN X5.here hexec rfl (hb hbytes d33) rfl rfl ?_
    refine XS.iloadN X5.here hexec rfl (hb hbytes d34) rfl ?_
    refine XS.iloadN X5.here hexec rfl (hb hbytes d35) rfl ?_
    exact Steps.refl _)
  obtain ⟨v8, T8, X8, E8, g8⟩ := X5.callS hexec (Cmp3.law l b A o len) hown (wks W (staticW "java/lang/String" 177 Cmp3.yN)) (wk W Cmp3.tab) (W := 0) (Nat.le_of_ble_eq_true rfl) (Nat.le_of_ble_eq_true rfl) (Nat.le_refl _) (by show 0 + len ≤ len; omega) (g := (mkF m 36 #[.val (.ref a), .val (.ref b), .val (.int (Int32.ofNat o)), .val (.int (Int32.ofNat len)), .val .null, .unset] [.int (Int32.ofNat len), .int (Int32.ofNat o), .ref b])) rfl (by rw [hml]; rfl) c7 (argsL := [.ref b, .int (Int32.ofNat o), .int (Int32.ofNat len)]) (rest := []) rfl rfl (by show 2 * 0 + 0 ≤ _; decide) (hb hbytes d36) (⟨rfl, hA.mv X5.warmed.alike hh5, l1, l2, hp⟩)
  obtain ⟨e8, z8⟩ := E8
  obtain ⟨rfl, N, n1, n2, n3, n4, n5, n6⟩ := NewArr.mv _ T5 s _ _ hh5.symm (Vm.Alike.refl _) rfl e8
  rw [hh5] at z8
  have hB1 := hB.keep X8.warmed.alike (n6 _ _ hB.1)
  have hne : s.heap.size ≠ a := (Nat.ne_of_lt (Array.getElem?_eq_some_iff.mp hB.1).1).symm
  have c9 : Steps p.tables e below (s₁.setTop (entryFrame m #[.ref a, .ref b, .int (Int32.ofNat o), .int (Int32.ofNat len), .null] 6)) (T8.setTop (mkF m 39 #[.val (.ref a), .val (.ref b), .val (.int (Int32.ofNat o)), .val (.int (Int32.ofNat len)), .val .null, .unset] [.ref s.heap.size])) := g8
  have c10 : Steps p.tables e below (s₁.setTop (entryFrame m #[.ref a, .ref b, .int (Int32.ofNat o), .int (Int32.ofNat len), .null] 6)) (T8.setTop (mkF m 45 #[.val (.ref a), .val (.ref b), .val (.int (Int32.ofNat o)), .val (.int (Int32.ofNat len)), .val .null, .val (.ref s.heap.size)] [.int (Int32.ofNat N.slots.size), .ref s.heap.size, .ref a])) := by
    have hc : Steps p.tables e below (s₁.setTop (entryFrame m #[.ref a, .ref b, .int (Int32.ofNat o), .int (Int32.ofNat len), .null] 6)) (T8.setTop (mkF m 45 #[.val (.ref a), .val (.ref b), .val (.int (Int32.ofNat o)), .val (.int (Int32.ofNat len)), .val .null, .val (.ref s.heap.size)] [.int (Int32.ofNat len), .ref s.heap.size, .ref a])) := c9.trans (by
      refine XS.astore X8.here hexec rfl (hb hbytes d39) rfl rfl rfl ?_
      refine XS.aloadN X8.here hexec rfl (hb hbytes d41) rfl rfl ?_
      refine XS.aload X8.here hexec rfl (hb hbytes d42) rfl rfl ?_
      refine XS.iloadN X8.here hexec rfl (hb hbytes d44) rfl ?_
      exact Steps.refl _)
    rw [n4]; exact hc
  obtain ⟨v11, T11, X11, E11, g11⟩ := X8.callS hexec (CodL.law l s.heap.size N) hown (wks W (staticW "java/lang/String" 47 CodL.yN)) (wk W CodL.tab) (W := 1) (Nat.le_of_ble_eq_true rfl) (Nat.le_of_ble_eq_true rfl) (Nat.le_refl _) (by show 0 + len + 0 ≤ len; omega) (g := (mkF m 45 #[.val (.ref a), .val (.ref b), .val (.int (Int32.ofNat o)), .val (.int (Int32.ofNat len)), .val .null, .val (.ref s.heap.size)] [.int (Int32.ofNat N.slots.size), .ref s.heap.size, .ref a])) rfl (by rw [hml]; rfl) c10 (argsL := [.ref s.heap.size, .int (Int32.ofNat N.slots.size)]) (rest := [.ref a]) rfl rfl (by show 2 * 0 + (1 + 0) ≤ _; decide) (hb hbytes d45) (⟨rfl, n1⟩)
  obtain ⟨rfl, q11⟩ := E11
  have hB11 := hB1.mv (X8.warmed.alike.symm.trans X11.warmed.alike) q11
  have c12 : Steps p.tables e below (s₁.setTop (entryFrame m #[.ref a, .ref b, .int (Int32.ofNat o), .int (Int32.ofNat len), .null] 6)) (T11.setTop (mkF m 48 #[.val (.ref a), .val (.ref b), .val (.int (Int32.ofNat o)), .val (.int (Int32.ofNat len)), .val .null, .val (.ref s.heap.size)] [.int 0, .ref a])) := g11
  obtain ⟨T13, X13, p13, bl13, sl13, st13⟩ := X11.finit hexec hown (wk W (.fieldLink "java/lang/String" 15 "java/lang/String" "coder" "B")) (Or.inr ⟨_, (wk W (.laysFinal "java/lang/String" "java/lang/String" "coder" "B"))⟩) (Or.inl ⟨rfl, hnm⟩) f2 (Or.inl rfl) hB11 (t := .byte) (by decide +kernel) rfl (g := (mkF m 48 #[.val (.ref a), .val (.ref b), .val (.int (Int32.ofNat o)), .val (.int (Int32.ofNat len)), .val .null, .val (.ref s.heap.size)] [.int 0, .ref a])) rfl (rest := []) rfl (hb hbytes d48)
  have c14 : Steps p.tables e below (s₁.setTop (entryFrame m #[.ref a, .ref b, .int (Int32.ofNat o), .int (Int32.ofNat len), .null] 6)) (T13.setTop (mkF m 54 #[.val (.ref a), .val (.ref b), .val (.int (Int32.ofNat o)), .val (.int (Int32.ofNat len)), .val .null, .val (.ref s.heap.size)] [.ref s.heap.size, .ref a])) := (c12.trans (st13 _ (Steps.refl _))).trans (by
    refine XS.aloadN X13.here hexec rfl (hb hbytes d51) rfl rfl ?_
    refine XS.aload X13.here hexec rfl (hb hbytes d52) rfl rfl ?_
    exact Steps.refl _)
  obtain ⟨T15, X15, p15, bl15, sl15, st15⟩ := X13.finit hexec hown (wk W (.fieldLink "java/lang/String" 9 "java/lang/String" "value" "[B")) (Or.inr ⟨_, (wk W (.laysFinal "java/lang/String" "java/lang/String" "value" "[B"))⟩) (Or.inl ⟨rfl, hnm⟩) f1 (Or.inl rfl) bl13 (t := (.array .byte)) (by decide +kernel) rfl (g := (mkF m 54 #[.val (.ref a), .val (.ref b), .val (.int (Int32.ofNat o)), .val (.int (Int32.ofNat len)), .val .null, .val (.ref s.heap.size)] [.ref s.heap.size, .ref a])) rfl (rest := []) rfl (hb hbytes d54)
  have c16 : Steps p.tables e below (s₁.setTop (entryFrame m #[.ref a, .ref b, .int (Int32.ofNat o), .int (Int32.ofNat len), .null] 6)) (T15.setTop (mkF m 57 #[.val (.ref a), .val (.ref b), .val (.int (Int32.ofNat o)), .val (.int (Int32.ofNat len)), .val .null, .val (.ref s.heap.size)] [])) := c14.trans (st15 _ (Steps.refl _))
  have ap := apart (Or.inr ⟨_, (wk W (.laysFinal "java/lang/String" "java/lang/String" "value" "[B"))⟩) (Or.inr ⟨_, (wk W (.laysFinal "java/lang/String" "java/lang/String" "coder" "B"))⟩) f1 f2 (t₁ := .array .byte) (t₂ := .byte) (by decide +kernel) (by decide +kernel) (by decide)
  have al := X8.warmed.alike.symm.trans X15.warmed.alike
  have n7 : T11.heap[s.heap.size]? = some N := by rw [q11]; exact n1.1
  exact ⟨T15, none, _, _, _, X15, by simp, rfl, by omega, (fun _ => rfl), ⟨rfl, _, N, bl15, ((Same.refl D _).set _ (by simp)).set _ (by simp), sl15, (Cell.slots_setSlot_ne _ ap).trans sl13, n1.keep al (p15.other hne (p13.other hne n7)), n2, by rw [al.findClass]; exact n3, n4, n5, fun y c h1 h2 => p15.other h1 (p13.other h1 (by rw [q11]; exact n6 y c h2)), by rw [p15.2.2, p13.2.2, q11]; exact z8⟩, fun fs hl => c16.trans (X15.returnOut hexec hret (hb hbytes d57) hl)⟩
end New4
namespace New1
def yN : MethodName := ⟨"java/lang/String", "<init>", "([C)V"⟩
abbrev yB : ByteArray := jdk_42_method_3_code
theorem d0 : decode yB 0 = .ok (.aload_n 0, 1) := by decide +kernel
theorem d1 : decode yB 1 = .ok (.aload_n 1, 1) := by decide +kernel
theorem d2 : decode yB 2 = .ok (.iconst 0, 1) := by decide +kernel
theorem d3 : decode yB 3 = .ok (.aload_n 1, 1) := by decide +kernel
theorem d4 : decode yB 4 = .ok (.arraylength, 1) := by decide +kernel
theorem d5 : decode yB 5 = .ok (.aconst_null, 1) := by decide +kernel
theorem d6 : decode yB 6 = .ok (.invokespecial 27, 3) := by decide +kernel
theorem d9 : decode yB 9 = .ok (.return_, 1) := by decide +kernel
def site : List Cond := [New4.tab] ++ initW "java/lang/String" 27 New4.yN
def tab : Cond := tabOf yN yB 2 none site
def P (a : Addr) (D : Cell) (fV fC : Field) (b : Addr) (A : Cell) (z : Int32) (args : Array Value) (s : State) : Prop := args = #[.ref a, .ref b] ∧ Blank "java/lang/String" a D s ∧ Found "java/lang/String" "value" "[B" fV s ∧ Found "java/lang/String" "coder" "B" fC s ∧ Ch b A s ∧ StaticIs s "java/lang/String" "COMPACT_STRINGS" "Z" (.int z) ∧ ¬ z = 0 ∧ 0 < A.slots.size ∧ A.slots.size ≤ 536870912 ∧ ∀ i, i < A.slots.size → ¬ 255 < cv A i
def E (a : Addr) (D : Cell) (fV fC : Field) (A : Cell) (r : Option Value) (s u : State) : Prop := Got a D fV fC A 0 A.slots.size r s u
/-- new String(chars), not empty, no char above 255: a Latin-1 String of their low bytes -/
theorem law (l : Launch) (a : Addr) (D : Cell) (fV fC : Field) (b : Addr) (A : Cell) (z : Int32) : Law l yN 2 1 3 52 yB 2 none site (P a D fV fC b A z) (E a D fV fC A) [⟨a, fC.slot⟩, ⟨a, fV.slot⟩] 1 A.slots.size := by
  refine Law.of_walk (plainFor_of_name (by decide +kernel)) (by decide +kernel) (by decide +kernel) (by decide) (fun _ _ h => by rw [h.1]; rfl) (fun _ U U' hal hh h => ⟨h.1, h.2.1.mv hal hh, h.2.2.1.al hal, h.2.2.2.1.al hal, h.2.2.2.2.1.mv hal hh, h.2.2.2.2.2.1.there hal hh, h.2.2.2.2.2.2⟩) (fun r U U' V V' h1 hal h2 h => Got.mv r U U' V V' h1 hal h2 h) ?_
  intro p e s m args below meth c s₁ X0 hexec hbytes hml hret hlk hnm hown hh0 W hP
  obtain ⟨rfl, hB, f1, f2, hA, s1, hz, l0, l2, hp⟩ := hP
  have c1 : Steps p.tables e below (s₁.setTop (entryFrame m #[.ref a, .ref b] 2)) (s₁.setTop (mkF m 0 #[.val (.ref a), .val (.ref b)] [])) := entry rfl
  have c2 : Steps p.tables e below (s₁.setTop (entryFrame m #[.ref a, .ref b] 2)) (s₁.setTop (mkF m 6 #[.val (.ref a), .val (.ref b)] [.null, .int (Int32.ofNat A.slots.size), .int 0, .ref b, .ref a])) := c1.trans (by
    refine XS.aloadN X0.here hexec rfl (hb hbytes d0) rfl rfl ?_
    refine XS.aloadN X0.here hexec rfl (hb hbytes d1) rfl rfl ?_
    refine iconstV X0.here hexec rfl 0 (hb hbytes d2) (by decide) ?_
    refine XS.aloadN X0.here hexec rfl (hb hbytes d3) rfl rfl ?_
    refine X0.alen hexec (hA.1.mv X0.warmed.alike hh0) rfl rfl (hb hbytes d4) ?_
    refine XS.aconstNull X0.here hexec rfl (hb hbytes d5) ?_
    exact Steps.refl _)
  obtain ⟨v3, T3, X3, E3, g3⟩ := X0.callN hexec (New4.law l a D fV fC b A z 0 A.slots.size) rfl hown (wks W (initW "java/lang/String" 27 New4.yN)) (W New4.tab (by simp only [site, List.mem_cons, List.mem_append, true_or, or_true])) (W := 0) (Nat.le_of_ble_eq_true rfl) (Nat.le_of_ble_eq_true rfl) (Nat.le_refl _) (by show 0 + A.slots.size ≤ A.slots.size; omega) (g := (mkF m 6 #[.val (.ref a), .val (.ref b)] [.null, .int (Int32.ofNat A.slots.size), .int (Int32.ofNat 0), .ref b, .ref a])) rfl (by rw [hml]; rfl) c2 (argsL := [.ref b, .int (Int32.ofNat 0), .int (Int32.ofNat A.slots.size), .null]) (rest := []) rfl rfl (by show 2 * 0 + 0 ≤ _; decide) (hb hbytes d6) (⟨rfl, hB.mv X0.warmed.alike hh0, f1.al X0.warmed.alike, f2.al X0.warmed.alike, hA.mv X0.warmed.alike hh0, s1.there X0.warmed.alike hh0, hz, l0, by omega, l2, fun i hi => by rw [Nat.zero_add]; exact hp i hi⟩)
  have e0 := Got.mv _ s₁ s _ _ hh0.symm (Vm.Alike.refl _) rfl E3
  obtain rfl := e0.1
  have c4 : Steps p.tables e below (s₁.setTop (entryFrame m #[.ref a, .ref b] 2)) (T3.setTop (mkF m 9 #[.val (.ref a), .val (.ref b)] [])) := g3
  exact ⟨T3, none, _, _, _, X3, by simp, rfl, by omega, (fun _ => rfl), e0, fun fs hl => c4.trans (X3.returnOut hexec hret (hb hbytes d9) hl)⟩
theorem pays {l : Launch} {R : Room} {p : Program} {e : Env} {below : List Frame} {s : State} {sargs : Array Value} {len W : Nat} (a : Addr) (D : Cell) (fV fC : Field) (b : Addr) (A : Cell) (z : Int32) (htab : tab.before sargs s = true) (hfr : 4 ≤ R.frames) (hlo : W + 65 ≤ R.locals) :
    Back l R p e below s sargs yN len W (fun A₁ a₁ => A₁.cells + 1 ≤ R.cells ∧ A₁.slots + A.slots.size ≤ R.slots ∧ P a D fV fC b A z a₁ A₁.U) (fun A₁ _ v₁ B₁ => E a D fV fC A v₁ A₁.U B₁.U ∧ B₁.locs = A₁.locs ++ [⟨a, fC.slot⟩, ⟨a, fV.slot⟩] ∧ B₁.cells = A₁.cells + 1 ∧ B₁.slots = A₁.slots + A.slots.size) :=
  (law l a D fV fC b A z).pays htab hfr (by omega)
end New1
end StrChars
namespace StrChars.Road
open Jvm Sem ClassFile Op Lib Jvm.Stand Jvm.Free Jvm.Free.XT
open Jvm.Lib.Cold (StaticIs)
abbrev ST : String := "java/lang/String"
/-- every table word that New1's law asks, flat -/
abbrev words : List Jvm.Cond := [.code New1.yN New1.yB 2 none, .initialized ST, .methodLink ST 27 New4.yN, .instanceMethod New4.yN,
  .code New4.yN New4.yB 6 none, .fieldLink ST 38 ST "COMPACT_STRINGS" "Z", .laysFinal ST ST "value" "[B", .fieldLink ST 9 ST "value" "[B", .laysFinal ST ST "coder" "B", .fieldLink ST 15 ST "coder" "B",
  .methodLink ST 1 Lib.objectInit, .instanceMethod Lib.objectInit, .code Lib.objectInit ⟨#[0xb1]⟩ 1 none, .methodLink ST 177 Cmp3.yN, .static Cmp3.yN, .methodLink ST 47 CodL.yN, .static CodL.yN,
  .code Cmp3.yN Cmp3.yB 6 (some (.array .byte)), .initialized U16, .arrayClass .byte, .methodLink U16 115 Cmp5.yN, .static Cmp5.yN, .code Cmp5.yN Cmp5.yB 7 (some .int), .code CodL.yN CodL.yB 2 (some .byte)]
theorem tab_of {a : Array Value} {s : State} (h : ∀ w ∈ words, w.before a s = true) : New1.tab.before a s = true := by
  have h5 : Cmp5.tab.before a s = true := unparts (wk h (.code Cmp5.yN Cmp5.yB 7 (some .int))) (wks h (.initialized Cmp5.yN.cls :: Cmp5.site))
  have hc : CodL.tab.before a s = true := unparts (wk h (.code CodL.yN CodL.yB 2 (some .byte))) (wks h (.initialized CodL.yN.cls :: CodL.site))
  have q5 : ∀ w ∈ Cmp5.tab :: words, w.before a s = true := fun w hw => (List.mem_cons.mp hw).elim (fun e => e ▸ h5) (h w)
  have h3 : Cmp3.tab.before a s = true := unparts (wk q5 (.code Cmp3.yN Cmp3.yB 6 (some (.array .byte)))) (wks q5 (.initialized Cmp3.yN.cls :: Cmp3.site))
  have q3 : ∀ w ∈ Cmp3.tab :: CodL.tab :: words, w.before a s = true := fun w hw => (List.mem_cons.mp hw).elim (fun e => e ▸ h3) fun hw => (List.mem_cons.mp hw).elim (fun e => e ▸ hc) (h w)
  have h4 : New4.tab.before a s = true := unparts (wk q3 (.code New4.yN New4.yB 6 none)) (wks q3 (.initialized New4.yN.cls :: New4.site))
  have q4 : ∀ w ∈ New4.tab :: words, w.before a s = true := fun w hw => (List.mem_cons.mp hw).elim (fun e => e ▸ h4) (h w)
  exact unparts (wk q4 (.code New1.yN New1.yB 2 none)) (wks q4 (.initialized New1.yN.cls :: New1.site))
/-- the words ride from the start Z to the walk's own state -/
theorem moved {Z s : State} {a0 args : Array Value} (hZ : Z.Warmed39 s.vm) (hw : ∀ d ∈ words, d.before a0 Z = true) : ∀ d ∈ words, d.before args s = true := fun d hd => by
  have q := hw d hd
  have t : ∀ d ∈ words, d = .arrayClass .byte ∨ (d.onTables && d.keepsFace) = true := by decide +kernel
  rcases t d hd with rfl | t
  · exact RoadKit.mvA hZ q
  · exact RoadKit.mv hZ q t
/-- WHAT COMES BACK, over the tables of the start Z: h the heap at the call, h' behind it -/
def Q (Z : State) (x : Addr) (A : Cell) (h : Heap) (v : Option Value) (h' : Heap) (L : List Loc) : Prop := v = none ∧ (∀ y ∈ L, y.base = x) ∧ RoadKit.Keep h h' [x] ∧ h'.size = h.size + 1 ∧ RoadKit.Exa Z h' x ST ∧ RoadKit.Fld Z h' x ST "value" "[B" (.ref h.size) ∧ RoadKit.Fld Z h' x ST "coder" "B" (.int 0) ∧
  (∃ V : Cell, RoadKit.Arr Z h' h.size V .byte ∧ V.vm = .none ∧ Z.vm.findClass "[B" = some V.cls ∧ V.slots.size = A.slots.size ∧ ∀ j, j < A.slots.size → V.slots[j]? = some (.int (lo8 (cv A j)))) ∧
  ∀ (O n d : String) (w : Value), RoadKit.Fld Z h x O n d w → RoadKit.slotOf Z O n d ≠ RoadKit.slotOf Z ST "value" "[B" → RoadKit.slotOf Z O n d ≠ RoadKit.slotOf Z ST "coder" "B" → RoadKit.Fld Z h' x O n d w
/-- **new String(chars) AT A CALL, IN THE ROAD'S FORM**: for specialBack behind newO: x the fresh String, b the char[] with the cell A -/
theorem back {p : Program} {l : Launch} {e : Env} {R : Room} {s : State} {args : Array Value} {below : List Frame} {len W : Nat} {Z : State} {a0 : Array Value} {h : Heap} (hZ : Z.Warmed39 s.vm) (hw : ∀ d ∈ words, d.before a0 Z = true) {kI : Nat} (wi : (Jvm.Cond.instantiable ST kI).before a0 Z = true)
    {x b : Addr} {A : Cell} {z : Int32} {v0 c0 : Value} (E : RoadKit.Exa Z h x ST) (V : RoadKit.Fld Z h x ST "value" "[B" v0) (C : RoadKit.Fld Z h x ST "coder" "B" c0) (K : RoadKit.Arr Z h b A .char) (hty : Typed .char A) (S : RoadKit.Sta Z h ST "COMPACT_STRINGS" "Z" (.int z)) (hz : ¬ z = 0)
    (l0 : 0 < A.slots.size) (l2 : A.slots.size ≤ 536870912) (hp : ∀ i, i < A.slots.size → ¬ 255 < cv A i) (hfr : 4 ≤ R.frames) (hlo : W + 65 ≤ R.locals) :
    Back l R p e below s args New1.yN len W (fun P a => a = #[.ref x, .ref b] ∧ P.U.heap = h ∧ P.cells + 1 ≤ R.cells ∧ P.slots + A.slots.size ≤ R.slots)
      (fun P _ v B => ∃ L, Q Z x A h v B.U.heap L ∧ B.locs = P.locs ++ L ∧ B.cells = P.cells + 1 ∧ B.slots = P.slots + A.slots.size) := by
  intro m meth c P g ig mk a X hg hsize hdg hW hn hp'
  obtain ⟨rfl, rfl, r1, r2⟩ := hp'
  have al : Z.vm.Alike P.U.vm := hZ.alike.trans X.warmed.alike
  obtain ⟨D, cfV, kV, iV, fV, hD, gV, stV, knV, obV, asV, slV⟩ := id V
  obtain ⟨D', cfC, kC, iC, fC, hD', gC, stC, -, -, asC, slC⟩ := id C
  cases hD.symm.trans hD'
  obtain ⟨D2, kD, e1, e2, e3, e4, e5⟩ := id E
  cases hD.symm.trans e1
  obtain ⟨c2, k2, i1, i2, i3, -⟩ := Cond.instantiable_spec wi
  cases e2.symm.trans i1
  cases e3.symm.trans i2
  obtain ⟨kU, u1, u2⟩ := al.2.2 _ _ e3
  have hB : Blank ST x D P.U := ⟨hD, ⟨knV, fun q hq => by rw [hq] at obV; cases obV⟩, by rw [al.findClass]; exact e2, kU, u1, by rw [u2]; exact i3, by rw [u2]; exact e5 i3⟩
  have F1 : Found ST "value" "[B" fV P.U := ⟨SBG.found_only al ⟨cfV, kV, iV, gV⟩, stV⟩
  have F2 : Found ST "coder" "B" fC P.U := ⟨SBG.found_only al ⟨cfC, kC, iC, gC⟩, stC⟩
  have hA : Ch b A P.U := ⟨⟨K.1, State.isArrayOf_alike al K.2.1, K.2.2, by omega⟩, hty⟩
  have hS : StaticIs P.U ST "COMPACT_STRINGS" "Z" (.int z) := by
    obtain ⟨cfS, iS, kS, fS, st, cS, t1, t2, t3, t4, t5, t6, t7⟩ := S
    exact StaticIs.there (s := { Z with heap := P.U.heap }) ⟨cfS, iS, kS, fS, st, cS, t1, t2, t3, t4, t5, (fun q => by rw [q] at t6; cases t6), t7⟩ al rfl
  obtain ⟨v, B, X', ⟨⟨hv, E', V', q1, q2, q3, q4, q5, q6, q7, q8, q9, q10, q11⟩, hl, hc, hs⟩, st⟩ := New1.pays x D fV fC b A z (tab_of (moved hZ hw)) hfr hlo m meth c P g ig mk _ X hg hsize hdg hW hn ⟨r1, r2, rfl, hB, F1, F2, hA, hS, hz, l0, l2, hp⟩
  have al' : Z.vm.Alike B.U.vm := hZ.alike.trans X'.warmed.alike
  have hsz : E'.slots.size = D.slots.size := by
    obtain ⟨-, -, -, kB, w1, w2, w3⟩ := q1
    obtain ⟨kB', y1, y2⟩ := al'.2.2 _ _ e3
    rw [q2.2.1] at w1
    cases w1.symm.trans y1
    rw [w3, e5 i3, y2]
  refine ⟨v, B, X', ⟨_, ⟨hv, ?_, ⟨by omega, fun y cy hy hn' => q10 y cy (by simpa using hn') hy, fun y cy hy => ?_⟩, q11, ⟨E', _, q1.1, by rw [q2.2.1]; exact e2, by rw [q2.2.1]; exact e3, by rw [q2.1]; exact obV, fun _ => by rw [hsz]; exact e5 i3⟩,
    ⟨E', cfV, kV, iV, fV, q1.1, gV, stV, by rw [q2.1]; exact knV, by rw [q2.1]; exact obV, by rw [q2.2.1]; exact asV, q3⟩, ⟨E', cfC, kC, iC, fC, q1.1, gC, stC, by rw [q2.1]; exact knV, by rw [q2.1]; exact obV, by rw [q2.2.1]; exact asC, q4⟩,
    ⟨V', ⟨q5.1, State.isArrayOf_alike al'.symm q5.2.1, q5.2.2.1⟩, q6, by rw [← al'.findClass]; exact q7, q8, fun j hj => by have := q9 j hj; rwa [Nat.zero_add] at this⟩, fun O n d w F n1 n2 => ?_⟩, hl, hc, hs⟩, st⟩
  · intro y hy
    simp only [List.mem_cons, List.not_mem_nil, or_false] at hy
    rcases hy with rfl | rfl <;> rfl
  · by_cases q : y = x
    · subst q
      cases hD.symm.trans hy
      exact ⟨E', q1.1, q2.2.1, q2.1, hsz⟩
    · exact ⟨cy, q10 y cy q hy, rfl, rfl, rfl⟩
  · obtain ⟨D3, cf, k, i, f, g1, g2, g3, g4, g5, g6, g7⟩ := F
    cases hD.symm.trans g1
    simp only [RoadKit.slotOf, g2, gV, gC, Option.map_some, Option.getD_some] at n1 n2
    exact ⟨E', cf, k, i, f, q1.1, g2, g3, by rw [q2.1]; exact g4, by rw [q2.1]; exact g5, by rw [q2.2.1]; exact g6, by rw [q2.2.2 f.slot (by simp [n1, n2])]; exact g7⟩
end StrChars.Road
namespace StrChars.Road
open Jvm Sem ClassFile Op Lib Jvm.Stand Jvm.Free Jvm.Free.XT
/-- WHAT COMES BACK, the byte[] as a list of values -/
def QA (Z : State) (x : Addr) (zn : Int32) (cs : List Int32) (h : Heap) (v : Option Value) (h' : Heap) (L : List Loc) : Prop := v = none ∧ (∀ y ∈ L, y.base = x) ∧ RoadKit.Keep h h' [x] ∧ h'.size = h.size + 1 ∧ RoadKit.Exa Z h' x ST ∧ RoadKit.Fld Z h' x ST "value" "[B" (.ref h.size) ∧ RoadKit.Fld Z h' x ST "coder" "B" (.int 0) ∧
  (∃ kb, Z.vm.findClass "[B" = some kb ∧ RoadKit.Arv Z h' h.size kb .byte zn (cs.map fun c => .int (lo8 c)) (.int 0)) ∧
  ∀ (O n d : String) (w : Value), RoadKit.Fld Z h x O n d w → RoadKit.slotOf Z O n d ≠ RoadKit.slotOf Z ST "value" "[B" → RoadKit.slotOf Z O n d ≠ RoadKit.slotOf Z ST "coder" "B" → RoadKit.Fld Z h' x O n d w
/-- **new String(chars) AT A CALL, THE ARRAYS AS LISTS**: the char[] at b holds cs, not empty, no char above 255 -/
theorem backArv {p : Program} {l : Launch} {e : Env} {R : Room} {s : State} {args : Array Value} {below : List Frame} {len W : Nat} {Z : State} {a0 : Array Value} {h : Heap} (hZ : Z.Warmed39 s.vm) (hw : ∀ d ∈ words, d.before a0 Z = true) {kI : Nat} (wi : (Jvm.Cond.instantiable ST kI).before a0 Z = true)
    {x b : Addr} {k : ClassId} {zn z : Int32} {cs : List Int32} {dv v0 c0 : Value} (E : RoadKit.Exa Z h x ST) (V : RoadKit.Fld Z h x ST "value" "[B" v0) (C : RoadKit.Fld Z h x ST "coder" "B" c0) (K : RoadKit.Arv Z h b k .char zn (cs.map Value.int) dv) (S : RoadKit.Sta Z h ST "COMPACT_STRINGS" "Z" (.int z)) (hz : ¬ z = 0)
    (hlen : zn.toNatClampNeg = cs.length) (h0 : 0 < cs.length) (hbig : cs.length ≤ 536870912) (hall : ∀ c ∈ cs, ¬ 255 < c) (hfr : 4 ≤ R.frames) (hlo : W + 65 ≤ R.locals) :
    Back l R p e below s args New1.yN len W (fun P a => a = #[.ref x, .ref b] ∧ P.U.heap = h ∧ P.cells + 1 ≤ R.cells ∧ P.slots + cs.length ≤ R.slots)
      (fun P _ v B => ∃ L, QA Z x zn cs h v B.U.heap L ∧ B.locs = P.locs ++ L ∧ B.cells = P.cells + 1 ∧ B.slots = P.slots + cs.length) := by
  obtain ⟨A, K1, K2, K3, K4, K5, K6⟩ := K
  have e : A.slots.size = cs.length := K3.trans hlen
  have hat : ∀ (i : Nat) (hi : i < cs.length), A.slots[i]? = some (.int cs[i]) := fun i hi => by rw [K5 i (by omega)]; simp [List.getD_eq_getElem?_getD, hi]
  have hcv : ∀ (i : Nat) (hi : i < cs.length), cv A i = cs[i] := fun i hi => by unfold cv; rw [hat i hi]
  have hty : Typed .char A := fun i v hv => by
    have hi : i < A.slots.size := (Array.getElem?_eq_some_iff.mp hv).1
    have q := K5 i hi
    rw [hv] at q
    rw [Option.some.inj q]
    exact K6 i hi
  refine Back.mono (back hZ hw wi E V C K1 hty S hz (by omega) (by omega) (fun i hi => by rw [hcv i (by omega)]; exact hall _ (List.getElem_mem _)) hfr hlo) (fun P a hp => ⟨hp.1, hp.2.1, hp.2.2.1, by rw [e]; exact hp.2.2.2⟩) (fun P a v B hp hq => ?_)
  obtain ⟨L, ⟨q1, q2, q3, q4, q5, q6, q7, ⟨V', v1, v2, v3, v4, v5⟩, q9⟩, hl, hc, hs⟩ := hq
  refine ⟨L, ⟨q1, q2, q3, q4, q5, q6, q7, ⟨V'.cls, v3, V', v1, rfl, by rw [v4, e, hlen], K4, fun i hi => ?_, fun i hi => ?_⟩, q9⟩, hl, hc, by rw [hs, e]⟩
  · have hi' : i < cs.length := by omega
    rw [v5 i (by omega), hcv i hi']; simp [List.getD_eq_getElem?_getD, hi']
  · have hi' : i < cs.length := by omega
    simp only [List.getD_eq_getElem?_getD, List.getElem?_map, List.getElem?_eq_getElem hi', Option.map_some, Option.getD_some]
    exact fits_lo8 _
end StrChars.Road
namespace StrChars.Road
open Jvm Sem ClassFile Op Lib Jvm.Stand Jvm.Free Jvm.Free.XT
/-- WHAT COMES BACK, in the writer's own shape -/
def QV (Z : State) (x : Addr) (N : Int32) (bs : List Int32) (h : Heap) (n0 : Nat) (v : Option Value) (h' : Heap) (L : List Loc) : Prop := v = none ∧ RoadKit.Fr n0 L ∧ RoadKit.Keep h h' [x] ∧ RoadKit.Exa Z h' x ST ∧ RoadKit.Fld Z h' x ST "coder" "B" (.int 0) ∧
  ∃ (t : Addr) (kb : ClassId), n0 ≤ t ∧ h.size ≤ t ∧ ¬ t = x ∧ RoadKit.Fld Z h' x ST "value" "[B" (.ref t) ∧ RoadKit.Arv Z h' t kb .byte N (bs.map Value.int) (.int 0)
/-- **new String(chars) AT A CALL, FOR THE WRITER**: a char[] of n known ints, each 0 to 255 -/
theorem backV {p : Program} {l : Launch} {e : Env} {R : Room} {s : State} {args : Array Value} {below : List Frame} {len W : Nat} {Z : State} {a0 : Array Value} {h : Heap} (hZ : Z.Warmed39 s.vm) (hw : ∀ d ∈ words, d.before a0 Z = true) {kI : Nat} (wi : (Jvm.Cond.instantiable ST kI).before a0 Z = true)
    {x b : Addr} {kC : ClassId} {cs bs : List Int32} {d v0 c0 : Value} {z N : Int32} {n n0 : Nat} (hx0 : n0 ≤ x) (hh0 : n0 ≤ h.size) (E : RoadKit.Exa Z h x ST) (V : RoadKit.Fld Z h x ST "value" "[B" v0) (C : RoadKit.Fld Z h x ST "coder" "B" c0) (K : RoadKit.Arv Z h b kC .char N (cs.map Value.int) d) (S : RoadKit.Sta Z h ST "COMPACT_STRINGS" "Z" (.int z)) (hz : ¬ z = 0)
    (hn : cs.length = n) (hN : N = Int32.ofNat n) (l0 : 0 < n) (l2 : n ≤ 4000) (hp : ∀ c ∈ cs, ¬ c < 0 ∧ ¬ (255 : Int32) < c) (hb : bs = cs.map (fun c => c.toInt8.toInt32)) (hfr : 4 ≤ R.frames) (hlo : W + 65 ≤ R.locals) :
    Back l R p e below s args (⟨"java/lang/String", "<init>", "([C)V"⟩ : MethodName) len W (fun P a => a = #[.ref x, .ref b] ∧ P.U.heap = h ∧ P.cells + 1 ≤ R.cells ∧ P.slots + n ≤ R.slots)
      (fun P _ v B => ∃ L, QV Z x N bs h n0 v B.U.heap L ∧ B.locs = P.locs ++ L ∧ B.cells = P.cells + 1 ∧ B.slots = P.slots + n) := by
  subst hn hN hb
  refine Back.mono (backArv hZ hw wi E V C K S hz (n32 (by omega)) l0 (by omega) (fun c hc => (hp c hc).2) hfr hlo) (fun P a hp => hp) (fun P a v B hp hq => ?_)
  obtain ⟨L, ⟨q1, q2, q3, q4, q5, q6, q7, ⟨kb, v1, v2⟩, q9⟩, hl, hc, hs⟩ := hq
  exact ⟨L, ⟨q1, fun y hy => by rw [q2 y hy]; exact hx0, q3, q5, q7, h.size, kb, hh0, Nat.le_refl _, Nat.ne_of_gt E.lt, q6, by rw [List.map_map]; exact v2⟩, hl, hc, hs⟩
end StrChars.Road
end Jvm.Pilot.@@N@@
namespace Jvm.Pilot.@@N@@
open Jvm Jvm.ClassFile Sem Op Lib Jvm.Free Jvm.Stand Jvm.LawKit Jvm.RoadKit Bundle Jvm.Pilot.@@N@@.Jvm.D
theorem own_d {c : ByteArray} {L : List (Nat × Instr × Nat)} {pc : Nat} {ins : Instr × Nat} (h : ∀ q ∈ L, decode c q.1 = .ok q.2) (i : Nat) (e : L[i]? = some (pc, ins)) : decode c pc = .ok ins := by
  have q := h (pc, ins) (List.mem_of_getElem? e)
  dsimp only at q
  exact q
def y_0 : MethodName := (⟨"java/lang/String", "<init>", "([CIILjava/lang/Void;)V"⟩ : MethodName)
def y_1 : MethodName := (⟨"java/lang/String", "<init>", "([C)V"⟩ : MethodName)
def y_2 : MethodName := (⟨"com/example/stateful_search/statefulsearch/format/ExcerptsAbbreviatePinLaw", "ch", "(JJJI)C"⟩ : MethodName)
def y_3 : MethodName := (⟨"com/example/stateful_search/statefulsearch/format/ExcerptsAbbreviatePinLaw", "put", "([CIJJJI)V"⟩ : MethodName)
def y_4 : MethodName := (⟨"com/example/stateful_search/statefulsearch/format/ExcerptsAbbreviatePinLaw", "fill", "([CJJJI)V"⟩ : MethodName)
def y_5 : MethodName := (⟨"com/example/stateful_search/statefulsearch/format/ExcerptsAbbreviatePinLaw", "mk", "(I)[C"⟩ : MethodName)
def y_6 : MethodName := (⟨"java/lang/String", "coder", "()B"⟩ : MethodName)
def y_7 : MethodName := (⟨"java/lang/String", "isLatin1", "()Z"⟩ : MethodName)
def y_8 : MethodName := (⟨"java/lang/String", "length", "()I"⟩ : MethodName)
def y_9 : MethodName := (⟨"java/lang/StringUTF16", "getChar", "([BI)C"⟩ : MethodName)
def y_10 : MethodName := (⟨"java/lang/StringUTF16", "newBytesLength", "(I)I"⟩ : MethodName)
def y_11 : MethodName := (⟨"java/lang/StringUTF16", "newBytesFor", "(I)[B"⟩ : MethodName)
def y_12 : MethodName := (⟨"java/lang/StringUTF16", "putChar", "([BII)V"⟩ : MethodName)
def y_13 : MethodName := (⟨"java/lang/StringUTF16", "compress", "([CI[BII)I"⟩ : MethodName)
def y_14 : MethodName := (⟨"java/lang/StringUTF16", "toBytes", "([CII)[B"⟩ : MethodName)
def y_15 : MethodName := (⟨"java/lang/StringUTF16", "compress", "([CII)[B"⟩ : MethodName)
def y_16 : MethodName := (⟨"java/lang/StringUTF16", "coderFromArrayLen", "([BI)B"⟩ : MethodName)
def y_17 : MethodName := (⟨"com/example/stateful_search/statefulsearch/format/Excerpts", "abbreviate", "(Ljava/lang/String;)Ljava/lang/String;"⟩ : MethodName)
def y_18 : MethodName := (⟨"jdk/internal/util/Preconditions", "checkFromToIndex", "(IIILjava/util/function/BiFunction;)I"⟩ : MethodName)
def y_19 : MethodName := (⟨"java/lang/String", "checkBoundsBeginEnd", "(III)V"⟩ : MethodName)
def y_20 : MethodName := (⟨"jdk/internal/util/Preconditions", "checkFromIndexSize", "(IIILjava/util/function/BiFunction;)I"⟩ : MethodName)
def y_21 : MethodName := (⟨"java/lang/String", "checkBoundsOffCount", "(III)I"⟩ : MethodName)
def y_22 : MethodName := (⟨"java/lang/StringUTF16", "length", "([B)I"⟩ : MethodName)
def y_23 : MethodName := (⟨"java/lang/StringUTF16", "checkBoundsOffCount", "(II[B)V"⟩ : MethodName)
def y_24 : MethodName := (⟨"java/lang/StringUTF16", "compress", "([BI[BII)I"⟩ : MethodName)
def y_25 : MethodName := (⟨"java/util/Arrays", "checkLength", "(II)V"⟩ : MethodName)
def y_26 : MethodName := (⟨"java/lang/Math", "min", "(II)I"⟩ : MethodName)
def y_27 : MethodName := (⟨"java/util/Arrays", "copyOfRangeByte", "([BII)[B"⟩ : MethodName)
def y_28 : MethodName := (⟨"java/util/Arrays", "copyOfRange", "([BII)[B"⟩ : MethodName)
def y_29 : MethodName := (⟨"java/lang/StringUTF16", "compress", "([BII)[B"⟩ : MethodName)
def y_30 : MethodName := (⟨"java/lang/String", "<init>", "([BB)V"⟩ : MethodName)
def y_31 : MethodName := (⟨"java/lang/StringUTF16", "newString", "([BII)Ljava/lang/String;"⟩ : MethodName)
def y_32 : MethodName := (⟨"java/lang/String", "substring", "(II)Ljava/lang/String;"⟩ : MethodName)
def y_33 : MethodName := (⟨"java/lang/AbstractStringBuilder", "<init>", "(I)V"⟩ : MethodName)
def y_34 : MethodName := (⟨"java/lang/StringBuilder", "<init>", "()V"⟩ : MethodName)
def y_35 : MethodName := (⟨"java/lang/AbstractStringBuilder", "isLatin1", "()Z"⟩ : MethodName)
def y_36 : MethodName := (⟨"java/util/Arrays", "copyOf", "([BI)[B"⟩ : MethodName)
def y_37 : MethodName := (⟨"java/lang/Math", "max", "(II)I"⟩ : MethodName)
def y_38 : MethodName := (⟨"jdk/internal/util/ArraysSupport", "newLength", "(III)I"⟩ : MethodName)
def y_39 : MethodName := (⟨"java/lang/AbstractStringBuilder", "newCapacity", "(I)I"⟩ : MethodName)
def y_40 : MethodName := (⟨"java/lang/AbstractStringBuilder", "ensureCapacityInternal", "(I)V"⟩ : MethodName)
def y_41 : MethodName := (⟨"java/lang/StringUTF16", "inflate", "([BI[BII)V"⟩ : MethodName)
def y_42 : MethodName := (⟨"java/lang/StringLatin1", "inflate", "([BI[BII)V"⟩ : MethodName)
def y_43 : MethodName := (⟨"java/lang/String", "getBytes", "([BIB)V"⟩ : MethodName)
def y_44 : MethodName := (⟨"java/lang/AbstractStringBuilder", "inflate", "()V"⟩ : MethodName)
def y_45 : MethodName := (⟨"java/lang/AbstractStringBuilder", "inflateIfNeededFor", "(Ljava/lang/String;)V"⟩ : MethodName)
def y_46 : MethodName := (⟨"java/lang/AbstractStringBuilder", "putStringAt", "(ILjava/lang/String;)V"⟩ : MethodName)
def y_47 : MethodName := (⟨"java/lang/AbstractStringBuilder", "append", "(Ljava/lang/String;)Ljava/lang/AbstractStringBuilder;"⟩ : MethodName)
def y_48 : MethodName := (⟨"java/lang/StringBuilder", "append", "(Ljava/lang/String;)Ljava/lang/StringBuilder;"⟩ : MethodName)
def y_49 : MethodName := (⟨"java/lang/AbstractStringBuilder", "getValue", "()[B"⟩ : MethodName)
def y_50 : MethodName := (⟨"java/lang/AbstractStringBuilder", "length", "()I"⟩ : MethodName)
def y_51 : MethodName := (⟨"java/lang/StringBuilder", "length", "()I"⟩ : MethodName)
def y_52 : MethodName := (⟨"java/lang/String", "<init>", "(Ljava/lang/AbstractStringBuilder;Ljava/lang/Void;)V"⟩ : MethodName)
def y_53 : MethodName := (⟨"java/lang/String", "<init>", "(Ljava/lang/StringBuilder;)V"⟩ : MethodName)
def y_54 : MethodName := (⟨"java/lang/StringBuilder", "toString", "()Ljava/lang/String;"⟩ : MethodName)
def y_55 : MethodName := (⟨"java/lang/StringLatin1", "equals", "([B[B)Z"⟩ : MethodName)
def y_56 : MethodName := (⟨"java/lang/String", "equals", "(Ljava/lang/Object;)Z"⟩ : MethodName)
def r_0 : Room := ({ frames := 1, cells := 2, slots := 4, locals := 12 } : Room)
def r_1 : Room := ({ frames := 2, cells := 2, slots := 4, locals := 29 } : Room)
def r_2 : Room := ({ frames := 0, cells := 0, slots := 0, locals := 0 } : Room)
def r_3 : Room := ({ frames := 1, cells := 0, slots := 0, locals := 24 } : Room)
def r_4 : Room := ({ frames := 2, cells := 0, slots := 0, locals := 44 } : Room)
def r_5 : Room := ({ frames := 0, cells := 1, slots := 45, locals := 0 } : Room)
def r_6 : Room := ({ frames := 1, cells := 0, slots := 0, locals := 13 } : Room)
def r_7 : Room := ({ frames := 1, cells := 1, slots := 200, locals := 12 } : Room)
def r_8 : Room := ({ frames := 2, cells := 1, slots := 200, locals := 24 } : Room)
def r_9 : Room := ({ frames := 3, cells := 2, slots := 245, locals := 40 } : Room)
def r_10 : Room := ({ frames := 4, cells := 2, slots := 245, locals := 57 } : Room)
def r_11 : Room := ({ frames := 5, cells := 2, slots := 245, locals := 74 } : Room)
def r_12 : Room := ({ frames := 2, cells := 0, slots := 0, locals := 25 } : Room)
def r_13 : Room := ({ frames := 1, cells := 0, slots := 0, locals := 15 } : Room)
def r_14 : Room := ({ frames := 2, cells := 0, slots := 0, locals := 29 } : Room)
def r_15 : Room := ({ frames := 3, cells := 0, slots := 0, locals := 43 } : Room)
def r_16 : Room := ({ frames := 1, cells := 1, slots := 400, locals := 18 } : Room)
def r_17 : Room := ({ frames := 2, cells := 1, slots := 400, locals := 34 } : Room)
def r_18 : Room := ({ frames := 4, cells := 2, slots := 440, locals := 61 } : Room)
def r_19 : Room := ({ frames := 1, cells := 0, slots := 0, locals := 12 } : Room)
def r_20 : Room := ({ frames := 5, cells := 3, slots := 444, locals := 78 } : Room)
def r_21 : Room := ({ frames := 6, cells := 3, slots := 444, locals := 94 } : Room)
def r_22 : Room := ({ frames := 1, cells := 1, slots := 16, locals := 12 } : Room)
def r_23 : Room := ({ frames := 2, cells := 1, slots := 16, locals := 25 } : Room)
def r_24 : Room := ({ frames := 1, cells := 0, slots := 0, locals := 14 } : Room)
def r_25 : Room := ({ frames := 3, cells := 1, slots := 400, locals := 48 } : Room)
def r_26 : Room := ({ frames := 4, cells := 0, slots := 0, locals := 60 } : Room)
def r_27 : Room := ({ frames := 1, cells := 0, slots := 0, locals := 18 } : Room)
def r_28 : Room := ({ frames := 5, cells := 0, slots := 0, locals := 76 } : Room)
def r_29 : Room := ({ frames := 5, cells := 1, slots := 200, locals := 76 } : Room)
def r_30 : Room := ({ frames := 6, cells := 1, slots := 200, locals := 89 } : Room)
def r_31 : Room := ({ frames := 7, cells := 1, slots := 200, locals := 102 } : Room)
def r_32 : Room := ({ frames := 8, cells := 2, slots := 600, locals := 116 } : Room)
def r_33 : Room := ({ frames := 9, cells := 2, slots := 600, locals := 130 } : Room)
def r_34 : Room := ({ frames := 6, cells := 0, slots := 0, locals := 91 } : Room)
def r_35 : Room := ({ frames := 7, cells := 1, slots := 400, locals := 105 } : Room)
def r_36 : Room := ({ frames := 8, cells := 1, slots := 400, locals := 119 } : Room)
def r_37 : Room := ({ frames := 3, cells := 1, slots := 400, locals := 49 } : Room)
def r_38 : Room := ({ frames := 4, cells := 1, slots := 400, locals := 65 } : Room)
def r_39 : Room := ({ frames := 5, cells := 2, slots := 404, locals := 79 } : Room)
def r_40 : Room := ({ frames := 10, cells := 12, slots := 1884, locals := 143 } : Room)
set_option maxRecDepth 65536
set_option maxHeartbeats 20000000
theorem own_W {a0 : Array Value} {Z : State} (hw : ∀ d ∈ tables_1, d.before a0 Z = true) (i : Nat) {d : Jvm.Cond} (h : tables_1[i]? = some d) : d.before a0 Z = true := hw d (List.mem_of_getElem? h)
def own_go (p : Program) (e : Env) (below : List Frame) (A B : State) : Prop := ∀ τ, Steps p.tables e below B τ → Steps p.tables e below A τ

theorem own_and255 (x : Int32) : ¬ (x &&& (255 : Int32)) < 0 ∧ ¬ (255 : Int32) < (x &&& (255 : Int32)) := by
  have h := c_and x (255 : Int32) (by decide)
  have e : (255 : Int32).toInt = 255 := by decide
  have e0 : (0 : Int32).toInt = 0 := by decide
  rw [Int32.lt_iff_toInt_lt, Int32.lt_iff_toInt_lt]; omega
theorem own_nar (x : Int32) (h : ¬ x < 0 ∧ ¬ (255 : Int32) < x) : x.toUInt32.toUInt16.toUInt32.toInt32 = x := by
  have q := c_i2c x
  have e : (255 : Int32).toInt = 255 := by decide
  have e0 : (0 : Int32).toInt = 0 := by decide
  rw [Int32.lt_iff_toInt_lt, Int32.lt_iff_toInt_lt] at h
  apply Int32.toInt_inj.mp
  omega
theorem own_narI (x : Int32) (h : ¬ x < 0 ∧ ¬ (255 : Int32) < x) : ¬ nar .char x < 0 ∧ ¬ (255 : Int32) < nar .char x := by
  have e : nar .char x = x := own_nar x h
  rw [e]; exact h
theorem own_i2c (x : Int32) (h : ¬ x < 0 ∧ ¬ (255 : Int32) < x) : ¬ x.toUInt32.toUInt16.toUInt32.toInt32 < 0 ∧ ¬ (255 : Int32) < x.toUInt32.toUInt16.toUInt32.toInt32 := by
  rw [own_nar x h]; exact h
theorem own_up (cs : List Int32) (h : ∀ c ∈ cs, ¬ c < 0 ∧ ¬ (255 : Int32) < c) : ∀ c ∈ cs, ¬ c < 0 ∧ ¬ (65535 : Int32) < c := fun c hc => ⟨(h c hc).1, fun q => (h c hc).2 (by
  rw [Int32.lt_iff_toInt_lt] at q ⊢
  have e1 : (65535 : Int32).toInt = 65535 := by decide
  have e2 : (255 : Int32).toInt = 255 := by decide
  omega)⟩
theorem own_cat {w : Value} (h : w.isRef = true) : w.category = 1 := by rcases ref_cases h with rfl | ⟨a, rfl⟩ <;> rfl
theorem own_nrw {w : Value} {t : FieldType} (h : w.isRef = true) (ht : t.isReference = true) : narrow t w = w := by
  rcases ref_cases h with rfl | ⟨a, rfl⟩ <;> cases t <;> first | rfl | cases ht
theorem own_fit {w : Value} {t : FieldType} (h : w.isRef = true) (ht : t.isReference = true) : fits t w = true := by
  rcases ref_cases h with rfl | ⟨a, rfl⟩ <;> cases t <;> first | rfl | cases ht
def OptStr (Z : State) (h : Heap) (w : Value) : Prop := w = .null ∨ ∃ a, w = .ref a ∧ Exa Z h a "java/lang/String"
theorem OptStr.ref {Z : State} {h : Heap} {w : Value} (F : OptStr Z h w) : w.isRef = true := by rcases F with rfl | ⟨a, rfl, -⟩ <;> rfl
theorem OptStr.ext {Z : State} {h h' : Heap} {w : Value} (E : Ext h h') (F : OptStr Z h w) : OptStr Z h' w := F.imp id fun ⟨a, q, r⟩ => ⟨a, q, r.ext E⟩
theorem OptStr.wr {Z : State} {h h' : Heap} {w v : Value} {b : Addr} {sl : Nat} (W : Wr h h' b sl v) (F : OptStr Z h w) : OptStr Z h' w := F.imp id fun ⟨a, q, r⟩ => ⟨a, q, r.wr W⟩
theorem OptStr.keep {Z : State} {h h' : Heap} {w : Value} {ws : List Addr} (F : OptStr Z h w) (K : Keep h h' ws) : OptStr Z h' w := F.imp id fun ⟨a, q, r⟩ => ⟨a, q, r.keep K⟩
theorem own_safeStr {Z : State} {EL : List (String × Nat)} {vm : Vm} {h : Heap} {x : Addr} (hal : Z.vm.Alike vm) (E : Exa Z h x "java/lang/String") (F : Fld Z h x "java/lang/String" "value" "[B" .null) : Safe Z EL vm h x := fun B => by
  obtain ⟨cell, k, e1, e2, e3, -, -⟩ := E
  obtain ⟨cell', cf, kf, i, f, f1, f2, f3, -, -, -, f7⟩ := F
  cases e1.symm.trans f1
  obtain ⟨p, -, u, a, -, q, -, G, rfl | rfl⟩ := B
  · cases (show h[q.sa]? = some q.sC from G.ha).symm.trans e1
    obtain ⟨cS, ⟨⟨-, -, -, ⟨c1, k1, i1, g1, -⟩, -, -, -, v1, -⟩, -⟩, -⟩ := G
    obtain ⟨k', g0⟩ := ff_back (Z := Z) (U := Wst Z vm h) hal g1
    have g2 : Z.fieldFound? "java/lang/String" "value" "[B" = _ := g0
    rw [f2] at g2
    simp only [Option.some.injEq, Prod.mk.injEq] at g2
    rw [← g2.2.2.2, f7] at v1
    cases v1
  · cases (show h[q.sd]? = some q.SA from G.hd).symm.trans e1
    obtain ⟨cS, -, -, f, -⟩ := G
    have f' : vm.findClass "[B" = some q.SA.cls := f
    rw [hal.findClass] at f'
    obtain ⟨k1, q1, q2⟩ := Vm.findClass_spec f'
    obtain ⟨k2, q3, q4⟩ := Vm.findClass_spec e2
    cases q1.symm.trans q3
    exact absurd (q2.symm.trans q4) (by decide)
theorem own_ne_arv {Z : State} {h : Heap} {a b : Addr} {C : String} {a0 : Array Value} {kk : Nat} {k : ClassId} {ty : FieldType} {z : Int32} {vs : List Value} {d : Value} (F : Exa Z h a C) (wi : (Cond.instantiable C kk).before a0 Z = true) (G : Arv Z h b k ty z vs d) : a ≠ b := by
  obtain ⟨c, A, -⟩ := G
  exact ne_arr F wi A
theorem own_narE (x : Int32) (h : ¬ x < 0 ∧ ¬ (255 : Int32) < x) : nar .char x = x := own_nar x h
theorem own_declares {Z : State} {a0 : Array Value} {y : MethodName} {b : ByteArray} {ml : Nat} {r : Option FieldType} (w1 : (Cond.instanceMethod y).before a0 Z = true) (w2 : (Cond.code y b ml r).before a0 Z = true) : (Cond.declares y).before a0 Z = true := by
  obtain ⟨m, meth, h1, h2, h3, -⟩ := Cond.instanceMethod_spec w1
  obtain ⟨meth', c, g1, -, -, -, -, -, -, g8⟩ := Cond.code_spec h1 w2
  cases h2.symm.trans g1
  simp [Cond.before, Cond.holds, Cond.value, h1, h2, h3, g8]
theorem own_notFace {args : Array Value} {s : State} {K : String} {y z : MethodName} (hsel : (Cond.selects K z z).before args s = true) (hc : z.cls = y.cls) : NotFace s y := fun r0 h0 => by
  obtain ⟨c2, r2, m2, -, -, q3, -, kP, hkP, hkPi⟩ := Cond.selects_spec hsel
  have f1 := findClass_of_methodNamed h0
  have f2 := findClass_of_methodNamed q3
  rw [hc] at f2
  have e := Option.some.inj (f1.symm.trans f2)
  exact ⟨kP, by rw [e]; exact hkP, hkPi⟩
theorem own_sameM {Z : State} {a0 : Array Value} {y : MethodName} {K n d : String} (w1 : (Cond.instanceMethod y).before a0 Z = true) (hC : y.cls ≠ "java/lang/invoke/MethodHandle" ∧ y.cls ≠ "java/lang/invoke/VarHandle") (w2 : (Cond.selects K ⟨y.cls, n, d⟩ ⟨y.cls, n, d⟩).before a0 Z = true) : (Cond.sameMethod y.cls y.cls y.name y.desc).before a0 Z = true := by
  obtain ⟨m, meth, h1, h2, h3, -⟩ := Cond.instanceMethod_spec w1
  obtain ⟨c2, r2, m2, -, -, q3, -, kP, hkP, hkPi⟩ := Cond.selects_spec w2
  have f1 := findClass_of_methodNamed h1
  have f0 := findClass_of_methodNamed q3
  have f2 : Z.vm.findClass y.cls = some m2.cls := f0
  have g := State.methodFound?_of_named h1 hC
  have h1' : Z.methodNamed? ⟨y.cls, y.name, y.desc⟩ = some m := h1
  simp [Cond.before, Cond.holds, Cond.value, f2, g, h1', hkP, hkPi]
theorem own_ofn {a : Nat} (h : a < 2 ^ 31) : (Int32.ofNat a).toNatClampNeg = a := by
  have := len_toInt h
  show (Nat.toInt32 a).toNatClampNeg = a
  simp only [Int32.toNatClampNeg, this]; rfl
theorem own_nn {a : Nat} (h : a < 2 ^ 31) : ¬ Int32.ofNat a < 0 := by
  have := len_toInt h
  have e0 : (0 : Int32).toInt = 0 := by decide
  show ¬ Nat.toInt32 a < 0
  rw [Int32.lt_iff_toInt_lt, this, e0]; omega
theorem own_z31 : ((0 : Int32) &&& 31) = 0 := by decide
theorem own_shl0 (p : Int32) : (p <<< ((0 : Int32) &&& 31)) = p := by rw [own_z31]; simp
theorem own_shr0 (p : Int32) : (p >>> ((0 : Int32) &&& 31)) = p := by rw [own_z31]; simp
theorem own_sub0 (p : Int32) : (p - (0 : Int32)) = p := by simp
theorem own_ltN {a b : Nat} (ha : a < 2 ^ 31) (hb : b < 2 ^ 31) : Int32.ofNat a < Int32.ofNat b ↔ a < b := by
  have q1 : (Nat.toInt32 a).toInt = a := len_toInt ha
  have q2 : (Nat.toInt32 b).toInt = b := len_toInt hb
  show Nat.toInt32 a < Nat.toInt32 b ↔ _
  rw [Int32.lt_iff_toInt_lt, q1, q2]; omega
def own_b (c k : Int32) : Int32 := ((c >>> (k &&& 31)).toInt8.toInt32).toInt8.toInt32
theorem own_narR (x : Int32) : ¬ nar .char x < 0 ∧ ¬ (65535 : Int32) < nar .char x := by
  have q := c_i2c x
  have e : (65535 : Int32).toInt = 65535 := by decide
  have e0 : (0 : Int32).toInt = 0 := by decide
  show ¬ x.toUInt32.toUInt16.toUInt32.toInt32 < 0 ∧ ¬ (65535 : Int32) < x.toUInt32.toUInt16.toUInt32.toInt32
  rw [Int32.lt_iff_toInt_lt, Int32.lt_iff_toInt_lt]; omega
theorem own_narU {x : Int32} (h : ¬ x < 0 ∧ ¬ (65535 : Int32) < x) : nar .char x = x := by
  have q := c_i2c x
  have e : (65535 : Int32).toInt = 65535 := by decide
  have e0 : (0 : Int32).toInt = 0 := by decide
  rw [Int32.lt_iff_toInt_lt, Int32.lt_iff_toInt_lt] at h
  show x.toUInt32.toUInt16.toUInt32.toInt32 = x
  apply Int32.toInt_inj.mp
  omega
theorem own_gc {c : Int32} (h : ¬ c < 0 ∧ ¬ (65535 : Int32) < c) : nar .char ((((((own_b c 0) &&& (255 : Int32)) <<< ((0 : Int32) &&& 31)) ||| (((own_b c 8) &&& (255 : Int32)) <<< ((8 : Int32) &&& 31))).toUInt32.toUInt16.toUInt32.toInt32)) = c := by
  have e : (65535 : Int32).toInt = 65535 := by decide
  have e0 : (0 : Int32).toInt = 0 := by decide
  rw [Int32.lt_iff_toInt_lt, Int32.lt_iff_toInt_lt] at h
  have a1 := c_ishr c 0 0 (by decide)
  have a2 := c_i2b (c >>> ((0 : Int32) &&& 31))
  have a3 := c_i2b ((c >>> ((0 : Int32) &&& 31)).toInt8.toInt32)
  have a4 := c_mask (own_b c 0) 255 8 (by decide) (by decide)
  have a5 := c_ishl ((own_b c 0) &&& (255 : Int32)) 0 0 (by decide)
  have b1 := c_ishr c 8 8 (by decide)
  have b2 := c_i2b (c >>> ((8 : Int32) &&& 31))
  have b3 := c_i2b ((c >>> ((8 : Int32) &&& 31)).toInt8.toInt32)
  have b4 := c_mask (own_b c 8) 255 8 (by decide) (by decide)
  have b5 := c_ishl ((own_b c 8) &&& (255 : Int32)) 8 8 (by decide)
  have f0 : own_b c 0 = ((c >>> ((0 : Int32) &&& 31)).toInt8.toInt32).toInt8.toInt32 := rfl
  have f8 : own_b c 8 = ((c >>> ((8 : Int32) &&& 31)).toInt8.toInt32).toInt8.toInt32 := rfl
  rw [f0] at a4; rw [f8] at b4
  rw [f0] at a5; rw [f8] at b5
  rw [f0, f8]
  generalize ((c >>> ((0 : Int32) &&& 31)).toInt8.toInt32).toInt8.toInt32 = A at *
  generalize ((c >>> ((8 : Int32) &&& 31)).toInt8.toInt32).toInt8.toInt32 = B at *
  have e8 : ((2 ^ 8 : Nat) : Int) = 256 := by decide
  have e08 : ((2 ^ 0 : Nat) : Int) = 1 := by decide
  rw [e8] at a4 b1 b4 b5
  rw [e08] at a1 a5
  have r1 := (A &&& 255).toInt_lt
  have r2 := (B &&& 255).toInt_lt
  have r3 := ((A &&& 255) <<< ((0 : Int32) &&& 31)).toInt_lt
  have r4 := ((A &&& 255) <<< ((0 : Int32) &&& 31)).le_toInt
  have r5 := ((B &&& 255) <<< ((8 : Int32) &&& 31)).toInt_lt
  have r6 := ((B &&& 255) <<< ((8 : Int32) &&& 31)).le_toInt
  have o := c_or' ((A &&& 255) <<< ((0 : Int32) &&& 31)) ((B &&& 255) <<< ((8 : Int32) &&& 31)) 8 (by decide) 256 (by decide) (by omega) (by omega) (by omega)
  have q3 := c_i2c (((A &&& 255) <<< ((0 : Int32) &&& 31)) ||| ((B &&& 255) <<< ((8 : Int32) &&& 31)))
  have q4 := c_i2c ((((A &&& 255) <<< ((0 : Int32) &&& 31)) ||| ((B &&& 255) <<< ((8 : Int32) &&& 31))).toUInt32.toUInt16.toUInt32.toInt32)
  show (((((A &&& 255) <<< ((0 : Int32) &&& 31)) ||| ((B &&& 255) <<< ((8 : Int32) &&& 31))).toUInt32.toUInt16.toUInt32.toInt32)).toUInt32.toUInt16.toUInt32.toInt32 = c
  apply Int32.toInt_inj.mp
  omega
def own_u16 (vs : List Value) (cs : List Int32) : Prop := ∀ i, i < cs.length → vs.getD (2 * i) (.int 0) = .int (own_b (cs.getD i 0) 0) ∧ vs.getD (2 * i + 1) (.int 0) = .int (own_b (cs.getD i 0) 8)
theorem own_getmem {cs : List Int32} {P : Int32 → Prop} (h : ∀ c ∈ cs, P c) {i : Nat} (hi : i < cs.length) : P (cs.getD i 0) := by
  rw [List.getD_eq_getElem?_getD, List.getElem?_eq_getElem hi]; exact h _ (List.getElem_mem hi)
def UStr (Z : State) (h : Heap) (x : Addr) (cs : List Int32) : Prop := ∃ (t : Addr) (kb : ClassId), Exa Z h x "java/lang/String" ∧ Fld Z h x "java/lang/String" "value" "[B" (.ref t) ∧
  ((Fld Z h x "java/lang/String" "coder" "B" (.int 0) ∧ Arv Z h t kb .byte (Int32.ofNat (cs).length) (((cs).map (fun c : Int32 => c.toInt8.toInt32)).map Value.int) (.int 0) ∧ ∀ c ∈ cs, ¬ c < 0 ∧ ¬ (255 : Int32) < c) ∨
   (Fld Z h x "java/lang/String" "coder" "B" (.int 1) ∧ ∃ vs, Arv Z h t kb .byte (Int32.ofNat (2 * (cs).length)) vs (.int 0) ∧ own_u16 vs cs ∧ ∀ c ∈ cs, ¬ c < 0 ∧ ¬ (65535 : Int32) < c))
theorem UStr.keep {Z : State} {h h' : Heap} {x : Addr} {cs : List Int32} (U : UStr Z h x cs) (K : Keep h h' []) : UStr Z h' x cs := by
  obtain ⟨t, kb, E, F, H⟩ := U
  refine ⟨t, kb, E.keep K, F.keep K nin0, ?_⟩
  rcases H with ⟨a, b, c⟩ | ⟨a, vs, b, c⟩
  · exact Or.inl ⟨a.keep K nin0, b.keep K nin0, c⟩
  · exact Or.inr ⟨a.keep K nin0, vs, b.keep K nin0, c⟩
theorem UStr.ext {Z : State} {h h' : Heap} {x : Addr} {cs : List Int32} (U : UStr Z h x cs) (E : Ext h h') : UStr Z h' x cs := U.keep ((Keep.refl _ _).ext E)
theorem UStr.exa {Z : State} {h : Heap} {x : Addr} {cs : List Int32} (U : UStr Z h x cs) : Exa Z h x "java/lang/String" := by obtain ⟨t, kb, E, -⟩ := U; exact E
theorem own_half {n : Nat} (h : n < 100) : ((Int32.ofNat (2 * n)) >>> ((1 : Int32) &&& 31)) = Int32.ofNat n := by
  have k : ∀ x : Fin 100, ((Int32.ofNat (2 * x.val)) >>> ((1 : Int32) &&& 31)) = Int32.ofNat x.val := by decide +kernel
  exact k ⟨n, h⟩
theorem own_dbl {n : Nat} (h : n < 100) : ((Int32.ofNat n) <<< ((1 : Int32) &&& 31)) = Int32.ofNat (2 * n) := by
  have k : ∀ x : Fin 100, ((Int32.ofNat x.val) <<< ((1 : Int32) &&& 31)) = Int32.ofNat (2 * x.val) := by decide +kernel
  exact k ⟨n, h⟩
theorem own_dbl1 {n : Nat} (h : n < 100) : ((Int32.ofNat (2 * n)) + (1 : Int32)) = Int32.ofNat (2 * n + 1) := by
  have k : ∀ x : Fin 100, ((Int32.ofNat (2 * x.val)) + (1 : Int32)) = Int32.ofNat (2 * x.val + 1) := by decide +kernel
  exact k ⟨n, h⟩
theorem own_suc {n : Nat} (h : n < 200) : ((Int32.ofNat n) + (1 : Int32)) = Int32.ofNat (n + 1) := by
  have k : ∀ x : Fin 200, ((Int32.ofNat x.val) + (1 : Int32)) = Int32.ofNat (x.val + 1) := by decide +kernel
  exact k ⟨n, h⟩
theorem own_ltM {n : Nat} (h : n < 100) : Int32.ofNat n < (1073741823 : Int32) := by
  have k : ∀ x : Fin 100, Int32.ofNat x.val < (1073741823 : Int32) := by decide +kernel
  exact k ⟨n, h⟩
theorem own_cfl {n : Nat} (h : n < 100) (h1 : 1 ≤ n) : (((((Int32.ofNat n - Int32.ofNat (2 * n)).toUInt32 >>> ((31 : Int32) &&& 31).toUInt32).toInt32).toInt8.toInt32)) = (1 : Int32) := by
  have k : ∀ x : Fin 100, 1 ≤ x.val → (((((Int32.ofNat x.val - Int32.ofNat (2 * x.val)).toUInt32 >>> ((31 : Int32) &&& 31).toUInt32).toInt32).toInt8.toInt32)) = (1 : Int32) := by decide +kernel
  exact k ⟨n, h⟩ h1
theorem own_nej {j n : Nat} (hj : j < n) (hn : n < 2 ^ 31) : ¬ Int32.ofNat j = Int32.ofNat n := fun q => by
  have := congrArg Int32.toNatClampNeg q
  rw [own_ofn (by omega), own_ofn hn] at this; omega
theorem own_mget (cs : List Int32) (i : Nat) : (cs.map Value.int).getD i (.int 0) = .int (cs.getD i 0) := by
  simp only [List.getD_eq_getElem?_getD, List.getElem?_map]
  cases cs[i]? <;> rfl
def own_ch (a b c : Int64) (i : Int32) : Int32 := nar .char (((((if (i % (3 : Int32)) = (0 : Int32) then a else if (i % (3 : Int32)) = (1 : Int32) then b else c).toUInt64 >>> ((((i / (3 : Int32)) &&& (3 : Int32)) * (16 : Int32)) &&& 0x3f).toInt64.toUInt64).toInt64 ^^^ ((i * (40503 : Int32)).toInt64)).toInt32).toUInt32.toUInt16.toUInt32.toInt32)
def own_put (a b c : Int64) (n lim i : Nat) (vs : List Value) : List Value := if Int32.ofNat i < Int32.ofNat n then (if Int32.ofNat i < Int32.ofNat lim then vs.set i (.int (nar .char (own_ch a b c (Int32.ofNat i)))) else vs) else vs
def own_fill (a b c : Int64) (n lim : Nat) : Nat → List Value → List Value
  | 0, vs => vs
  | i + 1, vs => own_put a b c n lim i (own_fill a b c n lim i vs)
theorem own_put_len (a b c : Int64) (n lim i : Nat) (vs : List Value) : (own_put a b c n lim i vs).length = vs.length := by
  unfold own_put; split
  · split
    · simp
    · rfl
  · rfl
theorem own_fill_len (a b c : Int64) (n lim : Nat) : ∀ (k : Nat) (vs : List Value), (own_fill a b c n lim k vs).length = vs.length
  | 0, vs => rfl
  | k + 1, vs => by rw [own_fill, own_put_len, own_fill_len a b c n lim k vs]
def own_txt (a b c : Int64) (m : Nat) : List Int32 := (List.range m).map (fun i => own_ch a b c (Int32.ofNat i))
theorem own_fill_get (a b c : Int64) (n lim : Nat) (hn : n < 2 ^ 31) (hlim : lim < 2 ^ 31) : ∀ (k : Nat) (vs : List Value) (j : Nat), k < 2 ^ 31 → k ≤ vs.length → (own_fill a b c n lim k vs).getD j (.int 0) = if j < k ∧ j < n ∧ j < lim then .int (own_ch a b c (Int32.ofNat j)) else vs.getD j (.int 0)
  | 0, vs, j, _, _ => by simp [own_fill]
  | k + 1, vs, j, hk, hl => by
    have ih := own_fill_get a b c n lim hn hlim k vs j (by omega) (by omega)
    have hlen := own_fill_len a b c n lim k vs
    have e : nar .char (own_ch a b c (Int32.ofNat k)) = own_ch a b c (Int32.ofNat k) := own_narU (own_narR _)
    rw [own_fill, own_put, e]
    by_cases h1 : Int32.ofNat k < Int32.ofNat n
    · by_cases h2 : Int32.ofNat k < Int32.ofNat lim
      · have k1 := (own_ltN (by omega) hn).mp h1
        have k2 := (own_ltN (by omega) hlim).mp h2
        rw [if_pos h1, if_pos h2]
        by_cases hj : k = j
        · subst hj
          rw [if_pos ⟨by omega, k1, k2⟩, List.getD_eq_getElem?_getD, List.getElem?_set_self (by omega)]; rfl
        · rw [List.getD_eq_getElem?_getD, List.getElem?_set_ne hj, ← List.getD_eq_getElem?_getD, ih]
          by_cases hh : j < k ∧ j < n ∧ j < lim
          · rw [if_pos hh, if_pos ⟨by omega, hh.2⟩]
          · rw [if_neg hh, if_neg fun q => hh ⟨by omega, q.2⟩]
      · have k2 := mt (own_ltN (by omega) hlim).mpr h2
        rw [if_pos h1, if_neg h2, ih]
        by_cases hh : j < k ∧ j < n ∧ j < lim
        · rw [if_pos hh, if_pos ⟨by omega, hh.2⟩]
        · rw [if_neg hh, if_neg fun q => hh ⟨by omega, q.2⟩]
    · have k1 := mt (own_ltN (by omega) hn).mpr h1
      rw [if_neg h1, ih]
      by_cases hh : j < k ∧ j < n ∧ j < lim
      · rw [if_pos hh, if_pos ⟨by omega, hh.2⟩]
      · rw [if_neg hh, if_neg fun q => hh ⟨by omega, q.2⟩]
theorem own_txt_len (a b c : Int64) (m : Nat) : (own_txt a b c m).length = m := by simp [own_txt]
theorem own_txt_get (a b c : Int64) (m j : Nat) (h : j < m) : (own_txt a b c m).getD j 0 = own_ch a b c (Int32.ofNat j) := by
  simp [own_txt, List.getD_eq_getElem?_getD, h]
theorem own_rep0 (k j : Nat) : (([] : List Value) ++ List.replicate k (Value.int 0)).getD j (.int 0) = .int 0 := by
  rw [pad_rep]; rfl
theorem own_text {Z : State} {h : Heap} {t : Addr} {k : ClassId} {a b c : Int64} {n : Nat} (hn : n ≤ 45) (V : Arv Z h t k .char (Int32.ofNat n) (own_fill a b c n 45 45 ([] ++ List.replicate 45 (Value.int 0))) (.int 0)) : Arv Z h t k .char (Int32.ofNat (own_txt a b c n).length) ((own_txt a b c n).map Value.int) (.int 0) := by
  rw [own_txt_len]
  refine V.pad fun j => ?_
  rw [own_fill_get a b c n 45 (by omega) (by omega) 45 _ j (by omega) (by simp), own_rep0, own_mget]
  by_cases h : j < n
  · rw [if_pos ⟨by omega, h, by omega⟩, own_txt_get _ _ _ _ _ h]
  · rw [if_neg fun q => h q.2.1, List.getD_eq_getElem?_getD, List.getElem?_eq_none (by rw [own_txt_len]; omega)]; rfl
theorem own_chR (a b c : Int64) (i : Int32) : ¬ own_ch a b c i < 0 ∧ ¬ (65535 : Int32) < own_ch a b c i := own_narR _
theorem own_txtR (a b c : Int64) (m : Nat) : ∀ x ∈ own_txt a b c m, ¬ x < 0 ∧ ¬ (65535 : Int32) < x := by
  intro x hx
  simp only [own_txt, List.mem_map] at hx
  obtain ⟨i, -, rfl⟩ := hx
  exact own_chR _ _ _ _
def own_pre (vs : List Value) (cs : List Int32) (m : Nat) : Prop := ∀ i, i < m → vs.getD (2 * i) (.int 0) = .int (own_b (cs.getD i 0) 0) ∧ vs.getD (2 * i + 1) (.int 0) = .int (own_b (cs.getD i 0) 8)
theorem own_pre_set {vs : List Value} {cs : List Int32} {m : Nat} (h : own_pre vs cs m) (hv : 2 * m + 1 < vs.length) : own_pre ((vs.set (2 * m) (.int (own_b (cs.getD m 0) 0))).set (2 * m + 1) (.int (own_b (cs.getD m 0) 8))) cs (m + 1) := by
  intro i hi
  simp only [List.getD_eq_getElem?_getD]
  by_cases q : i = m
  · subst q
    rw [List.getElem?_set_ne (by omega), List.getElem?_set_self (by omega), List.getElem?_set_self (by rw [List.length_set]; omega)]
    exact ⟨rfl, rfl⟩
  · rw [List.getElem?_set_ne (by omega), List.getElem?_set_ne (by omega), List.getElem?_set_ne (by omega), List.getElem?_set_ne (by omega), ← List.getD_eq_getElem?_getD, ← List.getD_eq_getElem?_getD]
    exact h i (by omega)
def USt (Z : State) (h : Heap) (x : Addr) (cs : List Int32) : Prop := ∃ (t : Addr) (kb : ClassId), Exa Z h x "java/lang/String" ∧ Fld Z h x "java/lang/String" "value" "[B" (.ref t) ∧ Fld Z h x "java/lang/String" "coder" "B" (.int 1) ∧ ∃ vs, Arv Z h t kb .byte (Int32.ofNat (2 * (cs).length)) vs (.int 0) ∧ own_u16 vs cs ∧ ∀ c ∈ cs, ¬ c < 0 ∧ ¬ (65535 : Int32) < c
theorem USt.keep {Z : State} {h h' : Heap} {x : Addr} {cs : List Int32} (U : USt Z h x cs) (K : Keep h h' []) : USt Z h' x cs := by
  obtain ⟨t, kb, E, F, a, vs, b, c⟩ := U
  exact ⟨t, kb, E.keep K, F.keep K nin0, a.keep K nin0, vs, b.keep K nin0, c⟩
theorem USt.ext {Z : State} {h h' : Heap} {x : Addr} {cs : List Int32} (U : USt Z h x cs) (E : Ext h h') : USt Z h' x cs := U.keep ((Keep.refl _ _).ext E)
theorem USt.up {Z : State} {h : Heap} {x : Addr} {cs : List Int32} (U : USt Z h x cs) : UStr Z h x cs := by
  obtain ⟨t, kb, E, F, a, vs, b, c⟩ := U
  exact ⟨t, kb, E, F, Or.inr ⟨a, vs, b, c⟩⟩
theorem own_ne0 {n : Nat} (h1 : 1 ≤ n) (h2 : n < 2 ^ 31) : ¬ Int32.ofNat n = 0 := fun q => by
  have := congrArg Int32.toNatClampNeg q
  rw [own_ofn h2] at this
  have e : (0 : Int32).toNatClampNeg = 0 := by decide
  omega
theorem own_le40 {n : Nat} (h : n ≤ 40) : ¬ (40 : Int32) < Int32.ofNat n := by
  have k : ∀ x : Fin 41, ¬ (40 : Int32) < Int32.ofNat x.val := by decide +kernel
  exact k ⟨n, by omega⟩
theorem own_gt40 {n : Nat} (h : 40 < n) (h2 : n < 100) : (40 : Int32) < Int32.ofNat n := by
  have k : ∀ x : Fin 100, 40 < x.val → (40 : Int32) < Int32.ofNat x.val := by decide +kernel
  exact k ⟨n, h2⟩ h
theorem own_le0 {m k : Nat} (h1 : m < 2 ^ 31) (h2 : k < 2 ^ 31) (h : m ≤ k) : (0 : Int32).toNatClampNeg + (Int32.ofNat m).toNatClampNeg ≤ (Int32.ofNat k).toNatClampNeg := by
  have e0 : (0 : Int32).toNatClampNeg = 0 := by decide
  rw [own_ofn h1, own_ofn h2, e0]; omega
theorem own_le1 {m r : Nat} (h1 : m < 2 ^ 31) (h : m ≤ r) : (0 : Int32).toNatClampNeg + (Int32.ofNat m).toNatClampNeg ≤ (([] : List Value) ++ List.replicate r (Value.int 0)).length := by
  have e0 : (0 : Int32).toNatClampNeg = 0 := by decide
  rw [own_ofn h1, e0]; simp; omega
theorem own_or3 {n o q : Int32} (h1 : ¬ n < 0) (h2 : ¬ o < 0) (h3 : ¬ q < 0) : ¬ ((n ||| o) ||| q) < 0 := by
  have e0 : (0 : Int32).toInt = 0 := by decide
  rw [Int32.lt_iff_toInt_lt, e0] at h1 h2 h3 ⊢
  have a := (c_orS n o).1 (by omega) (by omega)
  have b := (c_orS (n ||| o) q).1 a (by omega)
  omega
theorem own_szc {n o q : Nat} (h : o + q ≤ n) (hn : n < 2 ^ 31) : ¬ (Int32.ofNat n - Int32.ofNat o) < Int32.ofNat q := by
  have e1 : (Nat.toInt32 n).toInt = n := len_toInt hn
  have e2 : (Nat.toInt32 o).toInt = o := len_toInt (by omega)
  have e3 : (Nat.toInt32 q).toInt = q := len_toInt (by omega)
  have c := c_isub (Nat.toInt32 n) (Nat.toInt32 o)
  have r1 := (Nat.toInt32 n - Nat.toInt32 o).toInt_lt
  have r2 := (Nat.toInt32 n - Nat.toInt32 o).le_toInt
  show ¬ (Nat.toInt32 n - Nat.toInt32 o) < Nat.toInt32 q
  rw [Int32.lt_iff_toInt_lt, e3]; omega
def own_cp (vs : List Value) (m : Nat) : List Value := (List.range m).map (fun i => vs.getD i (.int 0))
theorem own_cp_get (vs : List Value) (m i : Nat) : (own_cp vs m).getD i (.int 0) = if i < m then vs.getD i (.int 0) else .int 0 := by
  unfold own_cp
  by_cases h : i < m
  · rw [if_pos h, List.getD_eq_getElem?_getD, List.getElem?_map, List.getElem?_range h]; rfl
  · rw [if_neg h, List.getD_eq_getElem?_getD, List.getElem?_eq_none (by simp; omega)]; rfl
theorem own_pre_cp {vs : List Value} {cs : List Int32} {k m : Nat} (h : own_pre vs cs k) (hm : 2 * k ≤ m) : own_pre (own_cp vs m) cs k := fun i hi => by
  rw [own_cp_get, own_cp_get, if_pos (by omega), if_pos (by omega)]; exact h i hi
theorem own_pre_tk {vs : List Value} {cs : List Int32} {k m : Nat} (h : own_pre vs cs k) (hk : k ≤ m) : own_pre vs (cs.take m) k := fun i hi => by
  have e : (cs.take m).getD i 0 = cs.getD i 0 := by rw [List.getD_eq_getElem?_getD, List.getD_eq_getElem?_getD, List.getElem?_take_of_lt (by omega)]
  rw [e]; exact h i hi
theorem own_tk {cs : List Int32} (h : 40 < cs.length) : (cs.take 40).length = 40 := by rw [List.length_take]; omega
theorem own_tkget {cs : List Int32} {j : Nat} (h : j < 40) : (cs.take 40).getD j 0 = cs.getD j 0 := by rw [List.getD_eq_getElem?_getD, List.getD_eq_getElem?_getD, List.getElem?_take_of_lt h]
theorem own_cp0 {Z : State} {h : Heap} {b : Addr} {k : ClassId} {z : Int32} {vs : List Value} {m r : Nat} (hm : m < 2 ^ 31)
    (F : Arv Z h b k .byte z (([] ++ List.replicate r (Value.int 0)).take (0 : Int32).toNatClampNeg ++ (List.range (Int32.ofNat m).toNatClampNeg).map (fun i => vs.getD ((0 : Int32).toNatClampNeg + i) (Value.int 0)) ++ ([] ++ List.replicate r (Value.int 0)).drop ((0 : Int32).toNatClampNeg + (Int32.ofNat m).toNatClampNeg)) (.int 0)) : Arv Z h b k .byte z (own_cp vs m) (.int 0) := by
  have e0 : (0 : Int32).toNatClampNeg = 0 := by decide
  rw [own_ofn hm, e0] at F
  simp only [List.take_zero, List.nil_append, Nat.zero_add, List.drop_replicate] at F
  exact F.pad fun i => (pad_rep _ _ _ i).symm
theorem own_nlt40 {n : Nat} (h : n < 100) : 40 < n → ¬ Int32.ofNat n < (40 : Int32) := by
  have k : ∀ x : Fin 100, 40 < x.val → ¬ Int32.ofNat x.val < (40 : Int32) := by decide +kernel
  exact k ⟨n, h⟩
theorem own_ne40 {n : Nat} (h : n < 100) : 40 < n → ¬ (40 : Int32) = Int32.ofNat n := by
  have k : ∀ x : Fin 100, 40 < x.val → ¬ (40 : Int32) = Int32.ofNat x.val := by decide +kernel
  exact k ⟨n, h⟩
theorem own_set_get {vs : List Value} {i j : Nat} {x : Value} (h : i < vs.length) : (vs.set i x).getD j (.int 0) = if i = j then x else vs.getD j (.int 0) := by
  by_cases q : i = j
  · subst q; rw [if_pos rfl, List.getD_eq_getElem?_getD, List.getElem?_set_self h]; rfl
  · rw [if_neg q, List.getD_eq_getElem?_getD, List.getElem?_set_ne q, ← List.getD_eq_getElem?_getD]
theorem own_end {vs : List Value} {cs : List Int32} (hd : cs.length = 40) (h : own_pre vs cs 40) : own_u16 (own_cp (((((((own_cp vs (80) ++ List.replicate (2 * 82) (Value.int 0)).set (2 * 40) (.int (own_b (46 : Int32) 0))).set (2 * 40 + 1) (.int (own_b (46 : Int32) 8))).set (2 * 41) (.int (own_b (46 : Int32) 0))).set (2 * 41 + 1) (.int (own_b (46 : Int32) 8))).set (2 * 42) (.int (own_b (46 : Int32) 0))).set (2 * 42 + 1) (.int (own_b (46 : Int32) 8))) 86) (cs ++ ([(46 : Int32), (46 : Int32), (46 : Int32)] : List Int32)) := by
  intro i hi
  have hi' : i < 43 := by simp at hi; omega
  rw [own_cp_get, own_cp_get, if_pos (by omega), if_pos (by omega)]
  have L0 : 2 * 82 ≤ (own_cp vs (80) ++ List.replicate (2 * 82) (Value.int 0)).length := by rw [List.length_append, List.length_replicate]; omega
  rw [own_set_get (by simp only [List.length_set]; omega), own_set_get (by simp only [List.length_set]; omega), own_set_get (by simp only [List.length_set]; omega), own_set_get (by simp only [List.length_set]; omega), own_set_get (by simp only [List.length_set]; omega), own_set_get (by omega),
    own_set_get (by simp only [List.length_set]; omega), own_set_get (by simp only [List.length_set]; omega), own_set_get (by simp only [List.length_set]; omega), own_set_get (by simp only [List.length_set]; omega), own_set_get (by simp only [List.length_set]; omega), own_set_get (by omega)]
  by_cases q : i < 40
  · have e : (cs ++ ([(46 : Int32), (46 : Int32), (46 : Int32)] : List Int32)).getD i 0 = cs.getD i 0 := by rw [List.getD_eq_getElem?_getD, List.getD_eq_getElem?_getD, List.getElem?_append_left (by omega)]
    rw [e, pad_rep, pad_rep, own_cp_get, own_cp_get]
    simp only [show ¬ (2 * 42 + 1 = 2 * i) by omega, show ¬ (2 * 42 = 2 * i) by omega, show ¬ (2 * 41 + 1 = 2 * i) by omega, show ¬ (2 * 41 = 2 * i) by omega, show ¬ (2 * 40 + 1 = 2 * i) by omega, show ¬ (2 * 40 = 2 * i) by omega, show ¬ (2 * 42 + 1 = 2 * i + 1) by omega, show ¬ (2 * 42 = 2 * i + 1) by omega, show ¬ (2 * 41 + 1 = 2 * i + 1) by omega, show ¬ (2 * 41 = 2 * i + 1) by omega, show ¬ (2 * 40 + 1 = 2 * i + 1) by omega, show ¬ (2 * 40 = 2 * i + 1) by omega, show 2 * i < 80 by omega, show 2 * i + 1 < 80 by omega, if_true, if_false]
    exact h i q
  · have e : (cs ++ ([(46 : Int32), (46 : Int32), (46 : Int32)] : List Int32)).getD i 0 = 46 := by
      rw [List.getD_eq_getElem?_getD, List.getElem?_append_right (by omega), hd]
      have : i = 40 ∨ i = 41 ∨ i = 42 := by omega
      rcases this with rfl | rfl | rfl <;> rfl
    rw [e]
    have : i = 40 ∨ i = 41 ∨ i = 42 := by omega
    rcases this with rfl | rfl | rfl <;> exact ⟨rfl, rfl⟩
def own_by (cs : List Int32) (j : Nat) : Int32 := if j % 2 = 0 then own_b (cs.getD (j / 2) 0) 0 else own_b (cs.getD (j / 2) 0) 8
theorem own_u16_get {vs : List Value} {cs : List Int32} (h : own_u16 vs cs) {j : Nat} (hj : j < 2 * cs.length) : vs.getD j (.int 0) = .int (own_by cs j) := by
  have q := h (j / 2) (by omega)
  unfold own_by
  by_cases e : j % 2 = 0
  · rw [if_pos e, ← q.1, show 2 * (j / 2) = j by omega]
  · rw [if_neg e, ← q.2, show 2 * (j / 2) + 1 = j by omega]
theorem own_xsh (x y s : Int64) : (x ^^^ y) >>> s = (x >>> s) ^^^ (y >>> s) := by
  apply Int64.toBitVec_inj.mp
  simp only [Int64.toBitVec_shiftRight, Int64.toBitVec_xor, BitVec.sshiftRight_eq', BitVec.sshiftRight_xor_distrib]
theorem own_bad (a b c : Int64) : (255 : Int32) < own_ch a b c 0 ∨ (255 : Int32) < own_ch a b c 12 := by
  have e0 : own_ch a b c 0 = nar .char ((((a.toUInt64 >>> (0 : UInt64)).toInt64 ^^^ (0 : Int64)).toInt32).toUInt32.toUInt16.toUInt32.toInt32) := rfl
  have e12 : own_ch a b c 12 = nar .char ((((a.toUInt64 >>> (0 : UInt64)).toInt64 ^^^ (486036 : Int64)).toInt32).toUInt32.toUInt16.toUInt32.toInt32) := rfl
  rw [e0, e12]
  generalize (a.toUInt64 >>> (0 : UInt64)).toInt64 = X
  have q255 : (255 : Int32).toInt = 255 := by decide
  have n1 := c_l2i (X ^^^ (0 : Int64))
  have n2 := c_i2c ((X ^^^ (0 : Int64)).toInt32)
  have n3 := c_i2c (((X ^^^ (0 : Int64)).toInt32).toUInt32.toUInt16.toUInt32.toInt32)
  have m1 := c_l2i (X ^^^ (486036 : Int64))
  have m2 := c_i2c ((X ^^^ (486036 : Int64)).toInt32)
  have m3 := c_i2c (((X ^^^ (486036 : Int64)).toInt32).toUInt32.toUInt16.toUInt32.toInt32)
  have x0 : X ^^^ (0 : Int64) = X := by simp
  have s1 := c_lshr X 9 9 (by decide)
  have s2 := c_lshr (X ^^^ (486036 : Int64)) 9 9 (by decide)
  have s3 := c_lshr (486036 : Int64) 9 9 (by decide)
  rw [own_xsh] at s2
  have pr := c_xor2L (X >>> ((9 : Int32) &&& 0x3f).toInt64) ((486036 : Int64) >>> ((9 : Int32) &&& 0x3f).toInt64)
  have e9 : ((2 ^ 9 : Nat) : Int) = 512 := by decide
  have eK : (486036 : Int64).toInt = 486036 := by decide
  rw [e9] at s1 s2 s3
  rw [s1, s2, s3, eK] at pr
  rw [x0] at n1 n2 n3 ⊢
  rw [Int32.lt_iff_toInt_lt, Int32.lt_iff_toInt_lt, q255]
  show 255 < ((X.toInt32).toUInt32.toUInt16.toUInt32.toInt32).toUInt32.toUInt16.toUInt32.toInt32.toInt ∨ 255 < (((X ^^^ (486036 : Int64)).toInt32).toUInt32.toUInt16.toUInt32.toInt32).toUInt32.toUInt16.toUInt32.toInt32.toInt
  omega
theorem own_hpd {cs : List Int32} (h : ∀ c ∈ cs, ¬ c < 0 ∧ ¬ (65535 : Int32) < c) : ∀ c ∈ cs ++ ([(46 : Int32), (46 : Int32), (46 : Int32)] : List Int32), ¬ c < 0 ∧ ¬ (65535 : Int32) < c := by
  intro c hc
  rcases List.mem_append.mp hc with q | q
  · exact h c q
  · simp only [List.mem_cons, List.not_mem_nil, or_false, or_self] at q
    rw [q]; decide
theorem own_mem_txt {a b c : Int64} {m i : Nat} (h : i < m) : own_ch a b c (Int32.ofNat i) ∈ own_txt a b c m := List.mem_map.mpr ⟨i, List.mem_range.mpr h, rfl⟩
theorem own_badtxt {a b c : Int64} {m : Nat} (h : 12 < m) {cs : List Int32} (hs : ∀ x ∈ own_txt a b c m, x ∈ cs) : ¬ ∀ x ∈ cs, ¬ (255 : Int32) < x := fun q => by
  rcases own_bad a b c with r | r
  · exact q _ (hs _ (own_mem_txt (i := 0) (by omega))) r
  · exact q _ (hs _ (own_mem_txt (i := 12) h)) r
theorem own_badj {a b c : Int64} {m : Nat} (h : 12 < m) : ∃ j, j < 40 ∧ (255 : Int32) < (own_txt a b c m).getD j 0 := by
  rcases own_bad a b c with r | r
  · exact ⟨0, by omega, by rw [own_txt_get _ _ _ _ _ (by omega)]; exact r⟩
  · exact ⟨12, by omega, by rw [own_txt_get _ _ _ _ _ h]; exact r⟩
theorem own_tktxt {a b c : Int64} {m : Nat} (h : 40 ≤ m) : (own_txt a b c m).take 40 = own_txt a b c 40 := by
  simp only [own_txt, ← List.map_take, List.take_range]
  rw [Nat.min_eq_left h]
theorem own_ecs {Z : State} {h : Heap} {t : Addr} {k : ClassId} {a b c : Int64} (V : Arv Z h t k .char (43 : Int32) ((((own_fill a b c 43 40 45 ([] ++ List.replicate 45 (Value.int 0))).set 40 (.int (nar .char (46 : Int32)))).set 41 (.int (nar .char (46 : Int32)))).set 42 (.int (nar .char (46 : Int32)))) (.int 0)) :
    Arv Z h t k .char (Int32.ofNat (own_txt a b c 40 ++ ([(46 : Int32), (46 : Int32), (46 : Int32)] : List Int32)).length) ((own_txt a b c 40 ++ ([(46 : Int32), (46 : Int32), (46 : Int32)] : List Int32)).map Value.int) (.int 0) := by
  have el : (own_txt a b c 40 ++ ([(46 : Int32), (46 : Int32), (46 : Int32)] : List Int32)).length = 43 := by rw [List.length_append, own_txt_len]; rfl
  rw [el]
  refine V.pad fun j => ?_
  have hlen : (own_fill a b c 43 40 45 ([] ++ List.replicate 45 (Value.int 0))).length = 45 := by rw [own_fill_len]; simp
  rw [own_set_get (by simp only [List.length_set]; omega), own_set_get (by simp only [List.length_set]; omega), own_set_get (by omega), own_fill_get a b c 43 40 (by omega) (by omega) 45 _ j (by omega) (by simp), own_rep0, own_mget]
  by_cases q : j < 40
  · rw [if_neg (by omega), if_neg (by omega), if_neg (by omega), if_pos ⟨by omega, by omega, q⟩]
    have e : (own_txt a b c 40 ++ ([(46 : Int32), (46 : Int32), (46 : Int32)] : List Int32)).getD j 0 = (own_txt a b c 40).getD j 0 := by rw [List.getD_eq_getElem?_getD, List.getD_eq_getElem?_getD, List.getElem?_append_left (by rw [own_txt_len]; exact q)]
    rw [e, own_txt_get _ _ _ _ _ q]
  · have e : (own_txt a b c 40 ++ ([(46 : Int32), (46 : Int32), (46 : Int32)] : List Int32)).getD j 0 = (([(46 : Int32), (46 : Int32), (46 : Int32)] : List Int32)).getD (j - 40) 0 := by rw [List.getD_eq_getElem?_getD, List.getD_eq_getElem?_getD, List.getElem?_append_right (by rw [own_txt_len]; omega), own_txt_len]
    rw [e]
    by_cases q1 : j = 42
    · subst q1; rfl
    · by_cases q2 : j = 41
      · subst q2; rfl
      · by_cases q3 : j = 40
        · subst q3; rfl
        · rw [if_neg (by omega), if_neg (by omega), if_neg (by omega), if_neg (by omega), List.getD_eq_getElem?_getD, List.getElem?_eq_none (by simp; omega)]; rfl
theorem pno_0 : plainName "com/example/stateful_search/statefulsearch/format/ExcerptsAbbreviatePinLaw" = true := by first | (simp [plainName, overriddenIn]; done) | decide +kernel
theorem pdo_0 : parseMethodDescriptor "(JJJI)C" = some ⟨[.long, .long, .long, .int], some .char⟩ := by decide +kernel
theorem pdo_1 : parseMethodDescriptor "([CIJJJI)V" = some ⟨[(.array .char), .int, .long, .long, .long, .int], none⟩ := by decide +kernel
theorem pno_1 : plainName "java/lang/String" = true := by first | (simp [plainName, overriddenIn]; done) | decide +kernel
theorem pdo_2 : parseMethodDescriptor "()B" = some ⟨[], some .byte⟩ := by decide +kernel
theorem pno_2 : plainName "java/lang/StringUTF16" = true := by first | (simp [plainName, overriddenIn]; done) | decide +kernel
theorem pdo_3 : parseMethodDescriptor "(I)I" = some ⟨[.int], some .int⟩ := by decide +kernel
theorem pdo_4 : parseMethodDescriptor "(I)[B" = some ⟨[.int], some (.array .byte)⟩ := by decide +kernel
theorem pdo_5 : parseMethodDescriptor "([BII)V" = some ⟨[(.array .byte), .int, .int], none⟩ := by decide +kernel
theorem pdo_6 : parseMethodDescriptor "([CI[BII)I" = some ⟨[(.array .char), .int, (.array .byte), .int, .int], some .int⟩ := by decide +kernel
theorem pdo_7 : parseMethodDescriptor "([CII)[B" = some ⟨[(.array .char), .int, .int], some (.array .byte)⟩ := by decide +kernel
theorem pdo_8 : parseMethodDescriptor "([BI)C" = some ⟨[(.array .byte), .int], some .char⟩ := by decide +kernel
theorem pdo_9 : parseMethodDescriptor "([BI)B" = some ⟨[(.array .byte), .int], some .byte⟩ := by decide +kernel
theorem pdo_10 : parseMethodDescriptor "([CIILjava/lang/Void;)V" = some ⟨[(.array .char), .int, .int, (.object "java/lang/Void")], none⟩ := by decide +kernel
theorem pdo_11 : parseMethodDescriptor "()I" = some ⟨[], some .int⟩ := by decide +kernel
theorem pno_3 : plainName "com/example/stateful_search/statefulsearch/format/Excerpts" = true := by first | (simp [plainName, overriddenIn]; done) | decide +kernel
theorem pno_4 : plainName "jdk/internal/util/Preconditions" = true := by first | (simp [plainName, overriddenIn]; done) | decide +kernel
theorem pdo_12 : parseMethodDescriptor "(IIILjava/util/function/BiFunction;)I" = some ⟨[.int, .int, .int, (.object "java/util/function/BiFunction")], some .int⟩ := by decide +kernel
theorem pdo_13 : parseMethodDescriptor "([B)I" = some ⟨[(.array .byte)], some .int⟩ := by decide +kernel
theorem pdo_14 : parseMethodDescriptor "(III)I" = some ⟨[.int, .int, .int], some .int⟩ := by decide +kernel
theorem pdo_15 : parseMethodDescriptor "(II[B)V" = some ⟨[.int, .int, (.array .byte)], none⟩ := by decide +kernel
theorem pno_5 : plainName "java/util/Arrays" = true := by first | (simp [plainName, overriddenIn]; done) | decide +kernel
theorem pdo_16 : parseMethodDescriptor "(II)V" = some ⟨[.int, .int], none⟩ := by decide +kernel
theorem pdo_17 : parseMethodDescriptor "(II)I" = some ⟨[.int, .int], some .int⟩ := by decide +kernel
theorem pdo_18 : parseMethodDescriptor "([BII)[B" = some ⟨[(.array .byte), .int, .int], some (.array .byte)⟩ := by decide +kernel
theorem pdo_19 : parseMethodDescriptor "([BI[BII)I" = some ⟨[(.array .byte), .int, (.array .byte), .int, .int], some .int⟩ := by decide +kernel
theorem pdo_20 : parseMethodDescriptor "([BB)V" = some ⟨[(.array .byte), .byte], none⟩ := by decide +kernel
theorem pdo_21 : parseMethodDescriptor "(III)V" = some ⟨[.int, .int, .int], none⟩ := by decide +kernel
theorem pdo_22 : parseMethodDescriptor "()Z" = some ⟨[], some .boolean⟩ := by decide +kernel
theorem pdo_23 : parseMethodDescriptor "([BII)Ljava/lang/String;" = some ⟨[(.array .byte), .int, .int], some (.object "java/lang/String")⟩ := by decide +kernel
theorem pno_6 : plainName "java/lang/AbstractStringBuilder" = true := by first | (simp [plainName, overriddenIn]; done) | decide +kernel
theorem pdo_24 : parseMethodDescriptor "(I)V" = some ⟨[.int], none⟩ := by decide +kernel
theorem pno_7 : plainName "java/lang/StringBuilder" = true := by first | (simp [plainName, overriddenIn]; done) | decide +kernel
theorem pno_8 : plainName "jdk/internal/util/ArraysSupport" = true := by first | (simp [plainName, overriddenIn]; done) | decide +kernel
theorem pdo_25 : parseMethodDescriptor "([BI)[B" = some ⟨[(.array .byte), .int], some (.array .byte)⟩ := by decide +kernel
theorem pdo_26 : parseMethodDescriptor "([BI[BII)V" = some ⟨[(.array .byte), .int, (.array .byte), .int, .int], none⟩ := by decide +kernel
theorem pno_9 : plainName "java/lang/StringLatin1" = true := by first | (simp [plainName, overriddenIn]; done) | decide +kernel
theorem pdo_27 : parseMethodDescriptor "()V" = some ⟨[], none⟩ := by decide +kernel
theorem pdo_28 : parseMethodDescriptor "(Ljava/lang/String;)V" = some ⟨[(.object "java/lang/String")], none⟩ := by decide +kernel
theorem pdo_29 : parseMethodDescriptor "([BIB)V" = some ⟨[(.array .byte), .int, .byte], none⟩ := by decide +kernel
theorem pdo_30 : parseMethodDescriptor "(ILjava/lang/String;)V" = some ⟨[.int, (.object "java/lang/String")], none⟩ := by decide +kernel
theorem pdo_31 : parseMethodDescriptor "(Ljava/lang/String;)Ljava/lang/AbstractStringBuilder;" = some ⟨[(.object "java/lang/String")], some (.object "java/lang/AbstractStringBuilder")⟩ := by decide +kernel
theorem pdo_32 : parseMethodDescriptor "()[B" = some ⟨[], some (.array .byte)⟩ := by decide +kernel
theorem pdo_33 : parseMethodDescriptor "(Ljava/lang/AbstractStringBuilder;Ljava/lang/Void;)V" = some ⟨[(.object "java/lang/AbstractStringBuilder"), (.object "java/lang/Void")], none⟩ := by decide +kernel
theorem pdo_34 : parseMethodDescriptor "(Ljava/lang/StringBuilder;)V" = some ⟨[(.object "java/lang/StringBuilder")], none⟩ := by decide +kernel
theorem pdo_35 : parseMethodDescriptor "([B[B)Z" = some ⟨[(.array .byte), (.array .byte)], some .boolean⟩ := by decide +kernel
theorem pdo_36 : parseMethodDescriptor "(II)Ljava/lang/String;" = some ⟨[.int, .int], some (.object "java/lang/String")⟩ := by decide +kernel
theorem pdo_37 : parseMethodDescriptor "(Ljava/lang/String;)Ljava/lang/StringBuilder;" = some ⟨[(.object "java/lang/String")], some (.object "java/lang/StringBuilder")⟩ := by decide +kernel
theorem pdo_38 : parseMethodDescriptor "()Ljava/lang/String;" = some ⟨[], some (.object "java/lang/String")⟩ := by decide +kernel
theorem pdo_39 : parseMethodDescriptor "(I)[C" = some ⟨[.int], some (.array .char)⟩ := by decide +kernel
theorem pdo_40 : parseMethodDescriptor "([CJJJI)V" = some ⟨[(.array .char), .long, .long, .long, .int], none⟩ := by decide +kernel
theorem pdo_41 : parseMethodDescriptor "([C)V" = some ⟨[(.array .char)], none⟩ := by decide +kernel
theorem pdo_42 : parseMethodDescriptor "(Ljava/lang/String;)Ljava/lang/String;" = some ⟨[(.object "java/lang/String")], some (.object "java/lang/String")⟩ := by decide +kernel
theorem pdo_43 : parseMethodDescriptor "(Ljava/lang/Object;)Z" = some ⟨[(.object "java/lang/Object")], some .boolean⟩ := by decide +kernel
def Q_emp (Z : State) (a : Addr) (h0 : Heap) (n0 : Nat) (v : Option Value) (h : Heap) (L : List Loc) : Prop := v = none ∧ Fr n0 L ∧ Keep h0 h [a] ∧ Exa Z h a "java/lang/String" ∧ Fld Z h a "java/lang/String" "coder" "B" (.int 0) ∧ ∃ (t : Addr) (kb : ClassId), ¬ t = a ∧ Fld Z h a "java/lang/String" "value" "[B" (.ref t) ∧ Arv Z h t kb .byte 0 [] (.int 0)
theorem D_emp4 : ∀ q ∈ ([(0, .aload_n 0, 1), (1, .invokespecial 1, 3), (4, .iload_n 3, 1), (5, .ifCond .ne 22, 3), (8, .aload_n 0, 1), (9, .ldc 7, 2), (11, .getfield 9, 3), (14, .putfield 9, 3), (17, .aload_n 0, 1), (18, .ldc 7, 2), (20, .getfield 15, 3), (23, .putfield 15, 3), (26, .return_, 1)] : List (Nat × Instr × Nat)), decode jdk_42_method_149_code q.1 = .ok q.2 := by decide +kernel
theorem ef_rm_emp4 (m : MethodId) (x0 : Addr) (x1 : Addr) (x2 : Int32) (x3 : Int32) : entryFrame m #[(.ref x0), (.ref x1), (.int x2), (.int x3), .null] 6 = mkF m 0 #[.val (.ref x0), .val (.ref x1), .val (.int x2), .val (.int x3), .val .null, .unset] [] := by first | (simp [entryFrame, mkF, argsToLocals, Value.category]; done) | rfl
theorem rm_emp4 (l : Launch) (Z : State) (a0 : Array Value) (hw : ∀ d ∈ tables_1, d.before a0 Z = true) (hEW : EW Z a0 consts_1) (ws : List Jvm.Cond) (a b : Addr) (h0 : Heap) (n0 : Nat) (Z0 : n0 ≤ h0.size) (E_a : Exa Z h0 a "java/lang/String") (ga : n0 ≤ a) (F_value : Fld Z h0 a "java/lang/String" "value" "[B" .null) (F_coder : Fld Z h0 a "java/lang/String" "coder" "B" (.int (0 : Int32))) :
    MetFree l y_0 (head1 (Jvm.Cond.code y_0 jdk_42_method_149_code 6 none :: ws) r_0) (fun αs U => αs = #[(.ref a), (.ref b), (.int (0 : Int32)), (.int (0 : Int32)), .null] ∧ Z.Warmed39 U.vm ∧ U.heap = h0 ∧ CHv Z consts_1 U.vm h0) (fun _ _ _ _ _ => True) (fun _ Us oS Us' => ∃ vR LR, oS = .returned vR ∧ Q_emp Z a h0 n0 vR Us'.heap LR ∧ CHr Z consts_1 Us.vm Us.heap Us'.vm Us'.heap ∧ ReturnedEndW Us oS Us' LR r_0.cells r_0.slots) := by
  refine MetFree.of_bodySF (plainFor_of_name pno_1) hisR ?_
  intro pP e s m args below meth cC s₁ Bd hml0 hP hK
  obtain ⟨rfl, hZ, hh, CH0⟩ := hP
  have hx := Bd.exec
  have W := own_W hw
  have hby := Bd.bytes
  have hml : cC.maxLocals = 6 := hml0
  have hown : s.vm.findClass "java/lang/String" = some m.cls := findClass_of_methodNamed Bd.named
  have hnm := (name_of_methodNamed Bd.named Bd.method).1
  have X0 : Stand pP l e r_0 (s.setVm s.vm) m #[(.ref a), (.ref b), (.int (0 : Int32)), (.int (0 : Int32)), .null] below meth cC s₁ [] 0 0 := Stand.of_body Bd
  have e0 : s₁.heap = h0 := by rw [← hh, Bd.state]; rfl
  have N0 := Fr.nil n0
  have KC0 : Keep h0 h0 [a] := Keep.refl h0 _
  replace hZ : Z.Warmed39 (s.setVm s.vm).vm := hZ
  replace hown : (s.setVm s.vm).vm.findClass "java/lang/String" = some m.cls := hown
  have SI0 : s.Since s.vm h0.size := (State.WarmedH.refl s).since _
  have SK0 : h0.size ≤ h0.size := Nat.le_refl _
  have CR0 : CHr Z consts_1 s.vm h0 s.vm h0 := CHr.refl CH0
  obtain ⟨A0, hA0⟩ : ∃ ζ, ζ = s₁.setTop (entryFrame m #[(.ref a), (.ref b), (.int (0 : Int32)), (.int (0 : Int32)), .null] 6) := ⟨_, rfl⟩
  have pre0 : own_go pP e below A0 (s₁.setTop (mkF m 0 #[.val (.ref a), .val (.ref b), .val (.int (0 : Int32)), .val (.int (0 : Int32)), .val .null, .unset] [])) := fun τ κ => by rw [hA0]; exact castTop (ef_rm_emp4 m a b (0 : Int32) (0 : Int32)) κ
  have wS : ∀ a ∈ Bundle.stringAtoms, a.before a0 Z = true := fun d hd => hw d ((by decide +kernel : ∀ d ∈ Bundle.stringAtoms, d ∈ tables_1) d hd)
  have Sf101 : Safe Z consts_1 s.vm h0 a := own_safeStr hZ.alike E_a F_value
  obtain ⟨T102, X102, e102, st102⟩ := initO X0 hx hZ hown (W 21 rfl) (W 22 rfl) (W 23 rfl) e0 (g := (mkF m 1 #[.val (.ref a), .val (.ref b), .val (.int (0 : Int32)), .val (.int (0 : Int32)), .val .null, .unset] [(.ref a)])) rfl (by rw [hml]; rfl) rfl (hb hby (own_d D_emp4 1 rfl)) (by decide) (W := 0) (Nat.le_of_eq rfl) (by decide)
  have pq103 : own_go pP e below A0 (T102.setTop (mkF m 4 #[.val (.ref a), .val (.ref b), .val (.int (0 : Int32)), .val (.int (0 : Int32)), .val .null, .unset] [])) := by
    intro τ κ
    refine pre0 τ ?_
    refine XS.aloadN X0.here hx rfl (hb hby (own_d D_emp4 0 rfl)) rfl rfl ?_
    refine st102 _ ?_
    exact κ
  obtain ⟨b104, T104, h104, k104, t104, kb104, X104, e104, E104, SI104, SK104, Z104, O104, A104, Fc104, Fv104, V104, lt104, ltt104, C104, L104, ne104, st104⟩ := ldcCH (s := s) (vm0 := s.vm) (EL := consts_1) X102 hx hZ hown (W 24 rfl) wS e102 SI0 SK0 hEW (by decide) CH0 (vs := []) (z := (0 : Int32)) (by decide) (by decide) (by decide) (g := (mkF m 9 #[.val (.ref a), .val (.ref b), .val (.int (0 : Int32)), .val (.int (0 : Int32)), .val .null, .unset] [(.ref a)])) rfl (hb hby (own_d D_emp4 5 rfl)) (n := 0) (by decide) (by decide) (by decide) (by decide)
  have pq105 : own_go pP e below A0 (T104.setTop (mkF m 11 #[.val (.ref a), .val (.ref b), .val (.int (0 : Int32)), .val (.int (0 : Int32)), .val .null, .unset] [(.ref b104), (.ref a)])) := by
    intro τ κ
    refine pq103 τ ?_
    refine XS.iloadN X102.here hx rfl (hb hby (own_d D_emp4 2 rfl)) rfl ?_
    refine XS.ifNo X102.here hx rfl (hb hby (own_d D_emp4 3 rfl)) rfl ((if0 _ _).trans (teq (by decide : ((0 : Int32) = (0 : Int32)))).2) ?_
    refine XS.aloadN X102.here hx rfl (hb hby (own_d D_emp4 4 rfl)) rfl rfl ?_
    refine st104 _ ?_
    exact κ
  have K104 : Keep h0 h104 [] := (Keep.refl _ _).ext E104
  have KC104 := KC0.trans K104 all0
  have CH104 := C104.1
  have CR104 := CHr.trans CR0 C104
  have f106 := (CHr.safe C104 E_a.lt Sf101)
  obtain ⟨T107, X107, e107, st107⟩ := getF X104 hx Z104 O104 (host := "") (Or.inl (W 30 rfl)) Via.refl e104 Fv104 (g := (mkF m 11 #[.val (.ref a), .val (.ref b), .val (.int (0 : Int32)), .val (.int (0 : Int32)), .val .null, .unset] [(.ref b104), (.ref a)])) rfl rfl (hb hby (own_d D_emp4 6 rfl))
  have pq108 : own_go pP e below A0 (T107.setTop (mkF m 14 #[.val (.ref a), .val (.ref b), .val (.int (0 : Int32)), .val (.int (0 : Int32)), .val .null, .unset] [(.ref t104), (.ref a)])) := by
    intro τ κ
    refine pq105 τ ?_
    refine st107 _ ?_
    exact κ
  have f109 := (E_a.keep K104)
  have f110 := (F_value.keep K104 nin0)
  obtain ⟨T111, h111, X111, e111, W111, st111⟩ := putF X107 hx Z104 O104 (host := "") (Or.inl (W 30 rfl)) Via.refl e107 f110 f109 (Or.inr ⟨(W 26 rfl), rfl, hnm⟩) (W 12 rfl) (ty := (.array .byte)) (by decide) rfl rfl (g := (mkF m 14 #[.val (.ref a), .val (.ref b), .val (.int (0 : Int32)), .val (.int (0 : Int32)), .val .null, .unset] [(.ref t104), (.ref a)])) rfl rfl (hb hby (own_d D_emp4 7 rfl))
  have pq112 : own_go pP e below A0 (T111.setTop (mkF m 17 #[.val (.ref a), .val (.ref b), .val (.int (0 : Int32)), .val (.int (0 : Int32)), .val .null, .unset] [])) := by
    intro τ κ
    refine pq108 τ ?_
    refine st111 _ ?_
    exact κ
  have KC111 := KC104.wr W111 (Or.inl (List.mem_of_getElem? (i := 0) rfl))
  have CH111 := CHv.wr W111 f106 CH104
  have CR111 := CHr.trans CR104 (CHr.wr W111 f106 CH104)
  have SK111 := Nat.le_trans SK104 (Keep.of_wr W111).1
  have Fw111 := f110.same W111
  have N111 := Fr.snoc X111 N0 ga
  have f114 := (Fc104.other W111 (Or.inl (Ne.symm (ne104 _ f106).1)))
  obtain ⟨T115, X115, e115, st115⟩ := getF X111 hx Z104 O104 (host := "") (Or.inl (W 31 rfl)) Via.refl e111 f114 (g := (mkF m 20 #[.val (.ref a), .val (.ref b), .val (.int (0 : Int32)), .val (.int (0 : Int32)), .val .null, .unset] [(.ref b104), (.ref a)])) rfl rfl (hb hby (own_d D_emp4 10 rfl))
  have pq116 : own_go pP e below A0 (T115.setTop (mkF m 23 #[.val (.ref a), .val (.ref b), .val (.int (0 : Int32)), .val (.int (0 : Int32)), .val .null, .unset] [(.int (0 : Int32)), (.ref a)])) := by
    intro τ κ
    refine pq112 τ ?_
    refine XS.aloadN X111.here hx rfl (hb hby (own_d D_emp4 8 rfl)) rfl rfl ?_
    refine ldcAgain (Z := Z) (a0 := a0) X111 hx Z104 O104 (W 24 rfl) L104 (g := (mkF m 18 #[.val (.ref a), .val (.ref b), .val (.int (0 : Int32)), .val (.int (0 : Int32)), .val .null, .unset] [(.ref a)])) rfl (hb hby (own_d D_emp4 9 rfl)) _ ?_
    refine st115 _ ?_
    exact κ
  have f117 := (f109.wr W111)
  have f118 := ((F_coder.keep K104 nin0).other W111 (Or.inr (slot_ne (Or.inr (W 27 rfl)) (Or.inr (W 26 rfl)) (by decide) (t := .byte) (t' := (.array .byte)) (by decide) (by decide))))
  have f120 := (Safe.wr W111 f106 CH104 f106)
  obtain ⟨T119, h119, X119, e119, W119, st119⟩ := putFN X115 hx Z104 O104 (W 31 rfl) Via.refl e115 f118 f117 (Or.inr ⟨(W 27 rfl), rfl, hnm⟩) (W 12 rfl) (ty := .byte) (v' := (.int (0 : Int32))) (by decide) rfl (by decide) (g := (mkF m 23 #[.val (.ref a), .val (.ref b), .val (.int (0 : Int32)), .val (.int (0 : Int32)), .val .null, .unset] [(.int (0 : Int32)), (.ref a)])) rfl rfl (hb hby (own_d D_emp4 11 rfl))
  have pq121 : own_go pP e below A0 (T119.setTop (mkF m 26 #[.val (.ref a), .val (.ref b), .val (.int (0 : Int32)), .val (.int (0 : Int32)), .val .null, .unset] [])) := by
    intro τ κ
    refine pq116 τ ?_
    refine st119 _ ?_
    exact κ
  have KC119 := KC111.wr W119 (Or.inl (List.mem_of_getElem? (i := 0) rfl))
  have CH119 := CHv.wr W119 f120 CH111
  have CR119 := CHr.trans CR111 (CHr.wr W119 f120 CH111)
  have SK119 := Nat.le_trans SK111 (Keep.of_wr W119).1
  have Fw119 := f118.same W119
  have N119 := Fr.snoc X119 N111 ga
  have f122 := (f117.wr W119)
  have f123 := (Fw111.other W119 (Or.inr (slot_ne (Or.inr (W 26 rfl)) (Or.inr (W 27 rfl)) (by decide) (t := (.array .byte)) (t' := .byte) (by decide) (by decide))))
  have f124 := ((V104.other W111 (Ne.symm (ne104 _ f106).2)).other W119 (Ne.symm (ne104 _ f106).2))
  have SKe := Nat.le_trans SK119 (Nat.le_of_eq (congrArg (fun z : Heap => Array.size z) (Eq.symm e119)))
  obtain ⟨fs, hrE, hrun, hended, hEnd⟩ := X119.leaveW SI104 SKe (v := none) (fun _ => rfl)
  have CHe := CHr.trans CR119 (CHv.at X119 Z104 hEW CH119)
  have pqE := pq121
  rw [hA0] at pqE
  refine ⟨_, _, pqE _ ?_, hrun, hended, _, _, rfl, ?_, ?_, hEnd.1, hEnd.2.1, hEnd.2.2.1, hEnd.2.2.2.mono (by decide) (by decide)⟩
  · show Steps pP.tables e below (T119.setTop (mkF m 26 #[.val (.ref a), .val (.ref b), .val (.int (0 : Int32)), .val (.int (0 : Int32)), .val .null, .unset] [])) _
    exact X119.returnOut hx Bd.returns (hb hby (own_d D_emp4 12 rfl)) hrE
  · show Q_emp Z a h0 n0 _ T119.heap _
    rw [e119]
    exact ⟨rfl, N119, KC119, f122, Fw119, t104, _, (Ne.symm (ne104 _ f106).2), f123, f124⟩
  · show CHr Z consts_1 s.vm s.heap T119.vm T119.heap
    first | (rw [hh, e119]; exact CHe) | (rw [hh]; exact CHe)
theorem D_emp1 : ∀ q ∈ ([(0, .aload_n 0, 1), (1, .aload_n 1, 1), (2, .iconst 0, 1), (3, .aload_n 1, 1), (4, .arraylength, 1), (5, .aconst_null, 1), (6, .invokespecial 27, 3), (9, .return_, 1)] : List (Nat × Instr × Nat)), decode jdk_42_method_3_code q.1 = .ok q.2 := by decide +kernel
theorem ef_rm_emp1 (m : MethodId) (x0 : Addr) (x1 : Addr) : entryFrame m #[(.ref x0), (.ref x1)] 2 = mkF m 0 #[.val (.ref x0), .val (.ref x1)] [] := by first | (simp [entryFrame, mkF, argsToLocals, Value.category]; done) | rfl
theorem rm_emp1 (l : Launch) (Z : State) (a0 : Array Value) (hw : ∀ d ∈ tables_1, d.before a0 Z = true) (hEW : EW Z a0 consts_1) (ws : List Jvm.Cond) (a b : Addr) (kc : ClassId) (h0 : Heap) (n0 : Nat) (Z0 : n0 ≤ h0.size) (E_a : Exa Z h0 a "java/lang/String") (ga : n0 ≤ a) (F_value : Fld Z h0 a "java/lang/String" "value" "[B" .null) (F_coder : Fld Z h0 a "java/lang/String" "coder" "B" (.int (0 : Int32))) (V_b : Arv Z h0 b kc .char (0 : Int32) [] (.int (0 : Int32))) :
    MetFree l y_1 (head1 (Jvm.Cond.code y_1 jdk_42_method_3_code 2 none :: ws) r_1) (fun αs U => αs = #[(.ref a), (.ref b)] ∧ Z.Warmed39 U.vm ∧ U.heap = h0 ∧ CHv Z consts_1 U.vm h0) (fun _ _ _ _ _ => True) (fun _ Us oS Us' => ∃ vR LR, oS = .returned vR ∧ Q_emp Z a h0 n0 vR Us'.heap LR ∧ CHr Z consts_1 Us.vm Us.heap Us'.vm Us'.heap ∧ ReturnedEndW Us oS Us' LR r_1.cells r_1.slots) := by
  refine MetFree.of_bodySF (plainFor_of_name pno_1) hisR ?_
  intro pP e s m args below meth cC s₁ Bd hml0 hP hK
  obtain ⟨rfl, hZ, hh, CH0⟩ := hP
  have hx := Bd.exec
  have W := own_W hw
  have hby := Bd.bytes
  have hml : cC.maxLocals = 2 := hml0
  have hown : s.vm.findClass "java/lang/String" = some m.cls := findClass_of_methodNamed Bd.named
  have hnm := (name_of_methodNamed Bd.named Bd.method).1
  have X0 : Stand pP l e r_1 (s.setVm s.vm) m #[(.ref a), (.ref b)] below meth cC s₁ [] 0 0 := Stand.of_body Bd
  have e0 : s₁.heap = h0 := by rw [← hh, Bd.state]; rfl
  have N0 := Fr.nil n0
  have KC0 : Keep h0 h0 [a] := Keep.refl h0 _
  replace hZ : Z.Warmed39 (s.setVm s.vm).vm := hZ
  replace hown : (s.setVm s.vm).vm.findClass "java/lang/String" = some m.cls := hown
  have SI0 : s.Since s.vm h0.size := (State.WarmedH.refl s).since _
  have SK0 : h0.size ≤ h0.size := Nat.le_refl _
  have CR0 : CHr Z consts_1 s.vm h0 s.vm h0 := CHr.refl CH0
  obtain ⟨A0, hA0⟩ : ∃ ζ, ζ = s₁.setTop (entryFrame m #[(.ref a), (.ref b)] 2) := ⟨_, rfl⟩
  have pre0 : own_go pP e below A0 (s₁.setTop (mkF m 0 #[.val (.ref a), .val (.ref b)] [])) := fun τ κ => by rw [hA0]; exact castTop (ef_rm_emp1 m a b) κ
  obtain ⟨cl101, Ar101, q101, S101, M101, Hs101, G101⟩ := id V_b
  obtain ⟨_, _, ⟨T102, L102, k102, n102⟩, -, X102, S102, G102, ⟨Lc102, hQ102, l102, y102, z102, C102⟩, st102⟩ := X0.specialBackS hx (y := y_0) rfl hown (mvT hZ (W 17 rfl)) (mvT hZ (W 18 rfl)) (mvT hZ (W 20 rfl)) (by decide) (backOfSH (s := s) (vm0 := s.vm) (EL := consts_1) (W := 0) (rm_emp4 l Z a0 hw hEW [] a b h0 n0 Z0 E_a ga F_value F_coder) hZ (W 20 rfl) (W 13 rfl) (by decide) (by decide) hEW CH0) (g := (mkF m 6 #[.val (.ref a), .val (.ref b)] [.null, (.int (0 : Int32)), (.int (0 : Int32)), (.ref b), (.ref a)])) rfl (by rw [hml]; rfl) (Steps.refl _) (a := a) (argsL := [(.ref b), (.int (0 : Int32)), (.int (0 : Int32)), .null]) (rest := []) (lenOf pdo_10 rfl) rfl (Nat.le_of_eq rfl) (hb hby (own_d D_emp1 6 rfl)) (fun _ _ => ⟨rfl, e0, (by decide : 0 + 2 ≤ _), (by decide : 0 + 4 ≤ _)⟩)
  dsimp only [Pt.U, Pt.locs, Pt.cells, Pt.slots] at X102 l102 y102 z102 st102 hQ102 S102 G102 C102
  subst l102 y102 z102
  have G102a : h0.size ≤ T102.heap.size := by first | exact G102 | (rw [← e0]; exact G102)
  obtain ⟨X102, SI102, Z102, O102⟩ := rebS SI0 SK0 X102 S102 G102a hZ hown
  have SK102 : T102.heap.size ≤ T102.heap.size := Nat.le_refl _
  obtain ⟨rfl, Nq102, K102, Ex102, Fc102, t102, kb102, tc102, Fv102, Vt102⟩ := hQ102
  have N102 := Fr.app N0 Nq102
  have pq103 : own_go pP e below A0 (T102.setTop (mkF m 9 #[.val (.ref a), .val (.ref b)] [])) := by
    intro τ κ
    refine pre0 τ ?_
    refine XS.aloadN X0.here hx rfl (hb hby (own_d D_emp1 0 rfl)) rfl rfl ?_
    refine XS.aloadN X0.here hx rfl (hb hby (own_d D_emp1 1 rfl)) rfl rfl ?_
    refine XS.iconst X0.here hx rfl (hb hby (own_d D_emp1 2 rfl)) ?_
    refine XS.aloadN X0.here hx rfl (hb hby (own_d D_emp1 3 rfl)) rfl rfl ?_
    refine X0.arraylength hx (by rw [e0]; exact Ar101.1) (State.isArrayOf_alike hZ.alike Ar101.2.1) (g := (mkF m 4 #[.val (.ref a), .val (.ref b)] [(.ref b), (.int (0 : Int32)), (.ref b), (.ref a)])) rfl rfl (hb hby (own_d D_emp1 4 rfl)) _ ?_
    rw [len_of S101 M101]
    refine XS.aconstNull X0.here hx rfl (hb hby (own_d D_emp1 5 rfl)) ?_
    refine st102.trans ?_
    exact κ
  have KC102 := KC0.trans K102 (allS (Or.inl (List.mem_of_getElem? (i := 0) rfl)) all0)
  have CH102 := C102.1
  have CR102 := CHr.trans CR0 C102
  have SKe := SK102
  obtain ⟨fs, hrE, hrun, hended, hEnd⟩ := X102.leaveW SI102 SKe (v := none) (fun _ => rfl)
  have CHe := CHr.trans CR102 (CHv.at X102 Z102 hEW CH102)
  have pqE := pq103
  rw [hA0] at pqE
  refine ⟨_, _, pqE _ ?_, hrun, hended, _, _, rfl, ?_, ?_, hEnd.1, hEnd.2.1, hEnd.2.2.1, hEnd.2.2.2.mono (by decide) (by decide)⟩
  · show Steps pP.tables e below (T102.setTop (mkF m 9 #[.val (.ref a), .val (.ref b)] [])) _
    exact X102.returnOut hx Bd.returns (hb hby (own_d D_emp1 7 rfl)) hrE
  · show Q_emp Z a h0 n0 _ T102.heap _
    exact ⟨rfl, N102, KC102, Ex102, Fc102, t102, _, tc102, Fv102, Vt102⟩
  · show CHr Z consts_1 s.vm s.heap T102.vm T102.heap
    rw [hh]; exact CHe
def Q_ch (a b c : Int64) (i : Int32) (h0 : Heap) (n0 : Nat) (v : Option Value) (h : Heap) (L : List Loc) : Prop := v = some (.int (own_ch a b c i)) ∧ Fr n0 L ∧ h = h0
theorem D_ch : ∀ q ∈ ([(0, .iload 6, 2), (2, .iconst 3, 1), (3, .irem, 1), (4, .istore 7, 2), (6, .iload 7, 2), (8, .ifCond .ne 7, 3), (11, .lload_n 0, 1), (12, .goto 15, 3), (15, .iload 7, 2), (17, .iconst 1, 1), (18, .if_icmp .ne 7, 3), (21, .lload_n 2, 1), (22, .goto 5, 3), (25, .lload 4, 2), (27, .lstore 8, 2), (29, .iload 6, 2), (31, .iconst 3, 1), (32, .idiv, 1), (33, .iconst 3, 1), (34, .iand, 1), (35, .bipush 16, 2), (37, .imul, 1), (38, .istore 10, 2), (40, .lload 8, 2), (42, .iload 10, 2), (44, .lushr, 1), (45, .iload 6, 2), (47, .ldc 32, 2), (49, .imul, 1), (50, .i2l, 1), (51, .lxor, 1), (52, .l2i, 1), (53, .i2c, 1), (54, .ireturn, 1)] : List (Nat × Instr × Nat)), decode method_4_code q.1 = .ok q.2 := by decide +kernel
theorem ef_rm_ch (m : MethodId) (x0 : Int64) (x1 : Int64) (x2 : Int64) (x3 : Int32) : entryFrame m #[(.long x0), (.long x1), (.long x2), (.int x3)] 11 = mkF m 0 #[.val (.long x0), .second, .val (.long x1), .second, .val (.long x2), .second, .val (.int x3), .unset, .unset, .unset, .unset] [] := by first | (simp [entryFrame, mkF, argsToLocals, Value.category]; done) | rfl
theorem rm_ch (l : Launch) (Z : State) (a0 : Array Value) (hw : ∀ d ∈ tables_1, d.before a0 Z = true) (ws : List Jvm.Cond) (a b c : Int64) (i : Int32) (h0 : Heap) (n0 : Nat) (Z0 : n0 ≤ h0.size) :
    MetFree l y_2 (head1 (Jvm.Cond.code y_2 method_4_code 11 (some .char) :: ws) r_2) (fun αs U => αs = #[(.long a), (.long b), (.long c), (.int i)] ∧ Z.Warmed39 U.vm ∧ U.heap = h0) (fun _ _ _ _ _ => True) (fun _ Us oS Us' => ∃ vR LR, oS = .returned vR ∧ Q_ch a b c i h0 n0 vR Us'.heap LR ∧ FrameEnd Us oS Us' LR r_2.cells r_2.slots) := by
  refine MetFree.of_bodySF (plainFor_of_name pno_0) hisR ?_
  intro pP e s m args below meth cC s₁ Bd hml0 hP hK
  obtain ⟨rfl, hZ, hh⟩ := hP
  have hx := Bd.exec
  have W := own_W hw
  have hby := Bd.bytes
  have hml : cC.maxLocals = 11 := hml0
  have hown : s.vm.findClass "com/example/stateful_search/statefulsearch/format/ExcerptsAbbreviatePinLaw" = some m.cls := findClass_of_methodNamed Bd.named
  have hnm := (name_of_methodNamed Bd.named Bd.method).1
  have X0 : Stand pP l e r_2 s m #[(.long a), (.long b), (.long c), (.int i)] below meth cC s₁ [] 0 0 := Stand.of_body Bd
  have e0 : s₁.heap = h0 := by rw [← hh, Bd.state]; rfl
  have N0 := Fr.nil n0
  have KC0 : Keep h0 h0 [] := Keep.refl h0 _
  obtain ⟨A0, hA0⟩ : ∃ ζ, ζ = s₁.setTop (entryFrame m #[(.long a), (.long b), (.long c), (.int i)] 11) := ⟨_, rfl⟩
  have pre0 : own_go pP e below A0 (s₁.setTop (mkF m 0 #[.val (.long a), .second, .val (.long b), .second, .val (.long c), .second, .val (.int i), .unset, .unset, .unset, .unset] [])) := fun τ κ => by rw [hA0]; exact castTop (ef_rm_ch m a b c i) κ
  have pq101 : own_go pP e below A0 (s₁.setTop (mkF m 8 #[.val (.long a), .second, .val (.long b), .second, .val (.long c), .second, .val (.int i), .val (.int (i % (3 : Int32))), .unset, .unset, .unset] [(.int (i % (3 : Int32)))])) := by
    intro τ κ
    refine pre0 τ ?_
    refine XS.iload X0.here hx rfl (hb hby (own_d D_ch 0 rfl)) rfl ?_
    refine XS.iconst X0.here hx rfl (hb hby (own_d D_ch 1 rfl)) ?_
    refine iremM X0 hx rfl (hb hby (own_d D_ch 2 rfl)) rfl (by decide) ?_
    refine XS.istore X0.here hx rfl (hb hby (own_d D_ch 3 rfl)) rfl (l' := #[.val (.long a), .second, .val (.long b), .second, .val (.long c), .second, .val (.int i), .val (.int (i % (3 : Int32))), .unset, .unset, .unset]) rfl ?_
    refine XS.iload X0.here hx rfl (hb hby (own_d D_ch 4 rfl)) rfl ?_
    exact κ
  by_cases hc8_102 : (i % (3 : Int32)) = (0 : Int32)
  · skip
    obtain ⟨fs, hrE, hrun, hended, hW, hsame⟩ := X0.leave (v := some (.int (nar .char (((((a.toUInt64 >>> ((((i / (3 : Int32)) &&& (3 : Int32)) * (16 : Int32)) &&& 0x3f).toInt64.toUInt64).toInt64) ^^^ ((i * (40503 : Int32)).toInt64)).toInt32).toUInt32.toUInt16.toUInt32.toInt32)))) (fun h => by rw [Bd.returns] at h; cases h)
    have pqE := pq101
    rw [hA0] at pqE
    refine ⟨_, _, pqE _ ?_, hrun, hended, _, _, rfl, ?_, ⟨_, rfl⟩, hW, hsame.mono (by decide) (by decide)⟩
    · refine XS.ifNo X0.here hx rfl (hb hby (own_d D_ch 5 rfl)) rfl ((if0 _ _).trans (teq hc8_102).2) ?_
      refine XS.lloadN X0.here hx rfl (hb hby (own_d D_ch 6 rfl)) rfl ?_
      refine XS.goto X0.here hx rfl (pc0 := 12) (pc' := 27) rfl (hb hby (own_d D_ch 7 rfl)) (by decide) (by decide) ?_
      refine XS.lstore X0.here hx rfl (hb hby (own_d D_ch 14 rfl)) rfl (l' := #[.val (.long a), .second, .val (.long b), .second, .val (.long c), .second, .val (.int i), .val (.int (i % (3 : Int32))), .val (.long a), .second, .unset]) rfl ?_
      refine XS.iload X0.here hx rfl (hb hby (own_d D_ch 15 rfl)) rfl ?_
      refine XS.iconst X0.here hx rfl (hb hby (own_d D_ch 16 rfl)) ?_
      refine XS.idiv X0.here hx rfl (hb hby (own_d D_ch 17 rfl)) rfl (by decide) ?_
      refine XS.iconst X0.here hx rfl (hb hby (own_d D_ch 18 rfl)) ?_
      refine XS.iand X0.here hx rfl (hb hby (own_d D_ch 19 rfl)) rfl ?_
      refine XS.bipush X0.here hx rfl (hb hby (own_d D_ch 20 rfl)) ?_
      refine XS.imul X0.here hx rfl (hb hby (own_d D_ch 21 rfl)) rfl ?_
      refine XS.istore X0.here hx rfl (hb hby (own_d D_ch 22 rfl)) rfl (l' := #[.val (.long a), .second, .val (.long b), .second, .val (.long c), .second, .val (.int i), .val (.int (i % (3 : Int32))), .val (.long a), .second, .val (.int (((i / (3 : Int32)) &&& (3 : Int32)) * (16 : Int32)))]) rfl ?_
      refine XS.lload X0.here hx rfl (hb hby (own_d D_ch 23 rfl)) rfl ?_
      refine XS.iload X0.here hx rfl (hb hby (own_d D_ch 24 rfl)) rfl ?_
      refine XS.lushr X0.here hx rfl (hb hby (own_d D_ch 25 rfl)) rfl ?_
      refine XS.iload X0.here hx rfl (hb hby (own_d D_ch 26 rfl)) rfl ?_
      refine X0.ldcInt hx hown (mvT hZ (W 35 rfl)) (g := (mkF m 47 #[.val (.long a), .second, .val (.long b), .second, .val (.long c), .second, .val (.int i), .val (.int (i % (3 : Int32))), .val (.long a), .second, .val (.int (((i / (3 : Int32)) &&& (3 : Int32)) * (16 : Int32)))] [(.int i), (.long ((a.toUInt64 >>> ((((i / (3 : Int32)) &&& (3 : Int32)) * (16 : Int32)) &&& 0x3f).toInt64.toUInt64).toInt64))])) rfl (hb hby (own_d D_ch 27 rfl)) _ ?_
      refine XS.imul X0.here hx rfl (hb hby (own_d D_ch 28 rfl)) rfl ?_
      refine XS.i2l X0.here hx rfl (hb hby (own_d D_ch 29 rfl)) rfl ?_
      refine XS.lxor X0.here hx rfl (hb hby (own_d D_ch 30 rfl)) rfl ?_
      refine XS.l2i X0.here hx rfl (hb hby (own_d D_ch 31 rfl)) rfl ?_
      refine XS.i2c X0.here hx rfl (hb hby (own_d D_ch 32 rfl)) rfl ?_
      show Steps pP.tables e below (s₁.setTop (mkF m 54 #[.val (.long a), .second, .val (.long b), .second, .val (.long c), .second, .val (.int i), .val (.int (i % (3 : Int32))), .val (.long a), .second, .val (.int (((i / (3 : Int32)) &&& (3 : Int32)) * (16 : Int32)))] [(.int (((((a.toUInt64 >>> ((((i / (3 : Int32)) &&& (3 : Int32)) * (16 : Int32)) &&& 0x3f).toInt64.toUInt64).toInt64) ^^^ ((i * (40503 : Int32)).toInt64)).toInt32).toUInt32.toUInt16.toUInt32.toInt32))])) _
      exact retN X0 hx (t := .char) Bd.returns (by simp) (hb hby (own_d D_ch 33 rfl)) hrE
    · show Q_ch a b c i h0 n0 _ s₁.heap _
      rw [e0]
      exact ⟨by rw [own_ch, if_pos hc8_102], N0, rfl⟩
  · skip
    have pq103 : own_go pP e below A0 (s₁.setTop (mkF m 18 #[.val (.long a), .second, .val (.long b), .second, .val (.long c), .second, .val (.int i), .val (.int (i % (3 : Int32))), .unset, .unset, .unset] [(.int (1 : Int32)), (.int (i % (3 : Int32)))])) := by
      intro τ κ
      refine pq101 τ ?_
      refine XS.ifYes X0.here hx rfl (pc0 := 8) (pc' := 15) rfl (hb hby (own_d D_ch 5 rfl)) rfl ((if0 _ _).trans (feq hc8_102).2) (by decide) (by decide) ?_
      refine XS.iload X0.here hx rfl (hb hby (own_d D_ch 8 rfl)) rfl ?_
      refine XS.iconst X0.here hx rfl (hb hby (own_d D_ch 9 rfl)) ?_
      exact κ
    by_cases hc18_104 : (i % (3 : Int32)) = (1 : Int32)
    · skip
      obtain ⟨fs, hrE, hrun, hended, hW, hsame⟩ := X0.leave (v := some (.int (nar .char (((((b.toUInt64 >>> ((((i / (3 : Int32)) &&& (3 : Int32)) * (16 : Int32)) &&& 0x3f).toInt64.toUInt64).toInt64) ^^^ ((i * (40503 : Int32)).toInt64)).toInt32).toUInt32.toUInt16.toUInt32.toInt32)))) (fun h => by rw [Bd.returns] at h; cases h)
      have pqE := pq103
      rw [hA0] at pqE
      refine ⟨_, _, pqE _ ?_, hrun, hended, _, _, rfl, ?_, ⟨_, rfl⟩, hW, hsame.mono (by decide) (by decide)⟩
      · refine XS.icmpNo X0.here hx rfl (hb hby (own_d D_ch 10 rfl)) rfl (teq hc18_104).2 ?_
        refine XS.lloadN X0.here hx rfl (hb hby (own_d D_ch 11 rfl)) rfl ?_
        refine XS.goto X0.here hx rfl (pc0 := 22) (pc' := 27) rfl (hb hby (own_d D_ch 12 rfl)) (by decide) (by decide) ?_
        refine XS.lstore X0.here hx rfl (hb hby (own_d D_ch 14 rfl)) rfl (l' := #[.val (.long a), .second, .val (.long b), .second, .val (.long c), .second, .val (.int i), .val (.int (i % (3 : Int32))), .val (.long b), .second, .unset]) rfl ?_
        refine XS.iload X0.here hx rfl (hb hby (own_d D_ch 15 rfl)) rfl ?_
        refine XS.iconst X0.here hx rfl (hb hby (own_d D_ch 16 rfl)) ?_
        refine XS.idiv X0.here hx rfl (hb hby (own_d D_ch 17 rfl)) rfl (by decide) ?_
        refine XS.iconst X0.here hx rfl (hb hby (own_d D_ch 18 rfl)) ?_
        refine XS.iand X0.here hx rfl (hb hby (own_d D_ch 19 rfl)) rfl ?_
        refine XS.bipush X0.here hx rfl (hb hby (own_d D_ch 20 rfl)) ?_
        refine XS.imul X0.here hx rfl (hb hby (own_d D_ch 21 rfl)) rfl ?_
        refine XS.istore X0.here hx rfl (hb hby (own_d D_ch 22 rfl)) rfl (l' := #[.val (.long a), .second, .val (.long b), .second, .val (.long c), .second, .val (.int i), .val (.int (i % (3 : Int32))), .val (.long b), .second, .val (.int (((i / (3 : Int32)) &&& (3 : Int32)) * (16 : Int32)))]) rfl ?_
        refine XS.lload X0.here hx rfl (hb hby (own_d D_ch 23 rfl)) rfl ?_
        refine XS.iload X0.here hx rfl (hb hby (own_d D_ch 24 rfl)) rfl ?_
        refine XS.lushr X0.here hx rfl (hb hby (own_d D_ch 25 rfl)) rfl ?_
        refine XS.iload X0.here hx rfl (hb hby (own_d D_ch 26 rfl)) rfl ?_
        refine X0.ldcInt hx hown (mvT hZ (W 35 rfl)) (g := (mkF m 47 #[.val (.long a), .second, .val (.long b), .second, .val (.long c), .second, .val (.int i), .val (.int (i % (3 : Int32))), .val (.long b), .second, .val (.int (((i / (3 : Int32)) &&& (3 : Int32)) * (16 : Int32)))] [(.int i), (.long ((b.toUInt64 >>> ((((i / (3 : Int32)) &&& (3 : Int32)) * (16 : Int32)) &&& 0x3f).toInt64.toUInt64).toInt64))])) rfl (hb hby (own_d D_ch 27 rfl)) _ ?_
        refine XS.imul X0.here hx rfl (hb hby (own_d D_ch 28 rfl)) rfl ?_
        refine XS.i2l X0.here hx rfl (hb hby (own_d D_ch 29 rfl)) rfl ?_
        refine XS.lxor X0.here hx rfl (hb hby (own_d D_ch 30 rfl)) rfl ?_
        refine XS.l2i X0.here hx rfl (hb hby (own_d D_ch 31 rfl)) rfl ?_
        refine XS.i2c X0.here hx rfl (hb hby (own_d D_ch 32 rfl)) rfl ?_
        show Steps pP.tables e below (s₁.setTop (mkF m 54 #[.val (.long a), .second, .val (.long b), .second, .val (.long c), .second, .val (.int i), .val (.int (i % (3 : Int32))), .val (.long b), .second, .val (.int (((i / (3 : Int32)) &&& (3 : Int32)) * (16 : Int32)))] [(.int (((((b.toUInt64 >>> ((((i / (3 : Int32)) &&& (3 : Int32)) * (16 : Int32)) &&& 0x3f).toInt64.toUInt64).toInt64) ^^^ ((i * (40503 : Int32)).toInt64)).toInt32).toUInt32.toUInt16.toUInt32.toInt32))])) _
        exact retN X0 hx (t := .char) Bd.returns (by simp) (hb hby (own_d D_ch 33 rfl)) hrE
      · show Q_ch a b c i h0 n0 _ s₁.heap _
        rw [e0]
        exact ⟨by rw [own_ch, if_neg hc8_102, if_pos hc18_104], N0, rfl⟩
    · skip
      obtain ⟨fs, hrE, hrun, hended, hW, hsame⟩ := X0.leave (v := some (.int (nar .char (((((c.toUInt64 >>> ((((i / (3 : Int32)) &&& (3 : Int32)) * (16 : Int32)) &&& 0x3f).toInt64.toUInt64).toInt64) ^^^ ((i * (40503 : Int32)).toInt64)).toInt32).toUInt32.toUInt16.toUInt32.toInt32)))) (fun h => by rw [Bd.returns] at h; cases h)
      have pqE := pq103
      rw [hA0] at pqE
      refine ⟨_, _, pqE _ ?_, hrun, hended, _, _, rfl, ?_, ⟨_, rfl⟩, hW, hsame.mono (by decide) (by decide)⟩
      · refine XS.icmpYes X0.here hx rfl (pc0 := 18) (pc' := 25) rfl (hb hby (own_d D_ch 10 rfl)) rfl (feq hc18_104).2 (by decide) (by decide) ?_
        refine XS.lload X0.here hx rfl (hb hby (own_d D_ch 13 rfl)) rfl ?_
        refine XS.lstore X0.here hx rfl (hb hby (own_d D_ch 14 rfl)) rfl (l' := #[.val (.long a), .second, .val (.long b), .second, .val (.long c), .second, .val (.int i), .val (.int (i % (3 : Int32))), .val (.long c), .second, .unset]) rfl ?_
        refine XS.iload X0.here hx rfl (hb hby (own_d D_ch 15 rfl)) rfl ?_
        refine XS.iconst X0.here hx rfl (hb hby (own_d D_ch 16 rfl)) ?_
        refine XS.idiv X0.here hx rfl (hb hby (own_d D_ch 17 rfl)) rfl (by decide) ?_
        refine XS.iconst X0.here hx rfl (hb hby (own_d D_ch 18 rfl)) ?_
        refine XS.iand X0.here hx rfl (hb hby (own_d D_ch 19 rfl)) rfl ?_
        refine XS.bipush X0.here hx rfl (hb hby (own_d D_ch 20 rfl)) ?_
        refine XS.imul X0.here hx rfl (hb hby (own_d D_ch 21 rfl)) rfl ?_
        refine XS.istore X0.here hx rfl (hb hby (own_d D_ch 22 rfl)) rfl (l' := #[.val (.long a), .second, .val (.long b), .second, .val (.long c), .second, .val (.int i), .val (.int (i % (3 : Int32))), .val (.long c), .second, .val (.int (((i / (3 : Int32)) &&& (3 : Int32)) * (16 : Int32)))]) rfl ?_
        refine XS.lload X0.here hx rfl (hb hby (own_d D_ch 23 rfl)) rfl ?_
        refine XS.iload X0.here hx rfl (hb hby (own_d D_ch 24 rfl)) rfl ?_
        refine XS.lushr X0.here hx rfl (hb hby (own_d D_ch 25 rfl)) rfl ?_
        refine XS.iload X0.here hx rfl (hb hby (own_d D_ch 26 rfl)) rfl ?_
        refine X0.ldcInt hx hown (mvT hZ (W 35 rfl)) (g := (mkF m 47 #[.val (.long a), .second, .val (.long b), .second, .val (.long c), .second, .val (.int i), .val (.int (i % (3 : Int32))), .val (.long c), .second, .val (.int (((i / (3 : Int32)) &&& (3 : Int32)) * (16 : Int32)))] [(.int i), (.long ((c.toUInt64 >>> ((((i / (3 : Int32)) &&& (3 : Int32)) * (16 : Int32)) &&& 0x3f).toInt64.toUInt64).toInt64))])) rfl (hb hby (own_d D_ch 27 rfl)) _ ?_
        refine XS.imul X0.here hx rfl (hb hby (own_d D_ch 28 rfl)) rfl ?_
        refine XS.i2l X0.here hx rfl (hb hby (own_d D_ch 29 rfl)) rfl ?_
        refine XS.lxor X0.here hx rfl (hb hby (own_d D_ch 30 rfl)) rfl ?_
        refine XS.l2i X0.here hx rfl (hb hby (own_d D_ch 31 rfl)) rfl ?_
        refine XS.i2c X0.here hx rfl (hb hby (own_d D_ch 32 rfl)) rfl ?_
        show Steps pP.tables e below (s₁.setTop (mkF m 54 #[.val (.long a), .second, .val (.long b), .second, .val (.long c), .second, .val (.int i), .val (.int (i % (3 : Int32))), .val (.long c), .second, .val (.int (((i / (3 : Int32)) &&& (3 : Int32)) * (16 : Int32)))] [(.int (((((c.toUInt64 >>> ((((i / (3 : Int32)) &&& (3 : Int32)) * (16 : Int32)) &&& 0x3f).toInt64.toUInt64).toInt64) ^^^ ((i * (40503 : Int32)).toInt64)).toInt32).toUInt32.toUInt16.toUInt32.toInt32))])) _
        exact retN X0 hx (t := .char) Bd.returns (by simp) (hb hby (own_d D_ch 33 rfl)) hrE
      · show Q_ch a b c i h0 n0 _ s₁.heap _
        rw [e0]
        exact ⟨by rw [own_ch, if_neg hc8_102, if_neg hc18_104], N0, rfl⟩
def Q_put (Z : State) (t : Addr) (k : ClassId) (n lim i : Nat) (a b c : Int64) (vs : List Value) (h0 : Heap) (n0 : Nat) (v : Option Value) (h : Heap) (L : List Loc) : Prop := v = none ∧ Fr n0 L ∧ Keep h0 h [t] ∧ Arv Z h t k .char (Int32.ofNat n) (own_put a b c n lim i vs) (.int 0)
theorem D_put : ∀ q ∈ ([(0, .iload_n 1, 1), (1, .aload_n 0, 1), (2, .arraylength, 1), (3, .if_icmp .ge 21, 3), (6, .iload_n 1, 1), (7, .iload 8, 2), (9, .if_icmp .ge 15, 3), (12, .aload_n 0, 1), (13, .iload_n 1, 1), (14, .lload_n 2, 1), (15, .lload 4, 2), (17, .lload 6, 2), (19, .iload_n 1, 1), (20, .invokestatic 33, 3), (23, .castore, 1), (24, .return_, 1)] : List (Nat × Instr × Nat)), decode method_5_code q.1 = .ok q.2 := by decide +kernel
theorem ef_rm_put (m : MethodId) (x0 : Addr) (x1 : Int32) (x2 : Int64) (x3 : Int64) (x4 : Int64) (x5 : Int32) : entryFrame m #[(.ref x0), (.int x1), (.long x2), (.long x3), (.long x4), (.int x5)] 9 = mkF m 0 #[.val (.ref x0), .val (.int x1), .val (.long x2), .second, .val (.long x3), .second, .val (.long x4), .second, .val (.int x5)] [] := by first | (simp [entryFrame, mkF, argsToLocals, Value.category]; done) | rfl
theorem rm_put (l : Launch) (Z : State) (a0 : Array Value) (hw : ∀ d ∈ tables_1, d.before a0 Z = true) (ws : List Jvm.Cond) (t : Addr) (k : ClassId) (n lim i : Nat) (a b c : Int64) (vs : List Value) (h0 : Heap) (n0 : Nat) (Z0 : n0 ≤ h0.size) (V_t : Arv Z h0 t k .char (Int32.ofNat n) vs (.int 0)) (gt : n0 ≤ t) (hn : n ≤ 45) (hi : i < 45) (hv : vs.length = 45) :
    MetFree l y_3 (head1 (Jvm.Cond.code y_3 method_5_code 9 none :: ws) r_3) (fun αs U => αs = #[(.ref t), (.int (Int32.ofNat i)), (.long a), (.long b), (.long c), (.int (Int32.ofNat lim))] ∧ Z.Warmed39 U.vm ∧ U.heap = h0) (fun _ _ _ _ _ => True) (fun _ Us oS Us' => ∃ vR LR, oS = .returned vR ∧ Q_put Z t k n lim i a b c vs h0 n0 vR Us'.heap LR ∧ FrameEnd Us oS Us' LR r_3.cells r_3.slots) := by
  refine MetFree.of_bodySF (plainFor_of_name pno_0) hisR ?_
  intro pP e s m args below meth cC s₁ Bd hml0 hP hK
  obtain ⟨rfl, hZ, hh⟩ := hP
  have hx := Bd.exec
  have W := own_W hw
  have hby := Bd.bytes
  have hml : cC.maxLocals = 9 := hml0
  have hown : s.vm.findClass "com/example/stateful_search/statefulsearch/format/ExcerptsAbbreviatePinLaw" = some m.cls := findClass_of_methodNamed Bd.named
  have hnm := (name_of_methodNamed Bd.named Bd.method).1
  have X0 : Stand pP l e r_3 s m #[(.ref t), (.int (Int32.ofNat i)), (.long a), (.long b), (.long c), (.int (Int32.ofNat lim))] below meth cC s₁ [] 0 0 := Stand.of_body Bd
  have e0 : s₁.heap = h0 := by rw [← hh, Bd.state]; rfl
  have N0 := Fr.nil n0
  have KC0 : Keep h0 h0 [t] := Keep.refl h0 _
  obtain ⟨A0, hA0⟩ : ∃ ζ, ζ = s₁.setTop (entryFrame m #[(.ref t), (.int (Int32.ofNat i)), (.long a), (.long b), (.long c), (.int (Int32.ofNat lim))] 9) := ⟨_, rfl⟩
  have pre0 : own_go pP e below A0 (s₁.setTop (mkF m 0 #[.val (.ref t), .val (.int (Int32.ofNat i)), .val (.long a), .second, .val (.long b), .second, .val (.long c), .second, .val (.int (Int32.ofNat lim))] [])) := fun τ κ => by rw [hA0]; exact castTop (ef_rm_put m t (Int32.ofNat i) a b c (Int32.ofNat lim)) κ
  obtain ⟨cl101, Ar101, q101, S101, M101, Hs101, G101⟩ := id V_t
  have pq102 : own_go pP e below A0 (s₁.setTop (mkF m 3 #[.val (.ref t), .val (.int (Int32.ofNat i)), .val (.long a), .second, .val (.long b), .second, .val (.long c), .second, .val (.int (Int32.ofNat lim))] [(.int (Int32.ofNat n)), (.int (Int32.ofNat i))])) := by
    intro τ κ
    refine pre0 τ ?_
    refine XS.iloadN X0.here hx rfl (hb hby (own_d D_put 0 rfl)) rfl ?_
    refine XS.aloadN X0.here hx rfl (hb hby (own_d D_put 1 rfl)) rfl rfl ?_
    refine X0.arraylength hx (by rw [e0]; exact Ar101.1) (State.isArrayOf_alike hZ.alike Ar101.2.1) (g := (mkF m 2 #[.val (.ref t), .val (.int (Int32.ofNat i)), .val (.long a), .second, .val (.long b), .second, .val (.long c), .second, .val (.int (Int32.ofNat lim))] [(.ref t), (.int (Int32.ofNat i))])) rfl rfl (hb hby (own_d D_put 2 rfl)) _ ?_
    rw [len_of S101 M101]
    exact κ
  by_cases hc3_103 : (Int32.ofNat i) < (Int32.ofNat n)
  · skip
    have pq104 : own_go pP e below A0 (s₁.setTop (mkF m 9 #[.val (.ref t), .val (.int (Int32.ofNat i)), .val (.long a), .second, .val (.long b), .second, .val (.long c), .second, .val (.int (Int32.ofNat lim))] [(.int (Int32.ofNat lim)), (.int (Int32.ofNat i))])) := by
      intro τ κ
      refine pq102 τ ?_
      refine XS.icmpNo X0.here hx rfl (hb hby (own_d D_put 3 rfl)) rfl (tlt hc3_103).2.1 ?_
      refine XS.iloadN X0.here hx rfl (hb hby (own_d D_put 4 rfl)) rfl ?_
      refine XS.iload X0.here hx rfl (hb hby (own_d D_put 5 rfl)) rfl ?_
      exact κ
    by_cases hc9_105 : (Int32.ofNat i) < (Int32.ofNat lim)
    · skip
      obtain ⟨_, _, ⟨T106, L106, k106, n106⟩, -, X106, ⟨Lc106, hQ106, l106, y106, z106⟩, st106⟩ := Jvm.LawKit.callS X0 hx (y := y_2) hown (mvT hZ (W 32 rfl)) (mvT hZ (W 33 rfl)) (mvT hZ (W 2 rfl)) (mvT hZ (W 34 rfl)) (by decide) (backOf (W := 2) (rm_ch l Z a0 hw [] a b c (Int32.ofNat i) h0 n0 Z0 ) hZ (W 34 rfl) (W 2 rfl) (by decide) (by decide)) (g := (mkF m 20 #[.val (.ref t), .val (.int (Int32.ofNat i)), .val (.long a), .second, .val (.long b), .second, .val (.long c), .second, .val (.int (Int32.ofNat lim))] [(.int (Int32.ofNat i)), (.long c), (.long b), (.long a), (.int (Int32.ofNat i)), (.ref t)])) rfl (by rw [hml]; rfl) (argsL := [(.long a), (.long b), (.long c), (.int (Int32.ofNat i))]) (rest := [(.int (Int32.ofNat i)), (.ref t)]) (lenOf pdo_0 rfl) rfl (Nat.le_of_eq rfl) (hb hby (own_d D_put 13 rfl)) (fun _ _ => ⟨rfl, e0, (by decide : 0 + 0 ≤ _), (by decide : 0 + 0 ≤ _)⟩)
      dsimp only [Pt.U, Pt.locs, Pt.cells, Pt.slots] at X106 l106 y106 z106 st106 hQ106
      subst l106 y106 z106
      obtain ⟨rfl, Nq106, eq106⟩ := hQ106
      have N106 := Fr.app N0 Nq106
      have pq107 : own_go pP e below A0 (T106.setTop (mkF m 23 #[.val (.ref t), .val (.int (Int32.ofNat i)), .val (.long a), .second, .val (.long b), .second, .val (.long c), .second, .val (.int (Int32.ofNat lim))] [(.int (own_ch a b c (Int32.ofNat i))), (.int (Int32.ofNat i)), (.ref t)])) := by
        intro τ κ
        refine pq104 τ ?_
        refine XS.icmpNo X0.here hx rfl (hb hby (own_d D_put 6 rfl)) rfl (tlt hc9_105).2.1 ?_
        refine XS.aloadN X0.here hx rfl (hb hby (own_d D_put 7 rfl)) rfl rfl ?_
        refine XS.iloadN X0.here hx rfl (hb hby (own_d D_put 8 rfl)) rfl ?_
        refine XS.lloadN X0.here hx rfl (hb hby (own_d D_put 9 rfl)) rfl ?_
        refine XS.lload X0.here hx rfl (hb hby (own_d D_put 10 rfl)) rfl ?_
        refine XS.lload X0.here hx rfl (hb hby (own_d D_put 11 rfl)) rfl ?_
        refine XS.iloadN X0.here hx rfl (hb hby (own_d D_put 12 rfl)) rfl ?_
        refine st106 _ ?_
        exact κ
      obtain ⟨cl108, Ar108, q108, S108, M108, Hs108, G108⟩ := id V_t
      obtain ⟨T108, h108, X108, e108, W108, st108⟩ := stC X106 hx hZ eq106 Ar108 (j := (Int32.ofNat i)) (inb_of S108 ⟨own_nn (by omega), hc3_103⟩) (g := (mkF m 23 #[.val (.ref t), .val (.int (Int32.ofNat i)), .val (.long a), .second, .val (.long b), .second, .val (.long c), .second, .val (.int (Int32.ofNat lim))] [(.int (own_ch a b c (Int32.ofNat i))), (.int (Int32.ofNat i)), (.ref t)])) rfl rfl (hb hby (own_d D_put 14 rfl))
      have pq109 : own_go pP e below A0 (T108.setTop (mkF m 24 #[.val (.ref t), .val (.int (Int32.ofNat i)), .val (.long a), .second, .val (.long b), .second, .val (.long c), .second, .val (.int (Int32.ofNat lim))] [])) := by
        intro τ κ
        refine pq107 τ ?_
        refine st108 _ ?_
        exact κ
      have KC108 := KC0.wr W108 (Or.inl (List.mem_of_getElem? (i := 0) rfl))
      have V108 : Arv Z h108 t k .char (Int32.ofNat n) (vs.set i (.int (nar .char (own_ch a b c (Int32.ofNat i))))) (.int 0) := Arv.set Ar108 q108 S108 M108 Hs108 G108 (fits_nar_char _) W108 i (own_ofn (by omega)) (by omega)
      have N108 := Fr.snoc X108 N106 gt
      obtain ⟨fs, hrE, hrun, hended, hW, hsame⟩ := X108.leave (v := none) (fun _ => rfl)
      have pqE := pq109
      rw [hA0] at pqE
      refine ⟨_, _, pqE _ ?_, hrun, hended, _, _, rfl, ?_, ⟨_, rfl⟩, hW, hsame.mono (by decide) (by decide)⟩
      · show Steps pP.tables e below (T108.setTop (mkF m 24 #[.val (.ref t), .val (.int (Int32.ofNat i)), .val (.long a), .second, .val (.long b), .second, .val (.long c), .second, .val (.int (Int32.ofNat lim))] [])) _
        exact X108.returnOut hx Bd.returns (hb hby (own_d D_put 15 rfl)) hrE
      · show Q_put Z t k n lim i a b c vs h0 n0 _ T108.heap _
        rw [e108]
        exact ⟨rfl, N108, KC108, by rw [own_put, if_pos hc3_103, if_pos hc9_105]; exact V108⟩
    · skip
      obtain ⟨fs, hrE, hrun, hended, hW, hsame⟩ := X0.leave (v := none) (fun _ => rfl)
      have pqE := pq104
      rw [hA0] at pqE
      refine ⟨_, _, pqE _ ?_, hrun, hended, _, _, rfl, ?_, ⟨_, rfl⟩, hW, hsame.mono (by decide) (by decide)⟩
      · refine XS.icmpYes X0.here hx rfl (pc0 := 9) (pc' := 24) rfl (hb hby (own_d D_put 6 rfl)) rfl (flt hc9_105).2.1 (by decide) (by decide) ?_
        show Steps pP.tables e below (s₁.setTop (mkF m 24 #[.val (.ref t), .val (.int (Int32.ofNat i)), .val (.long a), .second, .val (.long b), .second, .val (.long c), .second, .val (.int (Int32.ofNat lim))] [])) _
        exact X0.returnOut hx Bd.returns (hb hby (own_d D_put 15 rfl)) hrE
      · show Q_put Z t k n lim i a b c vs h0 n0 _ s₁.heap _
        rw [e0]
        exact ⟨rfl, N0, KC0, by rw [own_put, if_pos hc3_103, if_neg hc9_105]; exact V_t⟩
  · skip
    obtain ⟨fs, hrE, hrun, hended, hW, hsame⟩ := X0.leave (v := none) (fun _ => rfl)
    have pqE := pq102
    rw [hA0] at pqE
    refine ⟨_, _, pqE _ ?_, hrun, hended, _, _, rfl, ?_, ⟨_, rfl⟩, hW, hsame.mono (by decide) (by decide)⟩
    · refine XS.icmpYes X0.here hx rfl (pc0 := 3) (pc' := 24) rfl (hb hby (own_d D_put 3 rfl)) rfl (flt hc3_103).2.1 (by decide) (by decide) ?_
      show Steps pP.tables e below (s₁.setTop (mkF m 24 #[.val (.ref t), .val (.int (Int32.ofNat i)), .val (.long a), .second, .val (.long b), .second, .val (.long c), .second, .val (.int (Int32.ofNat lim))] [])) _
      exact X0.returnOut hx Bd.returns (hb hby (own_d D_put 15 rfl)) hrE
    · show Q_put Z t k n lim i a b c vs h0 n0 _ s₁.heap _
      rw [e0]
      exact ⟨rfl, N0, KC0, by rw [own_put, if_neg hc3_103]; exact V_t⟩
def Q_fill (Z : State) (t : Addr) (k : ClassId) (n lim : Nat) (a b c : Int64) (vs : List Value) (h0 : Heap) (n0 : Nat) (v : Option Value) (h : Heap) (L : List Loc) : Prop := v = none ∧ Fr n0 L ∧ Keep h0 h [t] ∧ Arv Z h t k .char (Int32.ofNat n) (own_fill a b c n lim 45 vs) (.int 0)
theorem D_fill : ∀ q ∈ ([(0, .aload_n 0, 1), (1, .iconst 0, 1), (2, .lload_n 1, 1), (3, .lload_n 3, 1), (4, .lload 5, 2), (6, .iload 7, 2), (8, .invokestatic 37, 3), (11, .aload_n 0, 1), (12, .iconst 1, 1), (13, .lload_n 1, 1), (14, .lload_n 3, 1), (15, .lload 5, 2), (17, .iload 7, 2), (19, .invokestatic 37, 3), (22, .aload_n 0, 1), (23, .iconst 2, 1), (24, .lload_n 1, 1), (25, .lload_n 3, 1), (26, .lload 5, 2), (28, .iload 7, 2), (30, .invokestatic 37, 3), (33, .aload_n 0, 1), (34, .iconst 3, 1), (35, .lload_n 1, 1), (36, .lload_n 3, 1), (37, .lload 5, 2), (39, .iload 7, 2), (41, .invokestatic 37, 3), (44, .aload_n 0, 1), (45, .iconst 4, 1), (46, .lload_n 1, 1), (47, .lload_n 3, 1), (48, .lload 5, 2), (50, .iload 7, 2), (52, .invokestatic 37, 3), (55, .aload_n 0, 1), (56, .iconst 5, 1), (57, .lload_n 1, 1), (58, .lload_n 3, 1), (59, .lload 5, 2), (61, .iload 7, 2), (63, .invokestatic 37, 3), (66, .aload_n 0, 1), (67, .bipush 6, 2), (69, .lload_n 1, 1), (70, .lload_n 3, 1), (71, .lload 5, 2), (73, .iload 7, 2), (75, .invokestatic 37, 3), (78, .aload_n 0, 1), (79, .bipush 7, 2), (81, .lload_n 1, 1), (82, .lload_n 3, 1), (83, .lload 5, 2), (85, .iload 7, 2), (87, .invokestatic 37, 3), (90, .aload_n 0, 1), (91, .bipush 8, 2), (93, .lload_n 1, 1), (94, .lload_n 3, 1), (95, .lload 5, 2), (97, .iload 7, 2), (99, .invokestatic 37, 3), (102, .aload_n 0, 1), (103, .bipush 9, 2), (105, .lload_n 1, 1), (106, .lload_n 3, 1), (107, .lload 5, 2), (109, .iload 7, 2), (111, .invokestatic 37, 3), (114, .aload_n 0, 1), (115, .bipush 10, 2), (117, .lload_n 1, 1), (118, .lload_n 3, 1), (119, .lload 5, 2), (121, .iload 7, 2), (123, .invokestatic 37, 3), (126, .aload_n 0, 1), (127, .bipush 11, 2), (129, .lload_n 1, 1), (130, .lload_n 3, 1), (131, .lload 5, 2), (133, .iload 7, 2), (135, .invokestatic 37, 3), (138, .aload_n 0, 1), (139, .bipush 12, 2), (141, .lload_n 1, 1), (142, .lload_n 3, 1), (143, .lload 5, 2), (145, .iload 7, 2), (147, .invokestatic 37, 3), (150, .aload_n 0, 1), (151, .bipush 13, 2), (153, .lload_n 1, 1), (154, .lload_n 3, 1), (155, .lload 5, 2), (157, .iload 7, 2), (159, .invokestatic 37, 3), (162, .aload_n 0, 1), (163, .bipush 14, 2), (165, .lload_n 1, 1), (166, .lload_n 3, 1), (167, .lload 5, 2), (169, .iload 7, 2), (171, .invokestatic 37, 3), (174, .aload_n 0, 1), (175, .bipush 15, 2), (177, .lload_n 1, 1), (178, .lload_n 3, 1), (179, .lload 5, 2), (181, .iload 7, 2), (183, .invokestatic 37, 3), (186, .aload_n 0, 1), (187, .bipush 16, 2), (189, .lload_n 1, 1), (190, .lload_n 3, 1), (191, .lload 5, 2), (193, .iload 7, 2), (195, .invokestatic 37, 3), (198, .aload_n 0, 1), (199, .bipush 17, 2), (201, .lload_n 1, 1), (202, .lload_n 3, 1), (203, .lload 5, 2), (205, .iload 7, 2), (207, .invokestatic 37, 3), (210, .aload_n 0, 1), (211, .bipush 18, 2), (213, .lload_n 1, 1), (214, .lload_n 3, 1), (215, .lload 5, 2), (217, .iload 7, 2), (219, .invokestatic 37, 3), (222, .aload_n 0, 1), (223, .bipush 19, 2), (225, .lload_n 1, 1), (226, .lload_n 3, 1), (227, .lload 5, 2), (229, .iload 7, 2), (231, .invokestatic 37, 3), (234, .aload_n 0, 1), (235, .bipush 20, 2), (237, .lload_n 1, 1), (238, .lload_n 3, 1), (239, .lload 5, 2), (241, .iload 7, 2), (243, .invokestatic 37, 3), (246, .aload_n 0, 1), (247, .bipush 21, 2), (249, .lload_n 1, 1), (250, .lload_n 3, 1), (251, .lload 5, 2), (253, .iload 7, 2), (255, .invokestatic 37, 3), (258, .aload_n 0, 1), (259, .bipush 22, 2), (261, .lload_n 1, 1), (262, .lload_n 3, 1), (263, .lload 5, 2), (265, .iload 7, 2), (267, .invokestatic 37, 3), (270, .aload_n 0, 1), (271, .bipush 23, 2), (273, .lload_n 1, 1), (274, .lload_n 3, 1), (275, .lload 5, 2), (277, .iload 7, 2), (279, .invokestatic 37, 3), (282, .aload_n 0, 1), (283, .bipush 24, 2), (285, .lload_n 1, 1), (286, .lload_n 3, 1), (287, .lload 5, 2), (289, .iload 7, 2), (291, .invokestatic 37, 3), (294, .aload_n 0, 1), (295, .bipush 25, 2), (297, .lload_n 1, 1), (298, .lload_n 3, 1), (299, .lload 5, 2), (301, .iload 7, 2), (303, .invokestatic 37, 3), (306, .aload_n 0, 1), (307, .bipush 26, 2), (309, .lload_n 1, 1), (310, .lload_n 3, 1), (311, .lload 5, 2), (313, .iload 7, 2), (315, .invokestatic 37, 3), (318, .aload_n 0, 1), (319, .bipush 27, 2), (321, .lload_n 1, 1), (322, .lload_n 3, 1), (323, .lload 5, 2), (325, .iload 7, 2), (327, .invokestatic 37, 3), (330, .aload_n 0, 1), (331, .bipush 28, 2), (333, .lload_n 1, 1), (334, .lload_n 3, 1), (335, .lload 5, 2), (337, .iload 7, 2), (339, .invokestatic 37, 3), (342, .aload_n 0, 1), (343, .bipush 29, 2), (345, .lload_n 1, 1), (346, .lload_n 3, 1), (347, .lload 5, 2), (349, .iload 7, 2), (351, .invokestatic 37, 3), (354, .aload_n 0, 1), (355, .bipush 30, 2), (357, .lload_n 1, 1), (358, .lload_n 3, 1), (359, .lload 5, 2), (361, .iload 7, 2), (363, .invokestatic 37, 3), (366, .aload_n 0, 1), (367, .bipush 31, 2), (369, .lload_n 1, 1), (370, .lload_n 3, 1), (371, .lload 5, 2), (373, .iload 7, 2), (375, .invokestatic 37, 3), (378, .aload_n 0, 1), (379, .bipush 32, 2), (381, .lload_n 1, 1), (382, .lload_n 3, 1), (383, .lload 5, 2), (385, .iload 7, 2), (387, .invokestatic 37, 3), (390, .aload_n 0, 1), (391, .bipush 33, 2), (393, .lload_n 1, 1), (394, .lload_n 3, 1), (395, .lload 5, 2), (397, .iload 7, 2), (399, .invokestatic 37, 3), (402, .aload_n 0, 1), (403, .bipush 34, 2), (405, .lload_n 1, 1), (406, .lload_n 3, 1), (407, .lload 5, 2), (409, .iload 7, 2), (411, .invokestatic 37, 3), (414, .aload_n 0, 1), (415, .bipush 35, 2), (417, .lload_n 1, 1), (418, .lload_n 3, 1), (419, .lload 5, 2), (421, .iload 7, 2), (423, .invokestatic 37, 3), (426, .aload_n 0, 1), (427, .bipush 36, 2), (429, .lload_n 1, 1), (430, .lload_n 3, 1), (431, .lload 5, 2), (433, .iload 7, 2), (435, .invokestatic 37, 3), (438, .aload_n 0, 1), (439, .bipush 37, 2), (441, .lload_n 1, 1), (442, .lload_n 3, 1), (443, .lload 5, 2), (445, .iload 7, 2), (447, .invokestatic 37, 3), (450, .aload_n 0, 1), (451, .bipush 38, 2), (453, .lload_n 1, 1), (454, .lload_n 3, 1), (455, .lload 5, 2), (457, .iload 7, 2), (459, .invokestatic 37, 3), (462, .aload_n 0, 1), (463, .bipush 39, 2), (465, .lload_n 1, 1), (466, .lload_n 3, 1), (467, .lload 5, 2), (469, .iload 7, 2), (471, .invokestatic 37, 3), (474, .aload_n 0, 1), (475, .bipush 40, 2), (477, .lload_n 1, 1), (478, .lload_n 3, 1), (479, .lload 5, 2), (481, .iload 7, 2), (483, .invokestatic 37, 3), (486, .aload_n 0, 1), (487, .bipush 41, 2), (489, .lload_n 1, 1), (490, .lload_n 3, 1), (491, .lload 5, 2), (493, .iload 7, 2), (495, .invokestatic 37, 3), (498, .aload_n 0, 1), (499, .bipush 42, 2), (501, .lload_n 1, 1), (502, .lload_n 3, 1), (503, .lload 5, 2), (505, .iload 7, 2), (507, .invokestatic 37, 3), (510, .aload_n 0, 1), (511, .bipush 43, 2), (513, .lload_n 1, 1), (514, .lload_n 3, 1), (515, .lload 5, 2), (517, .iload 7, 2), (519, .invokestatic 37, 3), (522, .aload_n 0, 1), (523, .bipush 44, 2), (525, .lload_n 1, 1), (526, .lload_n 3, 1), (527, .lload 5, 2), (529, .iload 7, 2), (531, .invokestatic 37, 3), (534, .return_, 1)] : List (Nat × Instr × Nat)), decode method_6_code q.1 = .ok q.2 := by decide +kernel
theorem ef_rm_fill (m : MethodId) (x0 : Addr) (x1 : Int64) (x2 : Int64) (x3 : Int64) (x4 : Int32) : entryFrame m #[(.ref x0), (.long x1), (.long x2), (.long x3), (.int x4)] 8 = mkF m 0 #[.val (.ref x0), .val (.long x1), .second, .val (.long x2), .second, .val (.long x3), .second, .val (.int x4)] [] := by first | (simp [entryFrame, mkF, argsToLocals, Value.category]; done) | rfl
theorem rm_fill (l : Launch) (Z : State) (a0 : Array Value) (hw : ∀ d ∈ tables_1, d.before a0 Z = true) (ws : List Jvm.Cond) (t : Addr) (k : ClassId) (n lim : Nat) (a b c : Int64) (vs : List Value) (h0 : Heap) (n0 : Nat) (Z0 : n0 ≤ h0.size) (V_t : Arv Z h0 t k .char (Int32.ofNat n) (own_fill a b c n lim 0 vs) (.int 0)) (gt : n0 ≤ t) (hn : n ≤ 45) (hv : vs.length = 45) :
    MetFree l y_4 (head1 (Jvm.Cond.code y_4 method_6_code 8 none :: ws) r_4) (fun αs U => αs = #[(.ref t), (.long a), (.long b), (.long c), (.int (Int32.ofNat lim))] ∧ Z.Warmed39 U.vm ∧ U.heap = h0) (fun _ _ _ _ _ => True) (fun _ Us oS Us' => ∃ vR LR, oS = .returned vR ∧ Q_fill Z t k n lim a b c vs h0 n0 vR Us'.heap LR ∧ FrameEnd Us oS Us' LR r_4.cells r_4.slots) := by
  refine MetFree.of_bodySF (plainFor_of_name pno_0) hisR ?_
  intro pP e s m args below meth cC s₁ Bd hml0 hP hK
  obtain ⟨rfl, hZ, hh⟩ := hP
  have hx := Bd.exec
  have W := own_W hw
  have hby := Bd.bytes
  have hml : cC.maxLocals = 8 := hml0
  have hown : s.vm.findClass "com/example/stateful_search/statefulsearch/format/ExcerptsAbbreviatePinLaw" = some m.cls := findClass_of_methodNamed Bd.named
  have hnm := (name_of_methodNamed Bd.named Bd.method).1
  have X0 : Stand pP l e r_4 s m #[(.ref t), (.long a), (.long b), (.long c), (.int (Int32.ofNat lim))] below meth cC s₁ [] 0 0 := Stand.of_body Bd
  have e0 : s₁.heap = h0 := by rw [← hh, Bd.state]; rfl
  have N0 := Fr.nil n0
  have KC0 : Keep h0 h0 [t] := Keep.refl h0 _
  obtain ⟨A0, hA0⟩ : ∃ ζ, ζ = s₁.setTop (entryFrame m #[(.ref t), (.long a), (.long b), (.long c), (.int (Int32.ofNat lim))] 8) := ⟨_, rfl⟩
  have pre0 : own_go pP e below A0 (s₁.setTop (mkF m 0 #[.val (.ref t), .val (.long a), .second, .val (.long b), .second, .val (.long c), .second, .val (.int (Int32.ofNat lim))] [])) := fun τ κ => by rw [hA0]; exact castTop (ef_rm_fill m t a b c (Int32.ofNat lim)) κ
  have blk : ∀ (i c0 : Nat), i < 45 → decode cC.code c0 = .ok (.lload_n 1, 1) → decode cC.code (c0 + 1) = .ok (.lload_n 3, 1) → decode cC.code (c0 + 2) = .ok (.lload 5, 2) → decode cC.code (c0 + 4) = .ok (.iload 7, 2) → decode cC.code (c0 + 6) = .ok (.invokestatic 37, 3) → ∀ (Tb : State) (Lb : List Loc), Stand pP l e r_4 s m #[(.ref t), (.long a), (.long b), (.long c), (.int (Int32.ofNat lim))] below meth cC Tb Lb 0 0 → Fr n0 Lb → Keep h0 Tb.heap [t] → Arv Z Tb.heap t k .char (Int32.ofNat n) (own_fill a b c n lim i vs) (.int 0) → (own_go pP e below A0 (Tb.setTop (mkF m c0 #[.val (.ref t), .val (.long a), .second, .val (.long b), .second, .val (.long c), .second, .val (.int (Int32.ofNat lim))] [(.int (Int32.ofNat i)), (.ref t)]))) → ∃ (Tn : State) (Ln : List Loc), Stand pP l e r_4 s m #[(.ref t), (.long a), (.long b), (.long c), (.int (Int32.ofNat lim))] below meth cC Tn Ln 0 0 ∧ Fr n0 Ln ∧ Keep h0 Tn.heap [t] ∧ Arv Z Tn.heap t k .char (Int32.ofNat n) (own_fill a b c n lim (i + 1) vs) (.int 0) ∧ (own_go pP e below A0 (Tn.setTop (mkF m (c0 + 9) #[.val (.ref t), .val (.long a), .second, .val (.long b), .second, .val (.long c), .second, .val (.int (Int32.ofNat lim))] []))) := by
    intro i c0 hi d1 d2 d3 d4 d5 Tb Lb Xb Nb KCb Vb pqb
    obtain ⟨_, _, ⟨T1, L1, k1, n1⟩, -, X1, ⟨Lc1, hQ1, l1, y1, z1⟩, st1⟩ := Jvm.LawKit.callS Xb hx (y := y_3) hown (mvT hZ (W 8 rfl)) (mvT hZ (W 9 rfl)) (mvT hZ (W 2 rfl)) (mvT hZ (W 10 rfl)) (by decide) (backOf (W := 0) (rm_put l Z a0 hw [] t k n lim i a b c (own_fill a b c n lim i vs) Tb.heap n0 (Nat.le_trans Z0 KCb.1) Vb gt hn hi (by rw [own_fill_len]; exact hv)) hZ (W 10 rfl) (W 2 rfl) (by decide) (by decide)) (g := (mkF m (c0 + 6) #[.val (.ref t), .val (.long a), .second, .val (.long b), .second, .val (.long c), .second, .val (.int (Int32.ofNat lim))] [(.int (Int32.ofNat lim)), (.long c), (.long b), (.long a), (.int (Int32.ofNat i)), (.ref t)])) rfl (by rw [hml]; rfl) (argsL := [(.ref t), (.int (Int32.ofNat i)), (.long a), (.long b), (.long c), (.int (Int32.ofNat lim))]) (rest := []) (lenOf pdo_1 rfl) rfl (Nat.le_of_eq rfl) d5 (fun _ _ => ⟨rfl, rfl, (by decide : 0 + 0 ≤ _), (by decide : 0 + 0 ≤ _)⟩)
    dsimp only [Pt.U, Pt.locs, Pt.cells, Pt.slots] at X1 l1 y1 z1 st1 hQ1
    subst l1 y1 z1
    obtain ⟨rfl, Nq1, K1, V1⟩ := hQ1
    refine ⟨T1, _, X1, Fr.app Nb Nq1, KCb.trans K1 (allS (Or.inl (List.mem_of_getElem? (i := 0) rfl)) all0), V1, fun τ κ => ?_⟩
    refine pqb τ ?_
    refine XS.lloadN Xb.here hx rfl d1 rfl ?_
    refine XS.lloadN Xb.here hx rfl d2 rfl ?_
    refine XS.lload Xb.here hx rfl d3 rfl ?_
    refine XS.iload Xb.here hx rfl d4 rfl ?_
    refine st1 _ ?_
    exact κ
  have Vi : Arv Z s₁.heap t k .char (Int32.ofNat n) (own_fill a b c n lim 0 vs) (.int 0) := by rw [e0]; exact V_t
  have Ki : Keep h0 s₁.heap [t] := by rw [e0]; exact KC0
  obtain ⟨Tb0, Lb0, Xb0, Nb0, Kb0, Vb0, pb0⟩ := blk 0 2 (by decide) (hb hby (own_d D_fill 2 rfl)) (hb hby (own_d D_fill 3 rfl)) (hb hby (own_d D_fill 4 rfl)) (hb hby (own_d D_fill 5 rfl)) (hb hby (own_d D_fill 6 rfl)) s₁ _ X0 N0 Ki Vi (fun τ κ => pre0 τ (XS.aloadN X0.here hx rfl (hb hby (own_d D_fill 0 rfl)) rfl rfl (XS.iconst X0.here hx rfl (hb hby (own_d D_fill 1 rfl)) κ)))
  obtain ⟨Tb1, Lb1, Xb1, Nb1, Kb1, Vb1, pb1⟩ := blk 1 13 (by decide) (hb hby (own_d D_fill 9 rfl)) (hb hby (own_d D_fill 10 rfl)) (hb hby (own_d D_fill 11 rfl)) (hb hby (own_d D_fill 12 rfl)) (hb hby (own_d D_fill 13 rfl)) Tb0 _ Xb0 Nb0 Kb0 Vb0 (fun τ κ => pb0 τ (XS.aloadN Xb0.here hx rfl (hb hby (own_d D_fill 7 rfl)) rfl rfl (XS.iconst Xb0.here hx rfl (hb hby (own_d D_fill 8 rfl)) κ)))
  clear Xb0 Nb0 Kb0 Vb0 pb0
  obtain ⟨Tb2, Lb2, Xb2, Nb2, Kb2, Vb2, pb2⟩ := blk 2 24 (by decide) (hb hby (own_d D_fill 16 rfl)) (hb hby (own_d D_fill 17 rfl)) (hb hby (own_d D_fill 18 rfl)) (hb hby (own_d D_fill 19 rfl)) (hb hby (own_d D_fill 20 rfl)) Tb1 _ Xb1 Nb1 Kb1 Vb1 (fun τ κ => pb1 τ (XS.aloadN Xb1.here hx rfl (hb hby (own_d D_fill 14 rfl)) rfl rfl (XS.iconst Xb1.here hx rfl (hb hby (own_d D_fill 15 rfl)) κ)))
  clear Xb1 Nb1 Kb1 Vb1 pb1
  obtain ⟨Tb3, Lb3, Xb3, Nb3, Kb3, Vb3, pb3⟩ := blk 3 35 (by decide) (hb hby (own_d D_fill 23 rfl)) (hb hby (own_d D_fill 24 rfl)) (hb hby (own_d D_fill 25 rfl)) (hb hby (own_d D_fill 26 rfl)) (hb hby (own_d D_fill 27 rfl)) Tb2 _ Xb2 Nb2 Kb2 Vb2 (fun τ κ => pb2 τ (XS.aloadN Xb2.here hx rfl (hb hby (own_d D_fill 21 rfl)) rfl rfl (XS.iconst Xb2.here hx rfl (hb hby (own_d D_fill 22 rfl)) κ)))
  clear Xb2 Nb2 Kb2 Vb2 pb2
  obtain ⟨Tb4, Lb4, Xb4, Nb4, Kb4, Vb4, pb4⟩ := blk 4 46 (by decide) (hb hby (own_d D_fill 30 rfl)) (hb hby (own_d D_fill 31 rfl)) (hb hby (own_d D_fill 32 rfl)) (hb hby (own_d D_fill 33 rfl)) (hb hby (own_d D_fill 34 rfl)) Tb3 _ Xb3 Nb3 Kb3 Vb3 (fun τ κ => pb3 τ (XS.aloadN Xb3.here hx rfl (hb hby (own_d D_fill 28 rfl)) rfl rfl (XS.iconst Xb3.here hx rfl (hb hby (own_d D_fill 29 rfl)) κ)))
  clear Xb3 Nb3 Kb3 Vb3 pb3
  obtain ⟨Tb5, Lb5, Xb5, Nb5, Kb5, Vb5, pb5⟩ := blk 5 57 (by decide) (hb hby (own_d D_fill 37 rfl)) (hb hby (own_d D_fill 38 rfl)) (hb hby (own_d D_fill 39 rfl)) (hb hby (own_d D_fill 40 rfl)) (hb hby (own_d D_fill 41 rfl)) Tb4 _ Xb4 Nb4 Kb4 Vb4 (fun τ κ => pb4 τ (XS.aloadN Xb4.here hx rfl (hb hby (own_d D_fill 35 rfl)) rfl rfl (XS.iconst Xb4.here hx rfl (hb hby (own_d D_fill 36 rfl)) κ)))
  clear Xb4 Nb4 Kb4 Vb4 pb4
  obtain ⟨Tb6, Lb6, Xb6, Nb6, Kb6, Vb6, pb6⟩ := blk 6 69 (by decide) (hb hby (own_d D_fill 44 rfl)) (hb hby (own_d D_fill 45 rfl)) (hb hby (own_d D_fill 46 rfl)) (hb hby (own_d D_fill 47 rfl)) (hb hby (own_d D_fill 48 rfl)) Tb5 _ Xb5 Nb5 Kb5 Vb5 (fun τ κ => pb5 τ (XS.aloadN Xb5.here hx rfl (hb hby (own_d D_fill 42 rfl)) rfl rfl (XS.bipush Xb5.here hx rfl (hb hby (own_d D_fill 43 rfl)) κ)))
  clear Xb5 Nb5 Kb5 Vb5 pb5
  obtain ⟨Tb7, Lb7, Xb7, Nb7, Kb7, Vb7, pb7⟩ := blk 7 81 (by decide) (hb hby (own_d D_fill 51 rfl)) (hb hby (own_d D_fill 52 rfl)) (hb hby (own_d D_fill 53 rfl)) (hb hby (own_d D_fill 54 rfl)) (hb hby (own_d D_fill 55 rfl)) Tb6 _ Xb6 Nb6 Kb6 Vb6 (fun τ κ => pb6 τ (XS.aloadN Xb6.here hx rfl (hb hby (own_d D_fill 49 rfl)) rfl rfl (XS.bipush Xb6.here hx rfl (hb hby (own_d D_fill 50 rfl)) κ)))
  clear Xb6 Nb6 Kb6 Vb6 pb6
  obtain ⟨Tb8, Lb8, Xb8, Nb8, Kb8, Vb8, pb8⟩ := blk 8 93 (by decide) (hb hby (own_d D_fill 58 rfl)) (hb hby (own_d D_fill 59 rfl)) (hb hby (own_d D_fill 60 rfl)) (hb hby (own_d D_fill 61 rfl)) (hb hby (own_d D_fill 62 rfl)) Tb7 _ Xb7 Nb7 Kb7 Vb7 (fun τ κ => pb7 τ (XS.aloadN Xb7.here hx rfl (hb hby (own_d D_fill 56 rfl)) rfl rfl (XS.bipush Xb7.here hx rfl (hb hby (own_d D_fill 57 rfl)) κ)))
  clear Xb7 Nb7 Kb7 Vb7 pb7
  obtain ⟨Tb9, Lb9, Xb9, Nb9, Kb9, Vb9, pb9⟩ := blk 9 105 (by decide) (hb hby (own_d D_fill 65 rfl)) (hb hby (own_d D_fill 66 rfl)) (hb hby (own_d D_fill 67 rfl)) (hb hby (own_d D_fill 68 rfl)) (hb hby (own_d D_fill 69 rfl)) Tb8 _ Xb8 Nb8 Kb8 Vb8 (fun τ κ => pb8 τ (XS.aloadN Xb8.here hx rfl (hb hby (own_d D_fill 63 rfl)) rfl rfl (XS.bipush Xb8.here hx rfl (hb hby (own_d D_fill 64 rfl)) κ)))
  clear Xb8 Nb8 Kb8 Vb8 pb8
  obtain ⟨Tb10, Lb10, Xb10, Nb10, Kb10, Vb10, pb10⟩ := blk 10 117 (by decide) (hb hby (own_d D_fill 72 rfl)) (hb hby (own_d D_fill 73 rfl)) (hb hby (own_d D_fill 74 rfl)) (hb hby (own_d D_fill 75 rfl)) (hb hby (own_d D_fill 76 rfl)) Tb9 _ Xb9 Nb9 Kb9 Vb9 (fun τ κ => pb9 τ (XS.aloadN Xb9.here hx rfl (hb hby (own_d D_fill 70 rfl)) rfl rfl (XS.bipush Xb9.here hx rfl (hb hby (own_d D_fill 71 rfl)) κ)))
  clear Xb9 Nb9 Kb9 Vb9 pb9
  obtain ⟨Tb11, Lb11, Xb11, Nb11, Kb11, Vb11, pb11⟩ := blk 11 129 (by decide) (hb hby (own_d D_fill 79 rfl)) (hb hby (own_d D_fill 80 rfl)) (hb hby (own_d D_fill 81 rfl)) (hb hby (own_d D_fill 82 rfl)) (hb hby (own_d D_fill 83 rfl)) Tb10 _ Xb10 Nb10 Kb10 Vb10 (fun τ κ => pb10 τ (XS.aloadN Xb10.here hx rfl (hb hby (own_d D_fill 77 rfl)) rfl rfl (XS.bipush Xb10.here hx rfl (hb hby (own_d D_fill 78 rfl)) κ)))
  clear Xb10 Nb10 Kb10 Vb10 pb10
  obtain ⟨Tb12, Lb12, Xb12, Nb12, Kb12, Vb12, pb12⟩ := blk 12 141 (by decide) (hb hby (own_d D_fill 86 rfl)) (hb hby (own_d D_fill 87 rfl)) (hb hby (own_d D_fill 88 rfl)) (hb hby (own_d D_fill 89 rfl)) (hb hby (own_d D_fill 90 rfl)) Tb11 _ Xb11 Nb11 Kb11 Vb11 (fun τ κ => pb11 τ (XS.aloadN Xb11.here hx rfl (hb hby (own_d D_fill 84 rfl)) rfl rfl (XS.bipush Xb11.here hx rfl (hb hby (own_d D_fill 85 rfl)) κ)))
  clear Xb11 Nb11 Kb11 Vb11 pb11
  obtain ⟨Tb13, Lb13, Xb13, Nb13, Kb13, Vb13, pb13⟩ := blk 13 153 (by decide) (hb hby (own_d D_fill 93 rfl)) (hb hby (own_d D_fill 94 rfl)) (hb hby (own_d D_fill 95 rfl)) (hb hby (own_d D_fill 96 rfl)) (hb hby (own_d D_fill 97 rfl)) Tb12 _ Xb12 Nb12 Kb12 Vb12 (fun τ κ => pb12 τ (XS.aloadN Xb12.here hx rfl (hb hby (own_d D_fill 91 rfl)) rfl rfl (XS.bipush Xb12.here hx rfl (hb hby (own_d D_fill 92 rfl)) κ)))
  clear Xb12 Nb12 Kb12 Vb12 pb12
  obtain ⟨Tb14, Lb14, Xb14, Nb14, Kb14, Vb14, pb14⟩ := blk 14 165 (by decide) (hb hby (own_d D_fill 100 rfl)) (hb hby (own_d D_fill 101 rfl)) (hb hby (own_d D_fill 102 rfl)) (hb hby (own_d D_fill 103 rfl)) (hb hby (own_d D_fill 104 rfl)) Tb13 _ Xb13 Nb13 Kb13 Vb13 (fun τ κ => pb13 τ (XS.aloadN Xb13.here hx rfl (hb hby (own_d D_fill 98 rfl)) rfl rfl (XS.bipush Xb13.here hx rfl (hb hby (own_d D_fill 99 rfl)) κ)))
  clear Xb13 Nb13 Kb13 Vb13 pb13
  obtain ⟨Tb15, Lb15, Xb15, Nb15, Kb15, Vb15, pb15⟩ := blk 15 177 (by decide) (hb hby (own_d D_fill 107 rfl)) (hb hby (own_d D_fill 108 rfl)) (hb hby (own_d D_fill 109 rfl)) (hb hby (own_d D_fill 110 rfl)) (hb hby (own_d D_fill 111 rfl)) Tb14 _ Xb14 Nb14 Kb14 Vb14 (fun τ κ => pb14 τ (XS.aloadN Xb14.here hx rfl (hb hby (own_d D_fill 105 rfl)) rfl rfl (XS.bipush Xb14.here hx rfl (hb hby (own_d D_fill 106 rfl)) κ)))
  clear Xb14 Nb14 Kb14 Vb14 pb14
  obtain ⟨Tb16, Lb16, Xb16, Nb16, Kb16, Vb16, pb16⟩ := blk 16 189 (by decide) (hb hby (own_d D_fill 114 rfl)) (hb hby (own_d D_fill 115 rfl)) (hb hby (own_d D_fill 116 rfl)) (hb hby (own_d D_fill 117 rfl)) (hb hby (own_d D_fill 118 rfl)) Tb15 _ Xb15 Nb15 Kb15 Vb15 (fun τ κ => pb15 τ (XS.aloadN Xb15.here hx rfl (hb hby (own_d D_fill 112 rfl)) rfl rfl (XS.bipush Xb15.here hx rfl (hb hby (own_d D_fill 113 rfl)) κ)))
  clear Xb15 Nb15 Kb15 Vb15 pb15
  obtain ⟨Tb17, Lb17, Xb17, Nb17, Kb17, Vb17, pb17⟩ := blk 17 201 (by decide) (hb hby (own_d D_fill 121 rfl)) (hb hby (own_d D_fill 122 rfl)) (hb hby (own_d D_fill 123 rfl)) (hb hby (own_d D_fill 124 rfl)) (hb hby (own_d D_fill 125 rfl)) Tb16 _ Xb16 Nb16 Kb16 Vb16 (fun τ κ => pb16 τ (XS.aloadN Xb16.here hx rfl (hb hby (own_d D_fill 119 rfl)) rfl rfl (XS.bipush Xb16.here hx rfl (hb hby (own_d D_fill 120 rfl)) κ)))
  clear Xb16 Nb16 Kb16 Vb16 pb16
  obtain ⟨Tb18, Lb18, Xb18, Nb18, Kb18, Vb18, pb18⟩ := blk 18 213 (by decide) (hb hby (own_d D_fill 128 rfl)) (hb hby (own_d D_fill 129 rfl)) (hb hby (own_d D_fill 130 rfl)) (hb hby (own_d D_fill 131 rfl)) (hb hby (own_d D_fill 132 rfl)) Tb17 _ Xb17 Nb17 Kb17 Vb17 (fun τ κ => pb17 τ (XS.aloadN Xb17.here hx rfl (hb hby (own_d D_fill 126 rfl)) rfl rfl (XS.bipush Xb17.here hx rfl (hb hby (own_d D_fill 127 rfl)) κ)))
  clear Xb17 Nb17 Kb17 Vb17 pb17
  obtain ⟨Tb19, Lb19, Xb19, Nb19, Kb19, Vb19, pb19⟩ := blk 19 225 (by decide) (hb hby (own_d D_fill 135 rfl)) (hb hby (own_d D_fill 136 rfl)) (hb hby (own_d D_fill 137 rfl)) (hb hby (own_d D_fill 138 rfl)) (hb hby (own_d D_fill 139 rfl)) Tb18 _ Xb18 Nb18 Kb18 Vb18 (fun τ κ => pb18 τ (XS.aloadN Xb18.here hx rfl (hb hby (own_d D_fill 133 rfl)) rfl rfl (XS.bipush Xb18.here hx rfl (hb hby (own_d D_fill 134 rfl)) κ)))
  clear Xb18 Nb18 Kb18 Vb18 pb18
  obtain ⟨Tb20, Lb20, Xb20, Nb20, Kb20, Vb20, pb20⟩ := blk 20 237 (by decide) (hb hby (own_d D_fill 142 rfl)) (hb hby (own_d D_fill 143 rfl)) (hb hby (own_d D_fill 144 rfl)) (hb hby (own_d D_fill 145 rfl)) (hb hby (own_d D_fill 146 rfl)) Tb19 _ Xb19 Nb19 Kb19 Vb19 (fun τ κ => pb19 τ (XS.aloadN Xb19.here hx rfl (hb hby (own_d D_fill 140 rfl)) rfl rfl (XS.bipush Xb19.here hx rfl (hb hby (own_d D_fill 141 rfl)) κ)))
  clear Xb19 Nb19 Kb19 Vb19 pb19
  obtain ⟨Tb21, Lb21, Xb21, Nb21, Kb21, Vb21, pb21⟩ := blk 21 249 (by decide) (hb hby (own_d D_fill 149 rfl)) (hb hby (own_d D_fill 150 rfl)) (hb hby (own_d D_fill 151 rfl)) (hb hby (own_d D_fill 152 rfl)) (hb hby (own_d D_fill 153 rfl)) Tb20 _ Xb20 Nb20 Kb20 Vb20 (fun τ κ => pb20 τ (XS.aloadN Xb20.here hx rfl (hb hby (own_d D_fill 147 rfl)) rfl rfl (XS.bipush Xb20.here hx rfl (hb hby (own_d D_fill 148 rfl)) κ)))
  clear Xb20 Nb20 Kb20 Vb20 pb20
  obtain ⟨Tb22, Lb22, Xb22, Nb22, Kb22, Vb22, pb22⟩ := blk 22 261 (by decide) (hb hby (own_d D_fill 156 rfl)) (hb hby (own_d D_fill 157 rfl)) (hb hby (own_d D_fill 158 rfl)) (hb hby (own_d D_fill 159 rfl)) (hb hby (own_d D_fill 160 rfl)) Tb21 _ Xb21 Nb21 Kb21 Vb21 (fun τ κ => pb21 τ (XS.aloadN Xb21.here hx rfl (hb hby (own_d D_fill 154 rfl)) rfl rfl (XS.bipush Xb21.here hx rfl (hb hby (own_d D_fill 155 rfl)) κ)))
  clear Xb21 Nb21 Kb21 Vb21 pb21
  obtain ⟨Tb23, Lb23, Xb23, Nb23, Kb23, Vb23, pb23⟩ := blk 23 273 (by decide) (hb hby (own_d D_fill 163 rfl)) (hb hby (own_d D_fill 164 rfl)) (hb hby (own_d D_fill 165 rfl)) (hb hby (own_d D_fill 166 rfl)) (hb hby (own_d D_fill 167 rfl)) Tb22 _ Xb22 Nb22 Kb22 Vb22 (fun τ κ => pb22 τ (XS.aloadN Xb22.here hx rfl (hb hby (own_d D_fill 161 rfl)) rfl rfl (XS.bipush Xb22.here hx rfl (hb hby (own_d D_fill 162 rfl)) κ)))
  clear Xb22 Nb22 Kb22 Vb22 pb22
  obtain ⟨Tb24, Lb24, Xb24, Nb24, Kb24, Vb24, pb24⟩ := blk 24 285 (by decide) (hb hby (own_d D_fill 170 rfl)) (hb hby (own_d D_fill 171 rfl)) (hb hby (own_d D_fill 172 rfl)) (hb hby (own_d D_fill 173 rfl)) (hb hby (own_d D_fill 174 rfl)) Tb23 _ Xb23 Nb23 Kb23 Vb23 (fun τ κ => pb23 τ (XS.aloadN Xb23.here hx rfl (hb hby (own_d D_fill 168 rfl)) rfl rfl (XS.bipush Xb23.here hx rfl (hb hby (own_d D_fill 169 rfl)) κ)))
  clear Xb23 Nb23 Kb23 Vb23 pb23
  obtain ⟨Tb25, Lb25, Xb25, Nb25, Kb25, Vb25, pb25⟩ := blk 25 297 (by decide) (hb hby (own_d D_fill 177 rfl)) (hb hby (own_d D_fill 178 rfl)) (hb hby (own_d D_fill 179 rfl)) (hb hby (own_d D_fill 180 rfl)) (hb hby (own_d D_fill 181 rfl)) Tb24 _ Xb24 Nb24 Kb24 Vb24 (fun τ κ => pb24 τ (XS.aloadN Xb24.here hx rfl (hb hby (own_d D_fill 175 rfl)) rfl rfl (XS.bipush Xb24.here hx rfl (hb hby (own_d D_fill 176 rfl)) κ)))
  clear Xb24 Nb24 Kb24 Vb24 pb24
  obtain ⟨Tb26, Lb26, Xb26, Nb26, Kb26, Vb26, pb26⟩ := blk 26 309 (by decide) (hb hby (own_d D_fill 184 rfl)) (hb hby (own_d D_fill 185 rfl)) (hb hby (own_d D_fill 186 rfl)) (hb hby (own_d D_fill 187 rfl)) (hb hby (own_d D_fill 188 rfl)) Tb25 _ Xb25 Nb25 Kb25 Vb25 (fun τ κ => pb25 τ (XS.aloadN Xb25.here hx rfl (hb hby (own_d D_fill 182 rfl)) rfl rfl (XS.bipush Xb25.here hx rfl (hb hby (own_d D_fill 183 rfl)) κ)))
  clear Xb25 Nb25 Kb25 Vb25 pb25
  obtain ⟨Tb27, Lb27, Xb27, Nb27, Kb27, Vb27, pb27⟩ := blk 27 321 (by decide) (hb hby (own_d D_fill 191 rfl)) (hb hby (own_d D_fill 192 rfl)) (hb hby (own_d D_fill 193 rfl)) (hb hby (own_d D_fill 194 rfl)) (hb hby (own_d D_fill 195 rfl)) Tb26 _ Xb26 Nb26 Kb26 Vb26 (fun τ κ => pb26 τ (XS.aloadN Xb26.here hx rfl (hb hby (own_d D_fill 189 rfl)) rfl rfl (XS.bipush Xb26.here hx rfl (hb hby (own_d D_fill 190 rfl)) κ)))
  clear Xb26 Nb26 Kb26 Vb26 pb26
  obtain ⟨Tb28, Lb28, Xb28, Nb28, Kb28, Vb28, pb28⟩ := blk 28 333 (by decide) (hb hby (own_d D_fill 198 rfl)) (hb hby (own_d D_fill 199 rfl)) (hb hby (own_d D_fill 200 rfl)) (hb hby (own_d D_fill 201 rfl)) (hb hby (own_d D_fill 202 rfl)) Tb27 _ Xb27 Nb27 Kb27 Vb27 (fun τ κ => pb27 τ (XS.aloadN Xb27.here hx rfl (hb hby (own_d D_fill 196 rfl)) rfl rfl (XS.bipush Xb27.here hx rfl (hb hby (own_d D_fill 197 rfl)) κ)))
  clear Xb27 Nb27 Kb27 Vb27 pb27
  obtain ⟨Tb29, Lb29, Xb29, Nb29, Kb29, Vb29, pb29⟩ := blk 29 345 (by decide) (hb hby (own_d D_fill 205 rfl)) (hb hby (own_d D_fill 206 rfl)) (hb hby (own_d D_fill 207 rfl)) (hb hby (own_d D_fill 208 rfl)) (hb hby (own_d D_fill 209 rfl)) Tb28 _ Xb28 Nb28 Kb28 Vb28 (fun τ κ => pb28 τ (XS.aloadN Xb28.here hx rfl (hb hby (own_d D_fill 203 rfl)) rfl rfl (XS.bipush Xb28.here hx rfl (hb hby (own_d D_fill 204 rfl)) κ)))
  clear Xb28 Nb28 Kb28 Vb28 pb28
  obtain ⟨Tb30, Lb30, Xb30, Nb30, Kb30, Vb30, pb30⟩ := blk 30 357 (by decide) (hb hby (own_d D_fill 212 rfl)) (hb hby (own_d D_fill 213 rfl)) (hb hby (own_d D_fill 214 rfl)) (hb hby (own_d D_fill 215 rfl)) (hb hby (own_d D_fill 216 rfl)) Tb29 _ Xb29 Nb29 Kb29 Vb29 (fun τ κ => pb29 τ (XS.aloadN Xb29.here hx rfl (hb hby (own_d D_fill 210 rfl)) rfl rfl (XS.bipush Xb29.here hx rfl (hb hby (own_d D_fill 211 rfl)) κ)))
  clear Xb29 Nb29 Kb29 Vb29 pb29
  obtain ⟨Tb31, Lb31, Xb31, Nb31, Kb31, Vb31, pb31⟩ := blk 31 369 (by decide) (hb hby (own_d D_fill 219 rfl)) (hb hby (own_d D_fill 220 rfl)) (hb hby (own_d D_fill 221 rfl)) (hb hby (own_d D_fill 222 rfl)) (hb hby (own_d D_fill 223 rfl)) Tb30 _ Xb30 Nb30 Kb30 Vb30 (fun τ κ => pb30 τ (XS.aloadN Xb30.here hx rfl (hb hby (own_d D_fill 217 rfl)) rfl rfl (XS.bipush Xb30.here hx rfl (hb hby (own_d D_fill 218 rfl)) κ)))
  clear Xb30 Nb30 Kb30 Vb30 pb30
  obtain ⟨Tb32, Lb32, Xb32, Nb32, Kb32, Vb32, pb32⟩ := blk 32 381 (by decide) (hb hby (own_d D_fill 226 rfl)) (hb hby (own_d D_fill 227 rfl)) (hb hby (own_d D_fill 228 rfl)) (hb hby (own_d D_fill 229 rfl)) (hb hby (own_d D_fill 230 rfl)) Tb31 _ Xb31 Nb31 Kb31 Vb31 (fun τ κ => pb31 τ (XS.aloadN Xb31.here hx rfl (hb hby (own_d D_fill 224 rfl)) rfl rfl (XS.bipush Xb31.here hx rfl (hb hby (own_d D_fill 225 rfl)) κ)))
  clear Xb31 Nb31 Kb31 Vb31 pb31
  obtain ⟨Tb33, Lb33, Xb33, Nb33, Kb33, Vb33, pb33⟩ := blk 33 393 (by decide) (hb hby (own_d D_fill 233 rfl)) (hb hby (own_d D_fill 234 rfl)) (hb hby (own_d D_fill 235 rfl)) (hb hby (own_d D_fill 236 rfl)) (hb hby (own_d D_fill 237 rfl)) Tb32 _ Xb32 Nb32 Kb32 Vb32 (fun τ κ => pb32 τ (XS.aloadN Xb32.here hx rfl (hb hby (own_d D_fill 231 rfl)) rfl rfl (XS.bipush Xb32.here hx rfl (hb hby (own_d D_fill 232 rfl)) κ)))
  clear Xb32 Nb32 Kb32 Vb32 pb32
  obtain ⟨Tb34, Lb34, Xb34, Nb34, Kb34, Vb34, pb34⟩ := blk 34 405 (by decide) (hb hby (own_d D_fill 240 rfl)) (hb hby (own_d D_fill 241 rfl)) (hb hby (own_d D_fill 242 rfl)) (hb hby (own_d D_fill 243 rfl)) (hb hby (own_d D_fill 244 rfl)) Tb33 _ Xb33 Nb33 Kb33 Vb33 (fun τ κ => pb33 τ (XS.aloadN Xb33.here hx rfl (hb hby (own_d D_fill 238 rfl)) rfl rfl (XS.bipush Xb33.here hx rfl (hb hby (own_d D_fill 239 rfl)) κ)))
  clear Xb33 Nb33 Kb33 Vb33 pb33
  obtain ⟨Tb35, Lb35, Xb35, Nb35, Kb35, Vb35, pb35⟩ := blk 35 417 (by decide) (hb hby (own_d D_fill 247 rfl)) (hb hby (own_d D_fill 248 rfl)) (hb hby (own_d D_fill 249 rfl)) (hb hby (own_d D_fill 250 rfl)) (hb hby (own_d D_fill 251 rfl)) Tb34 _ Xb34 Nb34 Kb34 Vb34 (fun τ κ => pb34 τ (XS.aloadN Xb34.here hx rfl (hb hby (own_d D_fill 245 rfl)) rfl rfl (XS.bipush Xb34.here hx rfl (hb hby (own_d D_fill 246 rfl)) κ)))
  clear Xb34 Nb34 Kb34 Vb34 pb34
  obtain ⟨Tb36, Lb36, Xb36, Nb36, Kb36, Vb36, pb36⟩ := blk 36 429 (by decide) (hb hby (own_d D_fill 254 rfl)) (hb hby (own_d D_fill 255 rfl)) (hb hby (own_d D_fill 256 rfl)) (hb hby (own_d D_fill 257 rfl)) (hb hby (own_d D_fill 258 rfl)) Tb35 _ Xb35 Nb35 Kb35 Vb35 (fun τ κ => pb35 τ (XS.aloadN Xb35.here hx rfl (hb hby (own_d D_fill 252 rfl)) rfl rfl (XS.bipush Xb35.here hx rfl (hb hby (own_d D_fill 253 rfl)) κ)))
  clear Xb35 Nb35 Kb35 Vb35 pb35
  obtain ⟨Tb37, Lb37, Xb37, Nb37, Kb37, Vb37, pb37⟩ := blk 37 441 (by decide) (hb hby (own_d D_fill 261 rfl)) (hb hby (own_d D_fill 262 rfl)) (hb hby (own_d D_fill 263 rfl)) (hb hby (own_d D_fill 264 rfl)) (hb hby (own_d D_fill 265 rfl)) Tb36 _ Xb36 Nb36 Kb36 Vb36 (fun τ κ => pb36 τ (XS.aloadN Xb36.here hx rfl (hb hby (own_d D_fill 259 rfl)) rfl rfl (XS.bipush Xb36.here hx rfl (hb hby (own_d D_fill 260 rfl)) κ)))
  clear Xb36 Nb36 Kb36 Vb36 pb36
  obtain ⟨Tb38, Lb38, Xb38, Nb38, Kb38, Vb38, pb38⟩ := blk 38 453 (by decide) (hb hby (own_d D_fill 268 rfl)) (hb hby (own_d D_fill 269 rfl)) (hb hby (own_d D_fill 270 rfl)) (hb hby (own_d D_fill 271 rfl)) (hb hby (own_d D_fill 272 rfl)) Tb37 _ Xb37 Nb37 Kb37 Vb37 (fun τ κ => pb37 τ (XS.aloadN Xb37.here hx rfl (hb hby (own_d D_fill 266 rfl)) rfl rfl (XS.bipush Xb37.here hx rfl (hb hby (own_d D_fill 267 rfl)) κ)))
  clear Xb37 Nb37 Kb37 Vb37 pb37
  obtain ⟨Tb39, Lb39, Xb39, Nb39, Kb39, Vb39, pb39⟩ := blk 39 465 (by decide) (hb hby (own_d D_fill 275 rfl)) (hb hby (own_d D_fill 276 rfl)) (hb hby (own_d D_fill 277 rfl)) (hb hby (own_d D_fill 278 rfl)) (hb hby (own_d D_fill 279 rfl)) Tb38 _ Xb38 Nb38 Kb38 Vb38 (fun τ κ => pb38 τ (XS.aloadN Xb38.here hx rfl (hb hby (own_d D_fill 273 rfl)) rfl rfl (XS.bipush Xb38.here hx rfl (hb hby (own_d D_fill 274 rfl)) κ)))
  clear Xb38 Nb38 Kb38 Vb38 pb38
  obtain ⟨Tb40, Lb40, Xb40, Nb40, Kb40, Vb40, pb40⟩ := blk 40 477 (by decide) (hb hby (own_d D_fill 282 rfl)) (hb hby (own_d D_fill 283 rfl)) (hb hby (own_d D_fill 284 rfl)) (hb hby (own_d D_fill 285 rfl)) (hb hby (own_d D_fill 286 rfl)) Tb39 _ Xb39 Nb39 Kb39 Vb39 (fun τ κ => pb39 τ (XS.aloadN Xb39.here hx rfl (hb hby (own_d D_fill 280 rfl)) rfl rfl (XS.bipush Xb39.here hx rfl (hb hby (own_d D_fill 281 rfl)) κ)))
  clear Xb39 Nb39 Kb39 Vb39 pb39
  obtain ⟨Tb41, Lb41, Xb41, Nb41, Kb41, Vb41, pb41⟩ := blk 41 489 (by decide) (hb hby (own_d D_fill 289 rfl)) (hb hby (own_d D_fill 290 rfl)) (hb hby (own_d D_fill 291 rfl)) (hb hby (own_d D_fill 292 rfl)) (hb hby (own_d D_fill 293 rfl)) Tb40 _ Xb40 Nb40 Kb40 Vb40 (fun τ κ => pb40 τ (XS.aloadN Xb40.here hx rfl (hb hby (own_d D_fill 287 rfl)) rfl rfl (XS.bipush Xb40.here hx rfl (hb hby (own_d D_fill 288 rfl)) κ)))
  clear Xb40 Nb40 Kb40 Vb40 pb40
  obtain ⟨Tb42, Lb42, Xb42, Nb42, Kb42, Vb42, pb42⟩ := blk 42 501 (by decide) (hb hby (own_d D_fill 296 rfl)) (hb hby (own_d D_fill 297 rfl)) (hb hby (own_d D_fill 298 rfl)) (hb hby (own_d D_fill 299 rfl)) (hb hby (own_d D_fill 300 rfl)) Tb41 _ Xb41 Nb41 Kb41 Vb41 (fun τ κ => pb41 τ (XS.aloadN Xb41.here hx rfl (hb hby (own_d D_fill 294 rfl)) rfl rfl (XS.bipush Xb41.here hx rfl (hb hby (own_d D_fill 295 rfl)) κ)))
  clear Xb41 Nb41 Kb41 Vb41 pb41
  obtain ⟨Tb43, Lb43, Xb43, Nb43, Kb43, Vb43, pb43⟩ := blk 43 513 (by decide) (hb hby (own_d D_fill 303 rfl)) (hb hby (own_d D_fill 304 rfl)) (hb hby (own_d D_fill 305 rfl)) (hb hby (own_d D_fill 306 rfl)) (hb hby (own_d D_fill 307 rfl)) Tb42 _ Xb42 Nb42 Kb42 Vb42 (fun τ κ => pb42 τ (XS.aloadN Xb42.here hx rfl (hb hby (own_d D_fill 301 rfl)) rfl rfl (XS.bipush Xb42.here hx rfl (hb hby (own_d D_fill 302 rfl)) κ)))
  clear Xb42 Nb42 Kb42 Vb42 pb42
  obtain ⟨Tb44, Lb44, Xb44, Nb44, Kb44, Vb44, pb44⟩ := blk 44 525 (by decide) (hb hby (own_d D_fill 310 rfl)) (hb hby (own_d D_fill 311 rfl)) (hb hby (own_d D_fill 312 rfl)) (hb hby (own_d D_fill 313 rfl)) (hb hby (own_d D_fill 314 rfl)) Tb43 _ Xb43 Nb43 Kb43 Vb43 (fun τ κ => pb43 τ (XS.aloadN Xb43.here hx rfl (hb hby (own_d D_fill 308 rfl)) rfl rfl (XS.bipush Xb43.here hx rfl (hb hby (own_d D_fill 309 rfl)) κ)))
  clear Xb43 Nb43 Kb43 Vb43 pb43
  obtain ⟨fs, hrE, hrun, hended, hW, hsame⟩ := Xb44.leave (v := none) (fun _ => rfl)
  have pqE := pb44
  rw [hA0] at pqE
  refine ⟨_, _, pqE _ ?_, hrun, hended, _, _, rfl, ?_, ⟨_, rfl⟩, hW, hsame.mono (by decide) (by decide)⟩
  · show Steps pP.tables e below (Tb44.setTop (mkF m 534 #[.val (.ref t), .val (.long a), .second, .val (.long b), .second, .val (.long c), .second, .val (.int (Int32.ofNat lim))] [])) _
    exact Xb44.returnOut hx Bd.returns (hb hby (own_d D_fill 315 rfl)) hrE
  · show Q_fill Z t k n lim a b c vs h0 n0 _ Tb44.heap _
    exact ⟨rfl, Nb44, Kb44, Vb44⟩
def Q_mk (Z : State) (h0 : Heap) (n0 : Nat) (v : Option Value) (h : Heap) (L : List Loc) : Prop := ∃ (b : Addr) (k : ClassId) (n : Nat), v = some (.ref b) ∧ Fr n0 L ∧ Keep h0 h [] ∧ h0.size ≤ b ∧ (n ≤ 45 ∧ (n ≤ 2 ∨ 39 ≤ n)) ∧ Arv Z h b k .char (Int32.ofNat n) [] (.int 0)
theorem D_mk : ∀ q ∈ ([(0, .iload_n 0, 1), (1, .ifCond .ne 7, 3), (4, .iconst 0, 1), (5, .newarray .char, 2), (7, .areturn, 1), (8, .iload_n 0, 1), (9, .iconst 1, 1), (10, .if_icmp .ne 7, 3), (13, .iconst 1, 1), (14, .newarray .char, 2), (16, .areturn, 1), (17, .iload_n 0, 1), (18, .iconst 2, 1), (19, .if_icmp .ne 7, 3), (22, .iconst 2, 1), (23, .newarray .char, 2), (25, .areturn, 1), (26, .iload_n 0, 1), (27, .iconst 3, 1), (28, .if_icmp .ne 8, 3), (31, .bipush 39, 2), (33, .newarray .char, 2), (35, .areturn, 1), (36, .iload_n 0, 1), (37, .iconst 4, 1), (38, .if_icmp .ne 8, 3), (41, .bipush 40, 2), (43, .newarray .char, 2), (45, .areturn, 1), (46, .iload_n 0, 1), (47, .iconst 5, 1), (48, .if_icmp .ne 8, 3), (51, .bipush 41, 2), (53, .newarray .char, 2), (55, .areturn, 1), (56, .iload_n 0, 1), (57, .bipush 6, 2), (59, .if_icmp .ne 8, 3), (62, .bipush 42, 2), (64, .newarray .char, 2), (66, .areturn, 1), (67, .bipush 45, 2), (69, .newarray .char, 2), (71, .areturn, 1)] : List (Nat × Instr × Nat)), decode method_3_code q.1 = .ok q.2 := by decide +kernel
theorem ef_rm_mk (m : MethodId) (x0 : Int32) : entryFrame m #[(.int x0)] 1 = mkF m 0 #[.val (.int x0)] [] := by first | (simp [entryFrame, mkF, argsToLocals, Value.category]; done) | rfl
theorem rm_mk (l : Launch) (Z : State) (a0 : Array Value) (hw : ∀ d ∈ tables_1, d.before a0 Z = true) (ws : List Jvm.Cond) (p : Int32) (h0 : Heap) (n0 : Nat) (Z0 : n0 ≤ h0.size) :
    MetFree l y_5 (head1 (Jvm.Cond.code y_5 method_3_code 1 (some (.array .char)) :: ws) r_5) (fun αs U => αs = #[(.int p)] ∧ Z.Warmed39 U.vm ∧ U.heap = h0) (fun _ _ _ _ _ => True) (fun _ Us oS Us' => ∃ vR LR, oS = .returned vR ∧ Q_mk Z h0 n0 vR Us'.heap LR ∧ FrameEnd Us oS Us' LR r_5.cells r_5.slots) := by
  refine MetFree.of_bodySF (plainFor_of_name pno_0) hisR ?_
  intro pP e s m args below meth cC s₁ Bd hml0 hP hK
  obtain ⟨rfl, hZ, hh⟩ := hP
  have hx := Bd.exec
  have W := own_W hw
  have hby := Bd.bytes
  have hml : cC.maxLocals = 1 := hml0
  have hown : s.vm.findClass "com/example/stateful_search/statefulsearch/format/ExcerptsAbbreviatePinLaw" = some m.cls := findClass_of_methodNamed Bd.named
  have hnm := (name_of_methodNamed Bd.named Bd.method).1
  have X0 : Stand pP l e r_5 s m #[(.int p)] below meth cC s₁ [] 0 0 := Stand.of_body Bd
  have e0 : s₁.heap = h0 := by rw [← hh, Bd.state]; rfl
  have N0 := Fr.nil n0
  have KC0 : Keep h0 h0 [] := Keep.refl h0 _
  obtain ⟨A0, hA0⟩ : ∃ ζ, ζ = s₁.setTop (entryFrame m #[(.int p)] 1) := ⟨_, rfl⟩
  have pre0 : own_go pP e below A0 (s₁.setTop (mkF m 0 #[.val (.int p)] [])) := fun τ κ => by rw [hA0]; exact castTop (ef_rm_mk m p) κ
  have pq101 : own_go pP e below A0 (s₁.setTop (mkF m 1 #[.val (.int p)] [(.int p)])) := by
    intro τ κ
    refine pre0 τ ?_
    refine XS.iloadN X0.here hx rfl (hb hby (own_d D_mk 0 rfl)) rfl ?_
    exact κ
  by_cases hc1_102 : p = (0 : Int32)
  · skip
    obtain ⟨T103, h103, k103, X103, e103, E103, A103, st103⟩ := newP X0 hx hZ (W 4 rfl) e0 (g := (mkF m 5 #[.val (.int p)] [(.int (0 : Int32))])) rfl (hb hby (own_d D_mk 3 rfl)) rfl (by decide) (cap := 0) (by decide) (by decide) (by decide) (by decide)
    obtain ⟨b103, g103⟩ : ∃ z, z = h0.size := ⟨_, rfl⟩
    rw [← g103] at A103 st103
    have pq104 : own_go pP e below A0 (T103.setTop (mkF m 7 #[.val (.int p)] [(.ref b103)])) := by
      intro τ κ
      refine pq101 τ ?_
      refine XS.ifNo X0.here hx rfl (hb hby (own_d D_mk 1 rfl)) rfl ((if0 _ _).trans (teq hc1_102).2) ?_
      refine XS.iconst X0.here hx rfl (hb hby (own_d D_mk 2 rfl)) ?_
      refine st103 _ ?_
      exact κ
    have KC103 := KC0.ext E103
    have V103 : Arv Z h103 b103 k103 .char (0 : Int32) [] (.int (0 : Int32)) := Arv.new A103 (by decide)
    obtain ⟨fs, hrE, hrun, hended, hW, hsame⟩ := X103.leave (v := some (.ref b103)) (fun h => by rw [Bd.returns] at h; cases h)
    have pqE := pq104
    rw [hA0] at pqE
    refine ⟨_, _, pqE _ ?_, hrun, hended, _, _, rfl, ?_, ⟨_, rfl⟩, hW, hsame.mono (by decide) (by decide)⟩
    · show Steps pP.tables e below (T103.setTop (mkF m 7 #[.val (.int p)] [(.ref b103)])) _
      exact retOut X103 hx Bd.returns rfl (Or.inr (Or.inr (Or.inr (Or.inr ⟨rfl, rfl, rfl⟩)))) (hb hby (own_d D_mk 4 rfl)) hrE
    · show Q_mk Z h0 n0 _ T103.heap _
      rw [e103]
      exact ⟨b103, _, 0, rfl, N0, KC103, (Nat.le_trans (Nat.le_refl _) (Nat.le_of_eq g103.symm)), (by decide), V103⟩
  · skip
    have pq105 : own_go pP e below A0 (s₁.setTop (mkF m 10 #[.val (.int p)] [(.int (1 : Int32)), (.int p)])) := by
      intro τ κ
      refine pq101 τ ?_
      refine XS.ifYes X0.here hx rfl (pc0 := 1) (pc' := 8) rfl (hb hby (own_d D_mk 1 rfl)) rfl ((if0 _ _).trans (feq hc1_102).2) (by decide) (by decide) ?_
      refine XS.iloadN X0.here hx rfl (hb hby (own_d D_mk 5 rfl)) rfl ?_
      refine XS.iconst X0.here hx rfl (hb hby (own_d D_mk 6 rfl)) ?_
      exact κ
    by_cases hc10_106 : p = (1 : Int32)
    · skip
      obtain ⟨T107, h107, k107, X107, e107, E107, A107, st107⟩ := newP X0 hx hZ (W 4 rfl) e0 (g := (mkF m 14 #[.val (.int p)] [(.int (1 : Int32))])) rfl (hb hby (own_d D_mk 9 rfl)) rfl (by decide) (cap := 1) (by decide) (by decide) (by decide) (by decide)
      obtain ⟨b107, g107⟩ : ∃ z, z = h0.size := ⟨_, rfl⟩
      rw [← g107] at A107 st107
      have pq108 : own_go pP e below A0 (T107.setTop (mkF m 16 #[.val (.int p)] [(.ref b107)])) := by
        intro τ κ
        refine pq105 τ ?_
        refine XS.icmpNo X0.here hx rfl (hb hby (own_d D_mk 7 rfl)) rfl (teq hc10_106).2 ?_
        refine XS.iconst X0.here hx rfl (hb hby (own_d D_mk 8 rfl)) ?_
        refine st107 _ ?_
        exact κ
      have KC107 := KC0.ext E107
      have V107 : Arv Z h107 b107 k107 .char (1 : Int32) [] (.int (0 : Int32)) := Arv.new A107 (by decide)
      obtain ⟨fs, hrE, hrun, hended, hW, hsame⟩ := X107.leave (v := some (.ref b107)) (fun h => by rw [Bd.returns] at h; cases h)
      have pqE := pq108
      rw [hA0] at pqE
      refine ⟨_, _, pqE _ ?_, hrun, hended, _, _, rfl, ?_, ⟨_, rfl⟩, hW, hsame.mono (by decide) (by decide)⟩
      · show Steps pP.tables e below (T107.setTop (mkF m 16 #[.val (.int p)] [(.ref b107)])) _
        exact retOut X107 hx Bd.returns rfl (Or.inr (Or.inr (Or.inr (Or.inr ⟨rfl, rfl, rfl⟩)))) (hb hby (own_d D_mk 10 rfl)) hrE
      · show Q_mk Z h0 n0 _ T107.heap _
        rw [e107]
        exact ⟨b107, _, 1, rfl, N0, KC107, (Nat.le_trans (Nat.le_refl _) (Nat.le_of_eq g107.symm)), (by decide), V107⟩
    · skip
      have pq109 : own_go pP e below A0 (s₁.setTop (mkF m 19 #[.val (.int p)] [(.int (2 : Int32)), (.int p)])) := by
        intro τ κ
        refine pq105 τ ?_
        refine XS.icmpYes X0.here hx rfl (pc0 := 10) (pc' := 17) rfl (hb hby (own_d D_mk 7 rfl)) rfl (feq hc10_106).2 (by decide) (by decide) ?_
        refine XS.iloadN X0.here hx rfl (hb hby (own_d D_mk 11 rfl)) rfl ?_
        refine XS.iconst X0.here hx rfl (hb hby (own_d D_mk 12 rfl)) ?_
        exact κ
      by_cases hc19_110 : p = (2 : Int32)
      · skip
        obtain ⟨T111, h111, k111, X111, e111, E111, A111, st111⟩ := newP X0 hx hZ (W 4 rfl) e0 (g := (mkF m 23 #[.val (.int p)] [(.int (2 : Int32))])) rfl (hb hby (own_d D_mk 15 rfl)) rfl (by decide) (cap := 2) (by decide) (by decide) (by decide) (by decide)
        obtain ⟨b111, g111⟩ : ∃ z, z = h0.size := ⟨_, rfl⟩
        rw [← g111] at A111 st111
        have pq112 : own_go pP e below A0 (T111.setTop (mkF m 25 #[.val (.int p)] [(.ref b111)])) := by
          intro τ κ
          refine pq109 τ ?_
          refine XS.icmpNo X0.here hx rfl (hb hby (own_d D_mk 13 rfl)) rfl (teq hc19_110).2 ?_
          refine XS.iconst X0.here hx rfl (hb hby (own_d D_mk 14 rfl)) ?_
          refine st111 _ ?_
          exact κ
        have KC111 := KC0.ext E111
        have V111 : Arv Z h111 b111 k111 .char (2 : Int32) [] (.int (0 : Int32)) := Arv.new A111 (by decide)
        obtain ⟨fs, hrE, hrun, hended, hW, hsame⟩ := X111.leave (v := some (.ref b111)) (fun h => by rw [Bd.returns] at h; cases h)
        have pqE := pq112
        rw [hA0] at pqE
        refine ⟨_, _, pqE _ ?_, hrun, hended, _, _, rfl, ?_, ⟨_, rfl⟩, hW, hsame.mono (by decide) (by decide)⟩
        · show Steps pP.tables e below (T111.setTop (mkF m 25 #[.val (.int p)] [(.ref b111)])) _
          exact retOut X111 hx Bd.returns rfl (Or.inr (Or.inr (Or.inr (Or.inr ⟨rfl, rfl, rfl⟩)))) (hb hby (own_d D_mk 16 rfl)) hrE
        · show Q_mk Z h0 n0 _ T111.heap _
          rw [e111]
          exact ⟨b111, _, 2, rfl, N0, KC111, (Nat.le_trans (Nat.le_refl _) (Nat.le_of_eq g111.symm)), (by decide), V111⟩
      · skip
        have pq113 : own_go pP e below A0 (s₁.setTop (mkF m 28 #[.val (.int p)] [(.int (3 : Int32)), (.int p)])) := by
          intro τ κ
          refine pq109 τ ?_
          refine XS.icmpYes X0.here hx rfl (pc0 := 19) (pc' := 26) rfl (hb hby (own_d D_mk 13 rfl)) rfl (feq hc19_110).2 (by decide) (by decide) ?_
          refine XS.iloadN X0.here hx rfl (hb hby (own_d D_mk 17 rfl)) rfl ?_
          refine XS.iconst X0.here hx rfl (hb hby (own_d D_mk 18 rfl)) ?_
          exact κ
        by_cases hc28_114 : p = (3 : Int32)
        · skip
          obtain ⟨T115, h115, k115, X115, e115, E115, A115, st115⟩ := newP X0 hx hZ (W 4 rfl) e0 (g := (mkF m 33 #[.val (.int p)] [(.int (39 : Int32))])) rfl (hb hby (own_d D_mk 21 rfl)) rfl (by decide) (cap := 39) (by decide) (by decide) (by decide) (by decide)
          obtain ⟨b115, g115⟩ : ∃ z, z = h0.size := ⟨_, rfl⟩
          rw [← g115] at A115 st115
          have pq116 : own_go pP e below A0 (T115.setTop (mkF m 35 #[.val (.int p)] [(.ref b115)])) := by
            intro τ κ
            refine pq113 τ ?_
            refine XS.icmpNo X0.here hx rfl (hb hby (own_d D_mk 19 rfl)) rfl (teq hc28_114).2 ?_
            refine XS.bipush X0.here hx rfl (hb hby (own_d D_mk 20 rfl)) ?_
            refine st115 _ ?_
            exact κ
          have KC115 := KC0.ext E115
          have V115 : Arv Z h115 b115 k115 .char (39 : Int32) [] (.int (0 : Int32)) := Arv.new A115 (by decide)
          obtain ⟨fs, hrE, hrun, hended, hW, hsame⟩ := X115.leave (v := some (.ref b115)) (fun h => by rw [Bd.returns] at h; cases h)
          have pqE := pq116
          rw [hA0] at pqE
          refine ⟨_, _, pqE _ ?_, hrun, hended, _, _, rfl, ?_, ⟨_, rfl⟩, hW, hsame.mono (by decide) (by decide)⟩
          · show Steps pP.tables e below (T115.setTop (mkF m 35 #[.val (.int p)] [(.ref b115)])) _
            exact retOut X115 hx Bd.returns rfl (Or.inr (Or.inr (Or.inr (Or.inr ⟨rfl, rfl, rfl⟩)))) (hb hby (own_d D_mk 22 rfl)) hrE
          · show Q_mk Z h0 n0 _ T115.heap _
            rw [e115]
            exact ⟨b115, _, 39, rfl, N0, KC115, (Nat.le_trans (Nat.le_refl _) (Nat.le_of_eq g115.symm)), (by decide), V115⟩
        · skip
          have pq117 : own_go pP e below A0 (s₁.setTop (mkF m 38 #[.val (.int p)] [(.int (4 : Int32)), (.int p)])) := by
            intro τ κ
            refine pq113 τ ?_
            refine XS.icmpYes X0.here hx rfl (pc0 := 28) (pc' := 36) rfl (hb hby (own_d D_mk 19 rfl)) rfl (feq hc28_114).2 (by decide) (by decide) ?_
            refine XS.iloadN X0.here hx rfl (hb hby (own_d D_mk 23 rfl)) rfl ?_
            refine XS.iconst X0.here hx rfl (hb hby (own_d D_mk 24 rfl)) ?_
            exact κ
          by_cases hc38_118 : p = (4 : Int32)
          · skip
            obtain ⟨T119, h119, k119, X119, e119, E119, A119, st119⟩ := newP X0 hx hZ (W 4 rfl) e0 (g := (mkF m 43 #[.val (.int p)] [(.int (40 : Int32))])) rfl (hb hby (own_d D_mk 27 rfl)) rfl (by decide) (cap := 40) (by decide) (by decide) (by decide) (by decide)
            obtain ⟨b119, g119⟩ : ∃ z, z = h0.size := ⟨_, rfl⟩
            rw [← g119] at A119 st119
            have pq120 : own_go pP e below A0 (T119.setTop (mkF m 45 #[.val (.int p)] [(.ref b119)])) := by
              intro τ κ
              refine pq117 τ ?_
              refine XS.icmpNo X0.here hx rfl (hb hby (own_d D_mk 25 rfl)) rfl (teq hc38_118).2 ?_
              refine XS.bipush X0.here hx rfl (hb hby (own_d D_mk 26 rfl)) ?_
              refine st119 _ ?_
              exact κ
            have KC119 := KC0.ext E119
            have V119 : Arv Z h119 b119 k119 .char (40 : Int32) [] (.int (0 : Int32)) := Arv.new A119 (by decide)
            obtain ⟨fs, hrE, hrun, hended, hW, hsame⟩ := X119.leave (v := some (.ref b119)) (fun h => by rw [Bd.returns] at h; cases h)
            have pqE := pq120
            rw [hA0] at pqE
            refine ⟨_, _, pqE _ ?_, hrun, hended, _, _, rfl, ?_, ⟨_, rfl⟩, hW, hsame.mono (by decide) (by decide)⟩
            · show Steps pP.tables e below (T119.setTop (mkF m 45 #[.val (.int p)] [(.ref b119)])) _
              exact retOut X119 hx Bd.returns rfl (Or.inr (Or.inr (Or.inr (Or.inr ⟨rfl, rfl, rfl⟩)))) (hb hby (own_d D_mk 28 rfl)) hrE
            · show Q_mk Z h0 n0 _ T119.heap _
              rw [e119]
              exact ⟨b119, _, 40, rfl, N0, KC119, (Nat.le_trans (Nat.le_refl _) (Nat.le_of_eq g119.symm)), (by decide), V119⟩
          · skip
            have pq121 : own_go pP e below A0 (s₁.setTop (mkF m 48 #[.val (.int p)] [(.int (5 : Int32)), (.int p)])) := by
              intro τ κ
              refine pq117 τ ?_
              refine XS.icmpYes X0.here hx rfl (pc0 := 38) (pc' := 46) rfl (hb hby (own_d D_mk 25 rfl)) rfl (feq hc38_118).2 (by decide) (by decide) ?_
              refine XS.iloadN X0.here hx rfl (hb hby (own_d D_mk 29 rfl)) rfl ?_
              refine XS.iconst X0.here hx rfl (hb hby (own_d D_mk 30 rfl)) ?_
              exact κ
            by_cases hc48_122 : p = (5 : Int32)
            · skip
              obtain ⟨T123, h123, k123, X123, e123, E123, A123, st123⟩ := newP X0 hx hZ (W 4 rfl) e0 (g := (mkF m 53 #[.val (.int p)] [(.int (41 : Int32))])) rfl (hb hby (own_d D_mk 33 rfl)) rfl (by decide) (cap := 41) (by decide) (by decide) (by decide) (by decide)
              obtain ⟨b123, g123⟩ : ∃ z, z = h0.size := ⟨_, rfl⟩
              rw [← g123] at A123 st123
              have pq124 : own_go pP e below A0 (T123.setTop (mkF m 55 #[.val (.int p)] [(.ref b123)])) := by
                intro τ κ
                refine pq121 τ ?_
                refine XS.icmpNo X0.here hx rfl (hb hby (own_d D_mk 31 rfl)) rfl (teq hc48_122).2 ?_
                refine XS.bipush X0.here hx rfl (hb hby (own_d D_mk 32 rfl)) ?_
                refine st123 _ ?_
                exact κ
              have KC123 := KC0.ext E123
              have V123 : Arv Z h123 b123 k123 .char (41 : Int32) [] (.int (0 : Int32)) := Arv.new A123 (by decide)
              obtain ⟨fs, hrE, hrun, hended, hW, hsame⟩ := X123.leave (v := some (.ref b123)) (fun h => by rw [Bd.returns] at h; cases h)
              have pqE := pq124
              rw [hA0] at pqE
              refine ⟨_, _, pqE _ ?_, hrun, hended, _, _, rfl, ?_, ⟨_, rfl⟩, hW, hsame.mono (by decide) (by decide)⟩
              · show Steps pP.tables e below (T123.setTop (mkF m 55 #[.val (.int p)] [(.ref b123)])) _
                exact retOut X123 hx Bd.returns rfl (Or.inr (Or.inr (Or.inr (Or.inr ⟨rfl, rfl, rfl⟩)))) (hb hby (own_d D_mk 34 rfl)) hrE
              · show Q_mk Z h0 n0 _ T123.heap _
                rw [e123]
                exact ⟨b123, _, 41, rfl, N0, KC123, (Nat.le_trans (Nat.le_refl _) (Nat.le_of_eq g123.symm)), (by decide), V123⟩
            · skip
              have pq125 : own_go pP e below A0 (s₁.setTop (mkF m 59 #[.val (.int p)] [(.int (6 : Int32)), (.int p)])) := by
                intro τ κ
                refine pq121 τ ?_
                refine XS.icmpYes X0.here hx rfl (pc0 := 48) (pc' := 56) rfl (hb hby (own_d D_mk 31 rfl)) rfl (feq hc48_122).2 (by decide) (by decide) ?_
                refine XS.iloadN X0.here hx rfl (hb hby (own_d D_mk 35 rfl)) rfl ?_
                refine XS.bipush X0.here hx rfl (hb hby (own_d D_mk 36 rfl)) ?_
                exact κ
              by_cases hc59_126 : p = (6 : Int32)
              · skip
                obtain ⟨T127, h127, k127, X127, e127, E127, A127, st127⟩ := newP X0 hx hZ (W 4 rfl) e0 (g := (mkF m 64 #[.val (.int p)] [(.int (42 : Int32))])) rfl (hb hby (own_d D_mk 39 rfl)) rfl (by decide) (cap := 42) (by decide) (by decide) (by decide) (by decide)
                obtain ⟨b127, g127⟩ : ∃ z, z = h0.size := ⟨_, rfl⟩
                rw [← g127] at A127 st127
                have pq128 : own_go pP e below A0 (T127.setTop (mkF m 66 #[.val (.int p)] [(.ref b127)])) := by
                  intro τ κ
                  refine pq125 τ ?_
                  refine XS.icmpNo X0.here hx rfl (hb hby (own_d D_mk 37 rfl)) rfl (teq hc59_126).2 ?_
                  refine XS.bipush X0.here hx rfl (hb hby (own_d D_mk 38 rfl)) ?_
                  refine st127 _ ?_
                  exact κ
                have KC127 := KC0.ext E127
                have V127 : Arv Z h127 b127 k127 .char (42 : Int32) [] (.int (0 : Int32)) := Arv.new A127 (by decide)
                obtain ⟨fs, hrE, hrun, hended, hW, hsame⟩ := X127.leave (v := some (.ref b127)) (fun h => by rw [Bd.returns] at h; cases h)
                have pqE := pq128
                rw [hA0] at pqE
                refine ⟨_, _, pqE _ ?_, hrun, hended, _, _, rfl, ?_, ⟨_, rfl⟩, hW, hsame.mono (by decide) (by decide)⟩
                · show Steps pP.tables e below (T127.setTop (mkF m 66 #[.val (.int p)] [(.ref b127)])) _
                  exact retOut X127 hx Bd.returns rfl (Or.inr (Or.inr (Or.inr (Or.inr ⟨rfl, rfl, rfl⟩)))) (hb hby (own_d D_mk 40 rfl)) hrE
                · show Q_mk Z h0 n0 _ T127.heap _
                  rw [e127]
                  exact ⟨b127, _, 42, rfl, N0, KC127, (Nat.le_trans (Nat.le_refl _) (Nat.le_of_eq g127.symm)), (by decide), V127⟩
              · skip
                obtain ⟨T129, h129, k129, X129, e129, E129, A129, st129⟩ := newP X0 hx hZ (W 4 rfl) e0 (g := (mkF m 69 #[.val (.int p)] [(.int (45 : Int32))])) rfl (hb hby (own_d D_mk 42 rfl)) rfl (by decide) (cap := 45) (by decide) (by decide) (by decide) (by decide)
                obtain ⟨b129, g129⟩ : ∃ z, z = h0.size := ⟨_, rfl⟩
                rw [← g129] at A129 st129
                have pq130 : own_go pP e below A0 (T129.setTop (mkF m 71 #[.val (.int p)] [(.ref b129)])) := by
                  intro τ κ
                  refine pq125 τ ?_
                  refine XS.icmpYes X0.here hx rfl (pc0 := 59) (pc' := 67) rfl (hb hby (own_d D_mk 37 rfl)) rfl (feq hc59_126).2 (by decide) (by decide) ?_
                  refine XS.bipush X0.here hx rfl (hb hby (own_d D_mk 41 rfl)) ?_
                  refine st129 _ ?_
                  exact κ
                have KC129 := KC0.ext E129
                have V129 : Arv Z h129 b129 k129 .char (45 : Int32) [] (.int (0 : Int32)) := Arv.new A129 (by decide)
                obtain ⟨fs, hrE, hrun, hended, hW, hsame⟩ := X129.leave (v := some (.ref b129)) (fun h => by rw [Bd.returns] at h; cases h)
                have pqE := pq130
                rw [hA0] at pqE
                refine ⟨_, _, pqE _ ?_, hrun, hended, _, _, rfl, ?_, ⟨_, rfl⟩, hW, hsame.mono (by decide) (by decide)⟩
                · show Steps pP.tables e below (T129.setTop (mkF m 71 #[.val (.int p)] [(.ref b129)])) _
                  exact retOut X129 hx Bd.returns rfl (Or.inr (Or.inr (Or.inr (Or.inr ⟨rfl, rfl, rfl⟩)))) (hb hby (own_d D_mk 43 rfl)) hrE
                · show Q_mk Z h0 n0 _ T129.heap _
                  rw [e129]
                  exact ⟨b129, _, 45, rfl, N0, KC129, (Nat.le_trans (Nat.le_refl _) (Nat.le_of_eq g129.symm)), (by decide), V129⟩
def Q_cod0 (h0 : Heap) (n0 : Nat) (v : Option Value) (h : Heap) (L : List Loc) : Prop := v = some (.int 0) ∧ Fr n0 L ∧ h = h0
theorem D_cod0 : ∀ q ∈ ([(0, .getstatic 38, 3), (3, .ifCond .eq 10, 3), (6, .aload_n 0, 1), (7, .getfield 15, 3), (10, .goto 4, 3), (14, .ireturn, 1)] : List (Nat × Instr × Nat)), decode jdk_42_method_152_code q.1 = .ok q.2 := by decide +kernel
theorem ef_rm_cod0 (m : MethodId) (x0 : Addr) : entryFrame m #[(.ref x0)] 1 = mkF m 0 #[.val (.ref x0)] [] := by first | (simp [entryFrame, mkF, argsToLocals, Value.category]; done) | rfl
theorem rm_cod0 (l : Launch) (Z : State) (a0 : Array Value) (hw : ∀ d ∈ tables_1, d.before a0 Z = true) (ws : List Jvm.Cond) (x : Addr) (G1 : Int32) (h0 : Heap) (n0 : Nat) (Z0 : n0 ≤ h0.size) (O2 : Sta Z Z.heap "java/lang/String" "COMPACT_STRINGS" "Z" (.int G1)) (P5 : ¬ (G1 = (0 : Int32))) (X00 : Old Z n0 h0) (F_c : Fld Z h0 x "java/lang/String" "coder" "B" (.int 0)) :
    MetFree l y_6 (head1 (Jvm.Cond.code y_6 jdk_42_method_152_code 1 (some .byte) :: ws) r_2) (fun αs U => αs = #[(.ref x)] ∧ Z.Warmed39 U.vm ∧ U.heap = h0) (fun _ _ _ _ _ => True) (fun _ Us oS Us' => ∃ vR LR, oS = .returned vR ∧ Q_cod0 h0 n0 vR Us'.heap LR ∧ FrameEnd Us oS Us' LR r_2.cells r_2.slots) := by
  refine MetFree.of_bodySF (plainFor_of_name pno_1) hisR ?_
  intro pP e s m args below meth cC s₁ Bd hml0 hP hK
  obtain ⟨rfl, hZ, hh⟩ := hP
  have hx := Bd.exec
  have W := own_W hw
  have hby := Bd.bytes
  have hml : cC.maxLocals = 1 := hml0
  have hown : s.vm.findClass "java/lang/String" = some m.cls := findClass_of_methodNamed Bd.named
  have hnm := (name_of_methodNamed Bd.named Bd.method).1
  have X0 : Stand pP l e r_2 s m #[(.ref x)] below meth cC s₁ [] 0 0 := Stand.of_body Bd
  have e0 : s₁.heap = h0 := by rw [← hh, Bd.state]; rfl
  have N0 := Fr.nil n0
  have KC0 : Keep h0 h0 [] := Keep.refl h0 _
  obtain ⟨A0, hA0⟩ : ∃ ζ, ζ = s₁.setTop (entryFrame m #[(.ref x)] 1) := ⟨_, rfl⟩
  have pre0 : own_go pP e below A0 (s₁.setTop (mkF m 0 #[.val (.ref x)] [])) := fun τ κ => by rw [hA0]; exact castTop (ef_rm_cod0 m x) κ
  obtain ⟨T101, X101, e101, st101⟩ := getS2 X0 hx hZ hown (host := "") (Or.inl (W 36 rfl)) Via.refl e0 (O2.ext X00.2) (g := (mkF m 0 #[.val (.ref x)] [])) rfl (hb hby (own_d D_cod0 0 rfl))
  have pq102 : own_go pP e below A0 (T101.setTop (mkF m 3 #[.val (.ref x)] [(.int G1)])) := by
    intro τ κ
    refine pre0 τ ?_
    refine st101 _ ?_
    exact κ
  obtain ⟨T103, X103, e103, st103⟩ := getF X101 hx hZ hown (host := "") (Or.inl (W 31 rfl)) Via.refl e101 F_c (g := (mkF m 7 #[.val (.ref x)] [(.ref x)])) rfl rfl (hb hby (own_d D_cod0 3 rfl))
  have pq104 : own_go pP e below A0 (T103.setTop (mkF m 10 #[.val (.ref x)] [(.int (0 : Int32))])) := by
    intro τ κ
    refine pq102 τ ?_
    refine XS.ifNo X101.here hx rfl (hb hby (own_d D_cod0 1 rfl)) rfl ((if0 _ _).trans (feq P5).1) ?_
    refine XS.aloadN X101.here hx rfl (hb hby (own_d D_cod0 2 rfl)) rfl rfl ?_
    refine st103 _ ?_
    exact κ
  obtain ⟨fs, hrE, hrun, hended, hW, hsame⟩ := X103.leave (v := some (.int (0 : Int32))) (fun h => by rw [Bd.returns] at h; cases h)
  have pqE := pq104
  rw [hA0] at pqE
  refine ⟨_, _, pqE _ ?_, hrun, hended, _, _, rfl, ?_, ⟨_, rfl⟩, hW, hsame.mono (by decide) (by decide)⟩
  · refine XS.goto X103.here hx rfl (pc0 := 10) (pc' := 14) rfl (hb hby (own_d D_cod0 4 rfl)) (by decide) (by decide) ?_
    show Steps pP.tables e below (T103.setTop (mkF m 14 #[.val (.ref x)] [(.int (0 : Int32))])) _
    exact retN X103 hx (t := .byte) Bd.returns (by simp) (hb hby (own_d D_cod0 5 rfl)) hrE
  · show Q_cod0 h0 n0 _ T103.heap _
    rw [e103]
    exact ⟨rfl, N0, rfl⟩
def Q_isl0 (h0 : Heap) (n0 : Nat) (v : Option Value) (h : Heap) (L : List Loc) : Prop := v = some (.int 1) ∧ Fr n0 L ∧ h = h0
theorem D_isl0 : ∀ q ∈ ([(0, .getstatic 38, 3), (3, .ifCond .eq 14, 3), (6, .aload_n 0, 1), (7, .getfield 15, 3), (10, .ifCond .ne 7, 3), (13, .iconst 1, 1), (14, .goto 4, 3), (18, .ireturn, 1)] : List (Nat × Instr × Nat)), decode jdk_42_method_154_code q.1 = .ok q.2 := by decide +kernel
theorem ef_rm_isl0 (m : MethodId) (x0 : Addr) : entryFrame m #[(.ref x0)] 1 = mkF m 0 #[.val (.ref x0)] [] := by first | (simp [entryFrame, mkF, argsToLocals, Value.category]; done) | rfl
theorem rm_isl0 (l : Launch) (Z : State) (a0 : Array Value) (hw : ∀ d ∈ tables_1, d.before a0 Z = true) (ws : List Jvm.Cond) (x : Addr) (G1 : Int32) (h0 : Heap) (n0 : Nat) (Z0 : n0 ≤ h0.size) (O2 : Sta Z Z.heap "java/lang/String" "COMPACT_STRINGS" "Z" (.int G1)) (P5 : ¬ (G1 = (0 : Int32))) (X00 : Old Z n0 h0) (F_c : Fld Z h0 x "java/lang/String" "coder" "B" (.int 0)) :
    MetFree l y_7 (head1 (Jvm.Cond.code y_7 jdk_42_method_154_code 1 (some .boolean) :: ws) r_2) (fun αs U => αs = #[(.ref x)] ∧ Z.Warmed39 U.vm ∧ U.heap = h0) (fun _ _ _ _ _ => True) (fun _ Us oS Us' => ∃ vR LR, oS = .returned vR ∧ Q_isl0 h0 n0 vR Us'.heap LR ∧ FrameEnd Us oS Us' LR r_2.cells r_2.slots) := by
  refine MetFree.of_bodySF (plainFor_of_name pno_1) hisR ?_
  intro pP e s m args below meth cC s₁ Bd hml0 hP hK
  obtain ⟨rfl, hZ, hh⟩ := hP
  have hx := Bd.exec
  have W := own_W hw
  have hby := Bd.bytes
  have hml : cC.maxLocals = 1 := hml0
  have hown : s.vm.findClass "java/lang/String" = some m.cls := findClass_of_methodNamed Bd.named
  have hnm := (name_of_methodNamed Bd.named Bd.method).1
  have X0 : Stand pP l e r_2 s m #[(.ref x)] below meth cC s₁ [] 0 0 := Stand.of_body Bd
  have e0 : s₁.heap = h0 := by rw [← hh, Bd.state]; rfl
  have N0 := Fr.nil n0
  have KC0 : Keep h0 h0 [] := Keep.refl h0 _
  obtain ⟨A0, hA0⟩ : ∃ ζ, ζ = s₁.setTop (entryFrame m #[(.ref x)] 1) := ⟨_, rfl⟩
  have pre0 : own_go pP e below A0 (s₁.setTop (mkF m 0 #[.val (.ref x)] [])) := fun τ κ => by rw [hA0]; exact castTop (ef_rm_isl0 m x) κ
  obtain ⟨T101, X101, e101, st101⟩ := getS2 X0 hx hZ hown (host := "") (Or.inl (W 36 rfl)) Via.refl e0 (O2.ext X00.2) (g := (mkF m 0 #[.val (.ref x)] [])) rfl (hb hby (own_d D_isl0 0 rfl))
  have pq102 : own_go pP e below A0 (T101.setTop (mkF m 3 #[.val (.ref x)] [(.int G1)])) := by
    intro τ κ
    refine pre0 τ ?_
    refine st101 _ ?_
    exact κ
  obtain ⟨T103, X103, e103, st103⟩ := getF X101 hx hZ hown (host := "") (Or.inl (W 31 rfl)) Via.refl e101 F_c (g := (mkF m 7 #[.val (.ref x)] [(.ref x)])) rfl rfl (hb hby (own_d D_isl0 3 rfl))
  have pq104 : own_go pP e below A0 (T103.setTop (mkF m 10 #[.val (.ref x)] [(.int (0 : Int32))])) := by
    intro τ κ
    refine pq102 τ ?_
    refine XS.ifNo X101.here hx rfl (hb hby (own_d D_isl0 1 rfl)) rfl ((if0 _ _).trans (feq P5).1) ?_
    refine XS.aloadN X101.here hx rfl (hb hby (own_d D_isl0 2 rfl)) rfl rfl ?_
    refine st103 _ ?_
    exact κ
  obtain ⟨fs, hrE, hrun, hended, hW, hsame⟩ := X103.leave (v := some (.int (1 : Int32))) (fun h => by rw [Bd.returns] at h; cases h)
  have pqE := pq104
  rw [hA0] at pqE
  refine ⟨_, _, pqE _ ?_, hrun, hended, _, _, rfl, ?_, ⟨_, rfl⟩, hW, hsame.mono (by decide) (by decide)⟩
  · refine XS.ifNo X103.here hx rfl (hb hby (own_d D_isl0 4 rfl)) rfl ((if0 _ _).trans (teq (by decide : ((0 : Int32) = (0 : Int32)))).2) ?_
    refine XS.iconst X103.here hx rfl (hb hby (own_d D_isl0 5 rfl)) ?_
    refine XS.goto X103.here hx rfl (pc0 := 14) (pc' := 18) rfl (hb hby (own_d D_isl0 6 rfl)) (by decide) (by decide) ?_
    show Steps pP.tables e below (T103.setTop (mkF m 18 #[.val (.ref x)] [(.int (1 : Int32))])) _
    exact retN X103 hx (t := .boolean) Bd.returns (by simp) (hb hby (own_d D_isl0 7 rfl)) hrE
  · show Q_isl0 h0 n0 _ T103.heap _
    rw [e103]
    exact ⟨rfl, N0, rfl⟩
def Q_cod1 (h0 : Heap) (n0 : Nat) (v : Option Value) (h : Heap) (L : List Loc) : Prop := v = some (.int 1) ∧ Fr n0 L ∧ h = h0
theorem D_cod1 : ∀ q ∈ ([(0, .getstatic 38, 3), (3, .ifCond .eq 10, 3), (6, .aload_n 0, 1), (7, .getfield 15, 3), (10, .goto 4, 3), (14, .ireturn, 1)] : List (Nat × Instr × Nat)), decode jdk_42_method_152_code q.1 = .ok q.2 := by decide +kernel
theorem ef_rm_cod1 (m : MethodId) (x0 : Addr) : entryFrame m #[(.ref x0)] 1 = mkF m 0 #[.val (.ref x0)] [] := by first | (simp [entryFrame, mkF, argsToLocals, Value.category]; done) | rfl
theorem rm_cod1 (l : Launch) (Z : State) (a0 : Array Value) (hw : ∀ d ∈ tables_1, d.before a0 Z = true) (ws : List Jvm.Cond) (x : Addr) (G1 : Int32) (h0 : Heap) (n0 : Nat) (Z0 : n0 ≤ h0.size) (O2 : Sta Z Z.heap "java/lang/String" "COMPACT_STRINGS" "Z" (.int G1)) (P5 : ¬ (G1 = (0 : Int32))) (X00 : Old Z n0 h0) (F_c : Fld Z h0 x "java/lang/String" "coder" "B" (.int 1)) :
    MetFree l y_6 (head1 (Jvm.Cond.code y_6 jdk_42_method_152_code 1 (some .byte) :: ws) r_2) (fun αs U => αs = #[(.ref x)] ∧ Z.Warmed39 U.vm ∧ U.heap = h0) (fun _ _ _ _ _ => True) (fun _ Us oS Us' => ∃ vR LR, oS = .returned vR ∧ Q_cod1 h0 n0 vR Us'.heap LR ∧ FrameEnd Us oS Us' LR r_2.cells r_2.slots) := by
  refine MetFree.of_bodySF (plainFor_of_name pno_1) hisR ?_
  intro pP e s m args below meth cC s₁ Bd hml0 hP hK
  obtain ⟨rfl, hZ, hh⟩ := hP
  have hx := Bd.exec
  have W := own_W hw
  have hby := Bd.bytes
  have hml : cC.maxLocals = 1 := hml0
  have hown : s.vm.findClass "java/lang/String" = some m.cls := findClass_of_methodNamed Bd.named
  have hnm := (name_of_methodNamed Bd.named Bd.method).1
  have X0 : Stand pP l e r_2 s m #[(.ref x)] below meth cC s₁ [] 0 0 := Stand.of_body Bd
  have e0 : s₁.heap = h0 := by rw [← hh, Bd.state]; rfl
  have N0 := Fr.nil n0
  have KC0 : Keep h0 h0 [] := Keep.refl h0 _
  obtain ⟨A0, hA0⟩ : ∃ ζ, ζ = s₁.setTop (entryFrame m #[(.ref x)] 1) := ⟨_, rfl⟩
  have pre0 : own_go pP e below A0 (s₁.setTop (mkF m 0 #[.val (.ref x)] [])) := fun τ κ => by rw [hA0]; exact castTop (ef_rm_cod1 m x) κ
  obtain ⟨T101, X101, e101, st101⟩ := getS2 X0 hx hZ hown (host := "") (Or.inl (W 36 rfl)) Via.refl e0 (O2.ext X00.2) (g := (mkF m 0 #[.val (.ref x)] [])) rfl (hb hby (own_d D_cod1 0 rfl))
  have pq102 : own_go pP e below A0 (T101.setTop (mkF m 3 #[.val (.ref x)] [(.int G1)])) := by
    intro τ κ
    refine pre0 τ ?_
    refine st101 _ ?_
    exact κ
  obtain ⟨T103, X103, e103, st103⟩ := getF X101 hx hZ hown (host := "") (Or.inl (W 31 rfl)) Via.refl e101 F_c (g := (mkF m 7 #[.val (.ref x)] [(.ref x)])) rfl rfl (hb hby (own_d D_cod1 3 rfl))
  have pq104 : own_go pP e below A0 (T103.setTop (mkF m 10 #[.val (.ref x)] [(.int (1 : Int32))])) := by
    intro τ κ
    refine pq102 τ ?_
    refine XS.ifNo X101.here hx rfl (hb hby (own_d D_cod1 1 rfl)) rfl ((if0 _ _).trans (feq P5).1) ?_
    refine XS.aloadN X101.here hx rfl (hb hby (own_d D_cod1 2 rfl)) rfl rfl ?_
    refine st103 _ ?_
    exact κ
  obtain ⟨fs, hrE, hrun, hended, hW, hsame⟩ := X103.leave (v := some (.int (1 : Int32))) (fun h => by rw [Bd.returns] at h; cases h)
  have pqE := pq104
  rw [hA0] at pqE
  refine ⟨_, _, pqE _ ?_, hrun, hended, _, _, rfl, ?_, ⟨_, rfl⟩, hW, hsame.mono (by decide) (by decide)⟩
  · refine XS.goto X103.here hx rfl (pc0 := 10) (pc' := 14) rfl (hb hby (own_d D_cod1 4 rfl)) (by decide) (by decide) ?_
    show Steps pP.tables e below (T103.setTop (mkF m 14 #[.val (.ref x)] [(.int (1 : Int32))])) _
    exact retN X103 hx (t := .byte) Bd.returns (by simp) (hb hby (own_d D_cod1 5 rfl)) hrE
  · show Q_cod1 h0 n0 _ T103.heap _
    rw [e103]
    exact ⟨rfl, N0, rfl⟩
def Q_isl1 (h0 : Heap) (n0 : Nat) (v : Option Value) (h : Heap) (L : List Loc) : Prop := v = some (.int 0) ∧ Fr n0 L ∧ h = h0
theorem D_isl1 : ∀ q ∈ ([(0, .getstatic 38, 3), (3, .ifCond .eq 14, 3), (6, .aload_n 0, 1), (7, .getfield 15, 3), (10, .ifCond .ne 7, 3), (17, .iconst 0, 1), (18, .ireturn, 1)] : List (Nat × Instr × Nat)), decode jdk_42_method_154_code q.1 = .ok q.2 := by decide +kernel
theorem ef_rm_isl1 (m : MethodId) (x0 : Addr) : entryFrame m #[(.ref x0)] 1 = mkF m 0 #[.val (.ref x0)] [] := by first | (simp [entryFrame, mkF, argsToLocals, Value.category]; done) | rfl
theorem rm_isl1 (l : Launch) (Z : State) (a0 : Array Value) (hw : ∀ d ∈ tables_1, d.before a0 Z = true) (ws : List Jvm.Cond) (x : Addr) (G1 : Int32) (h0 : Heap) (n0 : Nat) (Z0 : n0 ≤ h0.size) (O2 : Sta Z Z.heap "java/lang/String" "COMPACT_STRINGS" "Z" (.int G1)) (P5 : ¬ (G1 = (0 : Int32))) (X00 : Old Z n0 h0) (F_c : Fld Z h0 x "java/lang/String" "coder" "B" (.int 1)) :
    MetFree l y_7 (head1 (Jvm.Cond.code y_7 jdk_42_method_154_code 1 (some .boolean) :: ws) r_2) (fun αs U => αs = #[(.ref x)] ∧ Z.Warmed39 U.vm ∧ U.heap = h0) (fun _ _ _ _ _ => True) (fun _ Us oS Us' => ∃ vR LR, oS = .returned vR ∧ Q_isl1 h0 n0 vR Us'.heap LR ∧ FrameEnd Us oS Us' LR r_2.cells r_2.slots) := by
  refine MetFree.of_bodySF (plainFor_of_name pno_1) hisR ?_
  intro pP e s m args below meth cC s₁ Bd hml0 hP hK
  obtain ⟨rfl, hZ, hh⟩ := hP
  have hx := Bd.exec
  have W := own_W hw
  have hby := Bd.bytes
  have hml : cC.maxLocals = 1 := hml0
  have hown : s.vm.findClass "java/lang/String" = some m.cls := findClass_of_methodNamed Bd.named
  have hnm := (name_of_methodNamed Bd.named Bd.method).1
  have X0 : Stand pP l e r_2 s m #[(.ref x)] below meth cC s₁ [] 0 0 := Stand.of_body Bd
  have e0 : s₁.heap = h0 := by rw [← hh, Bd.state]; rfl
  have N0 := Fr.nil n0
  have KC0 : Keep h0 h0 [] := Keep.refl h0 _
  obtain ⟨A0, hA0⟩ : ∃ ζ, ζ = s₁.setTop (entryFrame m #[(.ref x)] 1) := ⟨_, rfl⟩
  have pre0 : own_go pP e below A0 (s₁.setTop (mkF m 0 #[.val (.ref x)] [])) := fun τ κ => by rw [hA0]; exact castTop (ef_rm_isl1 m x) κ
  obtain ⟨T101, X101, e101, st101⟩ := getS2 X0 hx hZ hown (host := "") (Or.inl (W 36 rfl)) Via.refl e0 (O2.ext X00.2) (g := (mkF m 0 #[.val (.ref x)] [])) rfl (hb hby (own_d D_isl1 0 rfl))
  have pq102 : own_go pP e below A0 (T101.setTop (mkF m 3 #[.val (.ref x)] [(.int G1)])) := by
    intro τ κ
    refine pre0 τ ?_
    refine st101 _ ?_
    exact κ
  obtain ⟨T103, X103, e103, st103⟩ := getF X101 hx hZ hown (host := "") (Or.inl (W 31 rfl)) Via.refl e101 F_c (g := (mkF m 7 #[.val (.ref x)] [(.ref x)])) rfl rfl (hb hby (own_d D_isl1 3 rfl))
  have pq104 : own_go pP e below A0 (T103.setTop (mkF m 10 #[.val (.ref x)] [(.int (1 : Int32))])) := by
    intro τ κ
    refine pq102 τ ?_
    refine XS.ifNo X101.here hx rfl (hb hby (own_d D_isl1 1 rfl)) rfl ((if0 _ _).trans (feq P5).1) ?_
    refine XS.aloadN X101.here hx rfl (hb hby (own_d D_isl1 2 rfl)) rfl rfl ?_
    refine st103 _ ?_
    exact κ
  obtain ⟨fs, hrE, hrun, hended, hW, hsame⟩ := X103.leave (v := some (.int (0 : Int32))) (fun h => by rw [Bd.returns] at h; cases h)
  have pqE := pq104
  rw [hA0] at pqE
  refine ⟨_, _, pqE _ ?_, hrun, hended, _, _, rfl, ?_, ⟨_, rfl⟩, hW, hsame.mono (by decide) (by decide)⟩
  · refine XS.ifYes X103.here hx rfl (pc0 := 10) (pc' := 17) rfl (hb hby (own_d D_isl1 4 rfl)) rfl ((if0 _ _).trans (feq (by decide : ¬ ((1 : Int32) = (0 : Int32)))).2) (by decide) (by decide) ?_
    refine XS.iconst X103.here hx rfl (hb hby (own_d D_isl1 5 rfl)) ?_
    show Steps pP.tables e below (T103.setTop (mkF m 18 #[.val (.ref x)] [(.int (0 : Int32))])) _
    exact retN X103 hx (t := .boolean) Bd.returns (by simp) (hb hby (own_d D_isl1 6 rfl)) hrE
  · show Q_isl1 h0 n0 _ T103.heap _
    rw [e103]
    exact ⟨rfl, N0, rfl⟩
def Q_len (cs : List Int32) (h0 : Heap) (n0 : Nat) (v : Option Value) (h : Heap) (L : List Loc) : Prop := v = some (.int (Int32.ofNat (cs).length)) ∧ Fr n0 L ∧ h = h0
theorem D_lenL : ∀ q ∈ ([(0, .aload_n 0, 1), (1, .getfield 9, 3), (4, .arraylength, 1), (5, .aload_n 0, 1), (6, .invokevirtual 335, 3), (9, .ishr, 1), (10, .ireturn, 1)] : List (Nat × Instr × Nat)), decode jdk_42_method_54_code q.1 = .ok q.2 := by decide +kernel
theorem ef_rm_lenL (m : MethodId) (x0 : Addr) : entryFrame m #[(.ref x0)] 1 = mkF m 0 #[.val (.ref x0)] [] := by first | (simp [entryFrame, mkF, argsToLocals, Value.category]; done) | rfl
theorem rm_lenL (l : Launch) (Z : State) (a0 : Array Value) (hw : ∀ d ∈ tables_1, d.before a0 Z = true) (ws : List Jvm.Cond) (x t : Addr) (kb : ClassId) (cs : List Int32) (G1 : Int32) (h0 : Heap) (n0 : Nat) (Z0 : n0 ≤ h0.size) (O2 : Sta Z Z.heap "java/lang/String" "COMPACT_STRINGS" "Z" (.int G1)) (P5 : ¬ (G1 = (0 : Int32))) (X00 : Old Z n0 h0) (E_x : Exa Z h0 x "java/lang/String") (F_c : Fld Z h0 x "java/lang/String" "coder" "B" (.int 0)) (F_v : Fld Z h0 x "java/lang/String" "value" "[B" (.ref t)) (V_t : Arv Z h0 t kb .byte (Int32.ofNat (cs).length) (((cs).map (fun c : Int32 => c.toInt8.toInt32)).map Value.int) (.int 0)) (hl : (cs).length ≤ 45) :
    MetFree l y_8 (head1 (Jvm.Cond.code y_8 jdk_42_method_54_code 1 (some .int) :: ws) r_6) (fun αs U => αs = #[(.ref x)] ∧ Z.Warmed39 U.vm ∧ U.heap = h0) (fun _ _ _ _ _ => True) (fun _ Us oS Us' => ∃ vR LR, oS = .returned vR ∧ Q_len cs h0 n0 vR Us'.heap LR ∧ FrameEnd Us oS Us' LR r_6.cells r_6.slots) := by
  refine MetFree.of_bodySF (plainFor_of_name pno_1) hisR ?_
  intro pP e s m args below meth cC s₁ Bd hml0 hP hK
  obtain ⟨rfl, hZ, hh⟩ := hP
  have hx := Bd.exec
  have W := own_W hw
  have hby := Bd.bytes
  have hml : cC.maxLocals = 1 := hml0
  have hown : s.vm.findClass "java/lang/String" = some m.cls := findClass_of_methodNamed Bd.named
  have hnm := (name_of_methodNamed Bd.named Bd.method).1
  have X0 : Stand pP l e r_6 s m #[(.ref x)] below meth cC s₁ [] 0 0 := Stand.of_body Bd
  have e0 : s₁.heap = h0 := by rw [← hh, Bd.state]; rfl
  have N0 := Fr.nil n0
  have KC0 : Keep h0 h0 [] := Keep.refl h0 _
  obtain ⟨A0, hA0⟩ : ∃ ζ, ζ = s₁.setTop (entryFrame m #[(.ref x)] 1) := ⟨_, rfl⟩
  have pre0 : own_go pP e below A0 (s₁.setTop (mkF m 0 #[.val (.ref x)] [])) := fun τ κ => by rw [hA0]; exact castTop (ef_rm_lenL m x) κ
  obtain ⟨T101, X101, e101, st101⟩ := getF X0 hx hZ hown (host := "") (Or.inl (W 30 rfl)) Via.refl e0 F_v (g := (mkF m 1 #[.val (.ref x)] [(.ref x)])) rfl rfl (hb hby (own_d D_lenL 1 rfl))
  have pq102 : own_go pP e below A0 (T101.setTop (mkF m 4 #[.val (.ref x)] [(.ref t)])) := by
    intro τ κ
    refine pre0 τ ?_
    refine XS.aloadN X0.here hx rfl (hb hby (own_d D_lenL 0 rfl)) rfl rfl ?_
    refine st101 _ ?_
    exact κ
  obtain ⟨cl103, Ar103, q103, S103, M103, Hs103, G103⟩ := id V_t
  obtain ⟨cq105, kq105, q105a, q105b, q105c⟩ := isOf hZ e101 E_x
  obtain ⟨_, _, ⟨T104, L104, k104, n104⟩, -, X104, ⟨Lc104, hQ104, l104, y104, z104⟩, st104⟩ := X101.virtualBack hx (y := y_6) (z := y_6) hown (mvT hZ (W 75 rfl)) (mvT hZ (W 76 rfl)) (notFace_of_selects (args := #[]) (mvT hZ (W 78 rfl))) (mvT hZ (W 78 rfl)) (mvT hZ (W 77 rfl)) (by decide) (backOf (W := 1) (rm_cod0 l Z a0 hw [] x G1 h0 n0 Z0 O2 P5 X00 F_c) hZ (W 79 rfl) (W 13 rfl) (by decide) (by decide)) q105a q105c (g := (mkF m 6 #[.val (.ref x)] [(.ref x), (.int (Int32.ofNat (cs).length))])) rfl (by rw [hml]; rfl) (Steps.refl _) (argsL := []) (rest := [(.int (Int32.ofNat (cs).length))]) (lenOf pdo_2 rfl) rfl (Nat.le_of_eq rfl) (hb hby (own_d D_lenL 4 rfl)) (fun _ _ => ⟨rfl, e101, (by decide : 0 + 0 ≤ _), (by decide : 0 + 0 ≤ _)⟩)
  dsimp only [Pt.U, Pt.locs, Pt.cells, Pt.slots] at X104 l104 y104 z104 st104 hQ104
  subst l104 y104 z104
  obtain ⟨rfl, Nq104, eq104⟩ := hQ104
  have N104 := Fr.app N0 Nq104
  have pq106 : own_go pP e below A0 (T104.setTop (mkF m 9 #[.val (.ref x)] [(.int (0 : Int32)), (.int (Int32.ofNat (cs).length))])) := by
    intro τ κ
    refine pq102 τ ?_
    refine X101.arraylength hx (by rw [e101]; exact Ar103.1) (State.isArrayOf_alike hZ.alike Ar103.2.1) (g := (mkF m 4 #[.val (.ref x)] [(.ref t)])) rfl rfl (hb hby (own_d D_lenL 2 rfl)) _ ?_
    rw [len_of S103 M103]
    refine XS.aloadN X101.here hx rfl (hb hby (own_d D_lenL 3 rfl)) rfl rfl ?_
    refine st104.trans ?_
    exact κ
  have pq107 : own_go pP e below A0 (T104.setTop (mkF m 10 #[.val (.ref x)] [(.int ((Int32.ofNat (cs).length) >>> ((0 : Int32) &&& 31)))])) := by
    intro τ κ
    refine pq106 τ ?_
    refine XS.ishr X104.here hx rfl (hb hby (own_d D_lenL 5 rfl)) rfl ?_
    exact κ
  have pq108 : own_go pP e below A0 (T104.setTop (mkF m 10 #[.val (.ref x)] [(.int (Int32.ofNat (cs).length))])) := by intro τ κ; refine pq107 τ ?_; rw [show ((Int32.ofNat (cs).length) >>> ((0 : Int32) &&& 31)) = (Int32.ofNat (cs).length) from own_shr0 _]; exact κ
  obtain ⟨fs, hrE, hrun, hended, hW, hsame⟩ := X104.leave (v := some (.int (Int32.ofNat (cs).length))) (fun h => by rw [Bd.returns] at h; cases h)
  have pqE := pq108
  rw [hA0] at pqE
  refine ⟨_, _, pqE _ ?_, hrun, hended, _, _, rfl, ?_, ⟨_, rfl⟩, hW, hsame.mono (by decide) (by decide)⟩
  · show Steps pP.tables e below (T104.setTop (mkF m 10 #[.val (.ref x)] [(.int (Int32.ofNat (cs).length))])) _
    exact retOut X104 hx Bd.returns rfl (Or.inl ⟨rfl, Or.inl rfl, _, rfl⟩) (hb hby (own_d D_lenL 6 rfl)) hrE
  · show Q_len cs h0 n0 _ T104.heap _
    rw [eq104]
    exact ⟨rfl, N104, rfl⟩
theorem D_lenU : ∀ q ∈ ([(0, .aload_n 0, 1), (1, .getfield 9, 3), (4, .arraylength, 1), (5, .aload_n 0, 1), (6, .invokevirtual 335, 3), (9, .ishr, 1), (10, .ireturn, 1)] : List (Nat × Instr × Nat)), decode jdk_42_method_54_code q.1 = .ok q.2 := by decide +kernel
theorem ef_rm_lenU (m : MethodId) (x0 : Addr) : entryFrame m #[(.ref x0)] 1 = mkF m 0 #[.val (.ref x0)] [] := by first | (simp [entryFrame, mkF, argsToLocals, Value.category]; done) | rfl
theorem rm_lenU (l : Launch) (Z : State) (a0 : Array Value) (hw : ∀ d ∈ tables_1, d.before a0 Z = true) (ws : List Jvm.Cond) (x t : Addr) (kb : ClassId) (cs : List Int32) (vs : List Value) (G1 : Int32) (h0 : Heap) (n0 : Nat) (Z0 : n0 ≤ h0.size) (O2 : Sta Z Z.heap "java/lang/String" "COMPACT_STRINGS" "Z" (.int G1)) (P5 : ¬ (G1 = (0 : Int32))) (X00 : Old Z n0 h0) (E_x : Exa Z h0 x "java/lang/String") (F_c : Fld Z h0 x "java/lang/String" "coder" "B" (.int 1)) (F_v : Fld Z h0 x "java/lang/String" "value" "[B" (.ref t)) (V_t : Arv Z h0 t kb .byte (Int32.ofNat (2 * (cs).length)) vs (.int 0)) (hu : own_u16 vs cs) (hl : (cs).length ≤ 45) :
    MetFree l y_8 (head1 (Jvm.Cond.code y_8 jdk_42_method_54_code 1 (some .int) :: ws) r_6) (fun αs U => αs = #[(.ref x)] ∧ Z.Warmed39 U.vm ∧ U.heap = h0) (fun _ _ _ _ _ => True) (fun _ Us oS Us' => ∃ vR LR, oS = .returned vR ∧ Q_len cs h0 n0 vR Us'.heap LR ∧ FrameEnd Us oS Us' LR r_6.cells r_6.slots) := by
  refine MetFree.of_bodySF (plainFor_of_name pno_1) hisR ?_
  intro pP e s m args below meth cC s₁ Bd hml0 hP hK
  obtain ⟨rfl, hZ, hh⟩ := hP
  have hx := Bd.exec
  have W := own_W hw
  have hby := Bd.bytes
  have hml : cC.maxLocals = 1 := hml0
  have hown : s.vm.findClass "java/lang/String" = some m.cls := findClass_of_methodNamed Bd.named
  have hnm := (name_of_methodNamed Bd.named Bd.method).1
  have X0 : Stand pP l e r_6 s m #[(.ref x)] below meth cC s₁ [] 0 0 := Stand.of_body Bd
  have e0 : s₁.heap = h0 := by rw [← hh, Bd.state]; rfl
  have N0 := Fr.nil n0
  have KC0 : Keep h0 h0 [] := Keep.refl h0 _
  obtain ⟨A0, hA0⟩ : ∃ ζ, ζ = s₁.setTop (entryFrame m #[(.ref x)] 1) := ⟨_, rfl⟩
  have pre0 : own_go pP e below A0 (s₁.setTop (mkF m 0 #[.val (.ref x)] [])) := fun τ κ => by rw [hA0]; exact castTop (ef_rm_lenU m x) κ
  obtain ⟨T101, X101, e101, st101⟩ := getF X0 hx hZ hown (host := "") (Or.inl (W 30 rfl)) Via.refl e0 F_v (g := (mkF m 1 #[.val (.ref x)] [(.ref x)])) rfl rfl (hb hby (own_d D_lenU 1 rfl))
  have pq102 : own_go pP e below A0 (T101.setTop (mkF m 4 #[.val (.ref x)] [(.ref t)])) := by
    intro τ κ
    refine pre0 τ ?_
    refine XS.aloadN X0.here hx rfl (hb hby (own_d D_lenU 0 rfl)) rfl rfl ?_
    refine st101 _ ?_
    exact κ
  obtain ⟨cl103, Ar103, q103, S103, M103, Hs103, G103⟩ := id V_t
  obtain ⟨cq105, kq105, q105a, q105b, q105c⟩ := isOf hZ e101 E_x
  obtain ⟨_, _, ⟨T104, L104, k104, n104⟩, -, X104, ⟨Lc104, hQ104, l104, y104, z104⟩, st104⟩ := X101.virtualBack hx (y := y_6) (z := y_6) hown (mvT hZ (W 75 rfl)) (mvT hZ (W 76 rfl)) (notFace_of_selects (args := #[]) (mvT hZ (W 78 rfl))) (mvT hZ (W 78 rfl)) (mvT hZ (W 77 rfl)) (by decide) (backOf (W := 1) (rm_cod1 l Z a0 hw [] x G1 h0 n0 Z0 O2 P5 X00 F_c) hZ (W 79 rfl) (W 13 rfl) (by decide) (by decide)) q105a q105c (g := (mkF m 6 #[.val (.ref x)] [(.ref x), (.int (Int32.ofNat (2 * (cs).length)))])) rfl (by rw [hml]; rfl) (Steps.refl _) (argsL := []) (rest := [(.int (Int32.ofNat (2 * (cs).length)))]) (lenOf pdo_2 rfl) rfl (Nat.le_of_eq rfl) (hb hby (own_d D_lenU 4 rfl)) (fun _ _ => ⟨rfl, e101, (by decide : 0 + 0 ≤ _), (by decide : 0 + 0 ≤ _)⟩)
  dsimp only [Pt.U, Pt.locs, Pt.cells, Pt.slots] at X104 l104 y104 z104 st104 hQ104
  subst l104 y104 z104
  obtain ⟨rfl, Nq104, eq104⟩ := hQ104
  have N104 := Fr.app N0 Nq104
  have pq106 : own_go pP e below A0 (T104.setTop (mkF m 9 #[.val (.ref x)] [(.int (1 : Int32)), (.int (Int32.ofNat (2 * (cs).length)))])) := by
    intro τ κ
    refine pq102 τ ?_
    refine X101.arraylength hx (by rw [e101]; exact Ar103.1) (State.isArrayOf_alike hZ.alike Ar103.2.1) (g := (mkF m 4 #[.val (.ref x)] [(.ref t)])) rfl rfl (hb hby (own_d D_lenU 2 rfl)) _ ?_
    rw [len_of S103 M103]
    refine XS.aloadN X101.here hx rfl (hb hby (own_d D_lenU 3 rfl)) rfl rfl ?_
    refine st104.trans ?_
    exact κ
  have pq107 : own_go pP e below A0 (T104.setTop (mkF m 10 #[.val (.ref x)] [(.int ((Int32.ofNat (2 * (cs).length)) >>> ((1 : Int32) &&& 31)))])) := by
    intro τ κ
    refine pq106 τ ?_
    refine XS.ishr X104.here hx rfl (hb hby (own_d D_lenU 5 rfl)) rfl ?_
    exact κ
  have pq108 : own_go pP e below A0 (T104.setTop (mkF m 10 #[.val (.ref x)] [(.int (Int32.ofNat (cs).length))])) := by intro τ κ; refine pq107 τ ?_; rw [show ((Int32.ofNat (2 * (cs).length)) >>> ((1 : Int32) &&& 31)) = (Int32.ofNat (cs).length) from own_half (by omega)]; exact κ
  obtain ⟨fs, hrE, hrun, hended, hW, hsame⟩ := X104.leave (v := some (.int (Int32.ofNat (cs).length))) (fun h => by rw [Bd.returns] at h; cases h)
  have pqE := pq108
  rw [hA0] at pqE
  refine ⟨_, _, pqE _ ?_, hrun, hended, _, _, rfl, ?_, ⟨_, rfl⟩, hW, hsame.mono (by decide) (by decide)⟩
  · show Steps pP.tables e below (T104.setTop (mkF m 10 #[.val (.ref x)] [(.int (Int32.ofNat (cs).length))])) _
    exact retOut X104 hx Bd.returns rfl (Or.inl ⟨rfl, Or.inl rfl, _, rfl⟩) (hb hby (own_d D_lenU 6 rfl)) hrE
  · show Q_len cs h0 n0 _ T104.heap _
    rw [eq104]
    exact ⟨rfl, N104, rfl⟩
theorem rm_len (l : Launch) (Z : State) (a0 : Array Value) (hw : ∀ d ∈ tables_1, d.before a0 Z = true) (ws : List Jvm.Cond) (x : Addr) (cs : List Int32) (G1 : Int32) (h0 : Heap) (n0 : Nat) (Z0 : n0 ≤ h0.size) (O2 : Sta Z Z.heap "java/lang/String" "COMPACT_STRINGS" "Z" (.int G1)) (P5 : ¬ (G1 = (0 : Int32))) (X00 : Old Z n0 h0) (hl : (cs).length ≤ 45) (U : UStr Z h0 x cs) :
    MetFree l y_8 (head1 (Jvm.Cond.code y_8 jdk_42_method_54_code 1 (some .int) :: ws) r_6) (fun αs U => αs = #[(.ref x)] ∧ Z.Warmed39 U.vm ∧ U.heap = h0) (fun _ _ _ _ _ => True) (fun _ Us oS Us' => ∃ vR LR, oS = .returned vR ∧ Q_len cs h0 n0 vR Us'.heap LR ∧ FrameEnd Us oS Us' LR r_6.cells r_6.slots) := by
  obtain ⟨t, kb, E, Fv, ⟨Fc, Vt, hp⟩ | ⟨Fc, vs, Vt, hu, hp⟩⟩ := U
  · exact rm_lenL l Z a0 hw ws x t kb cs G1 h0 n0 Z0 O2 P5 X00 E Fc Fv Vt hl
  · exact rm_lenU l Z a0 hw ws x t kb cs vs G1 h0 n0 Z0 O2 P5 X00 E Fc Fv Vt hu hl
def Q_cha (cs : List Int32) (i : Nat) (h0 : Heap) (n0 : Nat) (v : Option Value) (h : Heap) (L : List Loc) : Prop := v = some (.int (cs.getD i 0)) ∧ Fr n0 L ∧ h = h0
theorem D_uget : ∀ q ∈ ([(0, .getstatic 44, 3), (3, .ifCond .ne 25, 3), (28, .iload_n 1, 1), (29, .iconst 1, 1), (30, .ishl, 1), (31, .istore_n 1, 1), (32, .aload_n 0, 1), (33, .iload_n 1, 1), (34, .iinc 1 1, 3), (37, .baload, 1), (38, .sipush 255, 3), (41, .iand, 1), (42, .getstatic 59, 3), (45, .ishl, 1), (46, .aload_n 0, 1), (47, .iload_n 1, 1), (48, .baload, 1), (49, .sipush 255, 3), (52, .iand, 1), (53, .getstatic 63, 3), (56, .ishl, 1), (57, .ior, 1), (58, .i2c, 1), (59, .ireturn, 1)] : List (Nat × Instr × Nat)), decode jdk_52_method_5_code q.1 = .ok q.2 := by decide +kernel
theorem ef_rm_uget (m : MethodId) (x0 : Addr) (x1 : Int32) : entryFrame m #[(.ref x0), (.int x1)] 2 = mkF m 0 #[.val (.ref x0), .val (.int x1)] [] := by first | (simp [entryFrame, mkF, argsToLocals, Value.category]; done) | rfl
theorem rm_uget (l : Launch) (Z : State) (a0 : Array Value) (hw : ∀ d ∈ tables_1, d.before a0 Z = true) (ws : List Jvm.Cond) (t : Addr) (kb : ClassId) (cs : List Int32) (vs : List Value) (i : Nat) (h0 : Heap) (n0 : Nat) (Z0 : n0 ≤ h0.size) (OA : Sta Z Z.heap "java/lang/StringUTF16" "$assertionsDisabled" "Z" (.int 1)) (OH : Sta Z Z.heap "java/lang/StringUTF16" "HI_BYTE_SHIFT" "I" (.int 0)) (OL : Sta Z Z.heap "java/lang/StringUTF16" "LO_BYTE_SHIFT" "I" (.int 8)) (X00 : Old Z n0 h0) (V_t : Arv Z h0 t kb .byte (Int32.ofNat (2 * (cs).length)) vs (.int 0)) (hu : own_u16 vs cs) (hp : ∀ c ∈ cs, ¬ c < 0 ∧ ¬ (65535 : Int32) < c) (hl : (cs).length ≤ 45) (hi : i < (cs).length) :
    MetFree l y_9 (head1 (Jvm.Cond.code y_9 jdk_52_method_5_code 2 (some .char) :: ws) r_2) (fun αs U => αs = #[(.ref t), (.int (Int32.ofNat i))] ∧ Z.Warmed39 U.vm ∧ U.heap = h0) (fun _ _ _ _ _ => True) (fun _ Us oS Us' => ∃ vR LR, oS = .returned vR ∧ Q_cha cs i h0 n0 vR Us'.heap LR ∧ FrameEnd Us oS Us' LR r_2.cells r_2.slots) := by
  refine MetFree.of_bodySF (plainFor_of_name pno_2) hisR ?_
  intro pP e s m args below meth cC s₁ Bd hml0 hP hK
  obtain ⟨rfl, hZ, hh⟩ := hP
  have hx := Bd.exec
  have W := own_W hw
  have hby := Bd.bytes
  have hml : cC.maxLocals = 2 := hml0
  have hown : s.vm.findClass "java/lang/StringUTF16" = some m.cls := findClass_of_methodNamed Bd.named
  have hnm := (name_of_methodNamed Bd.named Bd.method).1
  have X0 : Stand pP l e r_2 s m #[(.ref t), (.int (Int32.ofNat i))] below meth cC s₁ [] 0 0 := Stand.of_body Bd
  have e0 : s₁.heap = h0 := by rw [← hh, Bd.state]; rfl
  have N0 := Fr.nil n0
  have KC0 : Keep h0 h0 [] := Keep.refl h0 _
  obtain ⟨A0, hA0⟩ : ∃ ζ, ζ = s₁.setTop (entryFrame m #[(.ref t), (.int (Int32.ofNat i))] 2) := ⟨_, rfl⟩
  have pre0 : own_go pP e below A0 (s₁.setTop (mkF m 0 #[.val (.ref t), .val (.int (Int32.ofNat i))] [])) := fun τ κ => by rw [hA0]; exact castTop (ef_rm_uget m t (Int32.ofNat i)) κ
  obtain ⟨T101, X101, e101, st101⟩ := getS2 X0 hx hZ hown (host := "") (Or.inl (W 57 rfl)) Via.refl e0 (OA.ext X00.2) (g := (mkF m 0 #[.val (.ref t), .val (.int (Int32.ofNat i))] [])) rfl (hb hby (own_d D_uget 0 rfl))
  have pq102 : own_go pP e below A0 (T101.setTop (mkF m 3 #[.val (.ref t), .val (.int (Int32.ofNat i))] [(.int (1 : Int32))])) := by
    intro τ κ
    refine pre0 τ ?_
    refine st101 _ ?_
    exact κ
  have pq103 : own_go pP e below A0 (T101.setTop (mkF m 31 #[.val (.ref t), .val (.int (Int32.ofNat i))] [(.int ((Int32.ofNat i) <<< ((1 : Int32) &&& 31)))])) := by
    intro τ κ
    refine pq102 τ ?_
    refine XS.ifYes X101.here hx rfl (pc0 := 3) (pc' := 28) rfl (hb hby (own_d D_uget 1 rfl)) rfl ((if0 _ _).trans (feq (by decide : ¬ ((1 : Int32) = (0 : Int32)))).2) (by decide) (by decide) ?_
    refine XS.iloadN X101.here hx rfl (hb hby (own_d D_uget 2 rfl)) rfl ?_
    refine XS.iconst X101.here hx rfl (hb hby (own_d D_uget 3 rfl)) ?_
    refine XS.ishl X101.here hx rfl (hb hby (own_d D_uget 4 rfl)) rfl ?_
    exact κ
  have pq104 : own_go pP e below A0 (T101.setTop (mkF m 31 #[.val (.ref t), .val (.int (Int32.ofNat i))] [(.int (Int32.ofNat (2 * i)))])) := by intro τ κ; refine pq103 τ ?_; rw [show ((Int32.ofNat i) <<< ((1 : Int32) &&& 31)) = (Int32.ofNat (2 * i)) from own_dbl (by omega)]; exact κ
  have pq105 : own_go pP e below A0 (T101.setTop (mkF m 37 #[.val (.ref t), .val (.int ((Int32.ofNat (2 * i)) + (1 : Int32)))] [(.int (Int32.ofNat (2 * i))), (.ref t)])) := by
    intro τ κ
    refine pq104 τ ?_
    refine XS.istoreN X101.here hx rfl (hb hby (own_d D_uget 5 rfl)) rfl (l' := #[.val (.ref t), .val (.int (Int32.ofNat (2 * i)))]) rfl ?_
    refine XS.aloadN X101.here hx rfl (hb hby (own_d D_uget 6 rfl)) rfl rfl ?_
    refine XS.iloadN X101.here hx rfl (hb hby (own_d D_uget 7 rfl)) rfl ?_
    refine XS.iinc X101.here hx rfl (hb hby (own_d D_uget 8 rfl)) rfl (l' := #[.val (.ref t), .val (.int ((Int32.ofNat (2 * i)) + (1 : Int32)))]) rfl ?_
    exact κ
  have pq106 : own_go pP e below A0 (T101.setTop (mkF m 37 #[.val (.ref t), .val (.int (Int32.ofNat (2 * i + 1)))] [(.int (Int32.ofNat (2 * i))), (.ref t)])) := by intro τ κ; refine pq105 τ ?_; rw [show ((Int32.ofNat (2 * i)) + (1 : Int32)) = (Int32.ofNat (2 * i + 1)) from own_dbl1 (by omega)]; exact κ
  obtain ⟨cl107, Ar107, q107, S107, M107, Hs107, G107⟩ := id V_t
  have hin107 := inb_of (j := (Int32.ofNat (2 * i))) S107 ⟨own_nn (by omega), (own_ltN (by omega) (by omega)).mpr (by omega)⟩
  obtain ⟨T108, X108, e108, st108⟩ := getS2 X101 hx hZ hown (host := "") (Or.inl (W 58 rfl)) Via.refl e101 (OH.ext X00.2) (g := (mkF m 42 #[.val (.ref t), .val (.int (Int32.ofNat (2 * i + 1)))] [(.int ((own_b (cs.getD i 0) 0) &&& (255 : Int32)))])) rfl (hb hby (own_d D_uget 12 rfl))
  have pq109 : own_go pP e below A0 (T108.setTop (mkF m 45 #[.val (.ref t), .val (.int (Int32.ofNat (2 * i + 1)))] [(.int (0 : Int32)), (.int ((own_b (cs.getD i 0) 0) &&& (255 : Int32)))])) := by
    intro τ κ
    refine pq106 τ ?_
    refine X101.baloadBytes hx (j := (Int32.ofNat (2 * i))) (v := (.int (own_b (cs.getD i 0) 0))) (by rw [e101]; exact Ar107.1) (State.isArrayOf_alike hZ.alike Ar107.2.1) Ar107.2.2 hin107 (Has.at Hs107 hin107 (by rw [own_ofn (by omega)]; exact (hu i hi).1)) (g := (mkF m 37 #[.val (.ref t), .val (.int (Int32.ofNat (2 * i + 1)))] [(.int (Int32.ofNat (2 * i))), (.ref t)])) rfl rfl (hb hby (own_d D_uget 9 rfl)) _ ?_
    refine XS.sipush X101.here hx rfl (hb hby (own_d D_uget 10 rfl)) ?_
    refine XS.iand X101.here hx rfl (hb hby (own_d D_uget 11 rfl)) rfl ?_
    refine st108 _ ?_
    exact κ
  obtain ⟨cl110, Ar110, q110, S110, M110, Hs110, G110⟩ := id V_t
  have hin110 := inb_of (j := (Int32.ofNat (2 * i + 1))) S110 ⟨own_nn (by omega), (own_ltN (by omega) (by omega)).mpr (by omega)⟩
  obtain ⟨T111, X111, e111, st111⟩ := getS2 X108 hx hZ hown (host := "") (Or.inl (W 59 rfl)) Via.refl e108 (OL.ext X00.2) (g := (mkF m 53 #[.val (.ref t), .val (.int (Int32.ofNat (2 * i + 1)))] [(.int ((own_b (cs.getD i 0) 8) &&& (255 : Int32))), (.int (((own_b (cs.getD i 0) 0) &&& (255 : Int32)) <<< ((0 : Int32) &&& 31)))])) rfl (hb hby (own_d D_uget 19 rfl))
  have pq112 : own_go pP e below A0 (T111.setTop (mkF m 56 #[.val (.ref t), .val (.int (Int32.ofNat (2 * i + 1)))] [(.int (8 : Int32)), (.int ((own_b (cs.getD i 0) 8) &&& (255 : Int32))), (.int (((own_b (cs.getD i 0) 0) &&& (255 : Int32)) <<< ((0 : Int32) &&& 31)))])) := by
    intro τ κ
    refine pq109 τ ?_
    refine XS.ishl X108.here hx rfl (hb hby (own_d D_uget 13 rfl)) rfl ?_
    refine XS.aloadN X108.here hx rfl (hb hby (own_d D_uget 14 rfl)) rfl rfl ?_
    refine XS.iloadN X108.here hx rfl (hb hby (own_d D_uget 15 rfl)) rfl ?_
    refine X108.baloadBytes hx (j := (Int32.ofNat (2 * i + 1))) (v := (.int (own_b (cs.getD i 0) 8))) (by rw [e108]; exact Ar110.1) (State.isArrayOf_alike hZ.alike Ar110.2.1) Ar110.2.2 hin110 (Has.at Hs110 hin110 (by rw [own_ofn (by omega)]; exact (hu i hi).2)) (g := (mkF m 48 #[.val (.ref t), .val (.int (Int32.ofNat (2 * i + 1)))] [(.int (Int32.ofNat (2 * i + 1))), (.ref t), (.int (((own_b (cs.getD i 0) 0) &&& (255 : Int32)) <<< ((0 : Int32) &&& 31)))])) rfl rfl (hb hby (own_d D_uget 16 rfl)) _ ?_
    refine XS.sipush X108.here hx rfl (hb hby (own_d D_uget 17 rfl)) ?_
    refine XS.iand X108.here hx rfl (hb hby (own_d D_uget 18 rfl)) rfl ?_
    refine st111 _ ?_
    exact κ
  obtain ⟨fs, hrE, hrun, hended, hW, hsame⟩ := X111.leave (v := some (.int (nar .char (((((own_b (cs.getD i 0) 0) &&& (255 : Int32)) <<< ((0 : Int32) &&& 31)) ||| (((own_b (cs.getD i 0) 8) &&& (255 : Int32)) <<< ((8 : Int32) &&& 31))).toUInt32.toUInt16.toUInt32.toInt32)))) (fun h => by rw [Bd.returns] at h; cases h)
  have pqE := pq112
  rw [hA0] at pqE
  refine ⟨_, _, pqE _ ?_, hrun, hended, _, _, rfl, ?_, ⟨_, rfl⟩, hW, hsame.mono (by decide) (by decide)⟩
  · refine XS.ishl X111.here hx rfl (hb hby (own_d D_uget 20 rfl)) rfl ?_
    refine XS.ior X111.here hx rfl (hb hby (own_d D_uget 21 rfl)) rfl ?_
    refine XS.i2c X111.here hx rfl (hb hby (own_d D_uget 22 rfl)) rfl ?_
    show Steps pP.tables e below (T111.setTop (mkF m 59 #[.val (.ref t), .val (.int (Int32.ofNat (2 * i + 1)))] [(.int (((((own_b (cs.getD i 0) 0) &&& (255 : Int32)) <<< ((0 : Int32) &&& 31)) ||| (((own_b (cs.getD i 0) 8) &&& (255 : Int32)) <<< ((8 : Int32) &&& 31))).toUInt32.toUInt16.toUInt32.toInt32))])) _
    exact retN X111 hx (t := .char) Bd.returns (by simp) (hb hby (own_d D_uget 23 rfl)) hrE
  · show Q_cha cs i h0 n0 _ T111.heap _
    rw [e111]
    exact ⟨by rw [own_gc (own_getmem hp hi)], N0, rfl⟩
def Q_nbl (k : Nat) (h0 : Heap) (n0 : Nat) (v : Option Value) (h : Heap) (L : List Loc) : Prop := v = some (.int (Int32.ofNat (2 * k))) ∧ Fr n0 L ∧ h = h0
theorem D_nbl : ∀ q ∈ ([(0, .iload_n 0, 1), (1, .ifCond .ge 11, 3), (12, .iload_n 0, 1), (13, .ldc 20, 2), (15, .if_icmp .lt 40, 3), (55, .iload_n 0, 1), (56, .iconst 1, 1), (57, .ishl, 1), (58, .ireturn, 1)] : List (Nat × Instr × Nat)), decode jdk_52_method_3_code q.1 = .ok q.2 := by decide +kernel
theorem ef_rm_nbl (m : MethodId) (x0 : Int32) : entryFrame m #[(.int x0)] 1 = mkF m 0 #[.val (.int x0)] [] := by first | (simp [entryFrame, mkF, argsToLocals, Value.category]; done) | rfl
theorem rm_nbl (l : Launch) (Z : State) (a0 : Array Value) (hw : ∀ d ∈ tables_1, d.before a0 Z = true) (ws : List Jvm.Cond) (k : Nat) (h0 : Heap) (n0 : Nat) (Z0 : n0 ≤ h0.size) (hk : k < 100) :
    MetFree l y_10 (head1 (Jvm.Cond.code y_10 jdk_52_method_3_code 1 (some .int) :: ws) r_2) (fun αs U => αs = #[(.int (Int32.ofNat k))] ∧ Z.Warmed39 U.vm ∧ U.heap = h0) (fun _ _ _ _ _ => True) (fun _ Us oS Us' => ∃ vR LR, oS = .returned vR ∧ Q_nbl k h0 n0 vR Us'.heap LR ∧ FrameEnd Us oS Us' LR r_2.cells r_2.slots) := by
  refine MetFree.of_bodySF (plainFor_of_name pno_2) hisR ?_
  intro pP e s m args below meth cC s₁ Bd hml0 hP hK
  obtain ⟨rfl, hZ, hh⟩ := hP
  have hx := Bd.exec
  have W := own_W hw
  have hby := Bd.bytes
  have hml : cC.maxLocals = 1 := hml0
  have hown : s.vm.findClass "java/lang/StringUTF16" = some m.cls := findClass_of_methodNamed Bd.named
  have hnm := (name_of_methodNamed Bd.named Bd.method).1
  have X0 : Stand pP l e r_2 s m #[(.int (Int32.ofNat k))] below meth cC s₁ [] 0 0 := Stand.of_body Bd
  have e0 : s₁.heap = h0 := by rw [← hh, Bd.state]; rfl
  have N0 := Fr.nil n0
  have KC0 : Keep h0 h0 [] := Keep.refl h0 _
  obtain ⟨A0, hA0⟩ : ∃ ζ, ζ = s₁.setTop (entryFrame m #[(.int (Int32.ofNat k))] 1) := ⟨_, rfl⟩
  have pre0 : own_go pP e below A0 (s₁.setTop (mkF m 0 #[.val (.int (Int32.ofNat k))] [])) := fun τ κ => by rw [hA0]; exact castTop (ef_rm_nbl m (Int32.ofNat k)) κ
  have pq101 : own_go pP e below A0 (s₁.setTop (mkF m 58 #[.val (.int (Int32.ofNat k))] [(.int ((Int32.ofNat k) <<< ((1 : Int32) &&& 31)))])) := by
    intro τ κ
    refine pre0 τ ?_
    refine XS.iloadN X0.here hx rfl (hb hby (own_d D_nbl 0 rfl)) rfl ?_
    refine XS.ifYes X0.here hx rfl (pc0 := 1) (pc' := 12) rfl (hb hby (own_d D_nbl 1 rfl)) rfl ((if0 _ _).trans (flt (own_nn (by omega))).2.1) (by decide) (by decide) ?_
    refine XS.iloadN X0.here hx rfl (hb hby (own_d D_nbl 2 rfl)) rfl ?_
    refine X0.ldcInt hx hown (mvT hZ (W 53 rfl)) (g := (mkF m 13 #[.val (.int (Int32.ofNat k))] [(.int (Int32.ofNat k))])) rfl (hb hby (own_d D_nbl 3 rfl)) _ ?_
    refine XS.icmpYes X0.here hx rfl (pc0 := 15) (pc' := 55) rfl (hb hby (own_d D_nbl 4 rfl)) rfl (tlt (own_ltM hk)).1 (by decide) (by decide) ?_
    refine XS.iloadN X0.here hx rfl (hb hby (own_d D_nbl 5 rfl)) rfl ?_
    refine XS.iconst X0.here hx rfl (hb hby (own_d D_nbl 6 rfl)) ?_
    refine XS.ishl X0.here hx rfl (hb hby (own_d D_nbl 7 rfl)) rfl ?_
    exact κ
  have pq102 : own_go pP e below A0 (s₁.setTop (mkF m 58 #[.val (.int (Int32.ofNat k))] [(.int (Int32.ofNat (2 * k)))])) := by intro τ κ; refine pq101 τ ?_; rw [show ((Int32.ofNat k) <<< ((1 : Int32) &&& 31)) = (Int32.ofNat (2 * k)) from own_dbl hk]; exact κ
  obtain ⟨fs, hrE, hrun, hended, hW, hsame⟩ := X0.leave (v := some (.int (Int32.ofNat (2 * k)))) (fun h => by rw [Bd.returns] at h; cases h)
  have pqE := pq102
  rw [hA0] at pqE
  refine ⟨_, _, pqE _ ?_, hrun, hended, _, _, rfl, ?_, ⟨_, rfl⟩, hW, hsame.mono (by decide) (by decide)⟩
  · show Steps pP.tables e below (s₁.setTop (mkF m 58 #[.val (.int (Int32.ofNat k))] [(.int (Int32.ofNat (2 * k)))])) _
    exact retOut X0 hx Bd.returns rfl (Or.inl ⟨rfl, Or.inl rfl, _, rfl⟩) (hb hby (own_d D_nbl 8 rfl)) hrE
  · show Q_nbl k h0 n0 _ s₁.heap _
    rw [e0]
    exact ⟨rfl, N0, rfl⟩
def Q_nbf (Z : State) (k : Nat) (h0 : Heap) (n0 : Nat) (v : Option Value) (h : Heap) (L : List Loc) : Prop := ∃ (b : Addr) (kk : ClassId), v = some (.ref b) ∧ Fr n0 L ∧ Keep h0 h [] ∧ h0.size ≤ b ∧ Arv Z h b kk .byte (Int32.ofNat (2 * k)) [] (.int 0)
theorem D_nbf : ∀ q ∈ ([(0, .iload_n 0, 1), (1, .invokestatic 11, 3), (4, .newarray .byte, 2), (6, .areturn, 1)] : List (Nat × Instr × Nat)), decode jdk_52_method_2_code q.1 = .ok q.2 := by decide +kernel
theorem ef_rm_nbf (m : MethodId) (x0 : Int32) : entryFrame m #[(.int x0)] 1 = mkF m 0 #[.val (.int x0)] [] := by first | (simp [entryFrame, mkF, argsToLocals, Value.category]; done) | rfl
theorem rm_nbf (l : Launch) (Z : State) (a0 : Array Value) (hw : ∀ d ∈ tables_1, d.before a0 Z = true) (ws : List Jvm.Cond) (k : Nat) (h0 : Heap) (n0 : Nat) (Z0 : n0 ≤ h0.size) (hk : k < 100) :
    MetFree l y_11 (head1 (Jvm.Cond.code y_11 jdk_52_method_2_code 1 (some (.array .byte)) :: ws) r_7) (fun αs U => αs = #[(.int (Int32.ofNat k))] ∧ Z.Warmed39 U.vm ∧ U.heap = h0) (fun _ _ _ _ _ => True) (fun _ Us oS Us' => ∃ vR LR, oS = .returned vR ∧ Q_nbf Z k h0 n0 vR Us'.heap LR ∧ FrameEnd Us oS Us' LR r_7.cells r_7.slots) := by
  refine MetFree.of_bodySF (plainFor_of_name pno_2) hisR ?_
  intro pP e s m args below meth cC s₁ Bd hml0 hP hK
  obtain ⟨rfl, hZ, hh⟩ := hP
  have hx := Bd.exec
  have W := own_W hw
  have hby := Bd.bytes
  have hml : cC.maxLocals = 1 := hml0
  have hown : s.vm.findClass "java/lang/StringUTF16" = some m.cls := findClass_of_methodNamed Bd.named
  have hnm := (name_of_methodNamed Bd.named Bd.method).1
  have X0 : Stand pP l e r_7 s m #[(.int (Int32.ofNat k))] below meth cC s₁ [] 0 0 := Stand.of_body Bd
  have e0 : s₁.heap = h0 := by rw [← hh, Bd.state]; rfl
  have N0 := Fr.nil n0
  have KC0 : Keep h0 h0 [] := Keep.refl h0 _
  obtain ⟨A0, hA0⟩ : ∃ ζ, ζ = s₁.setTop (entryFrame m #[(.int (Int32.ofNat k))] 1) := ⟨_, rfl⟩
  have pre0 : own_go pP e below A0 (s₁.setTop (mkF m 0 #[.val (.int (Int32.ofNat k))] [])) := fun τ κ => by rw [hA0]; exact castTop (ef_rm_nbf m (Int32.ofNat k)) κ
  obtain ⟨_, _, ⟨T101, L101, k101, n101⟩, -, X101, ⟨Lc101, hQ101, l101, y101, z101⟩, st101⟩ := Jvm.LawKit.callS X0 hx (y := y_10) hown (mvT hZ (W 50 rfl)) (mvT hZ (W 51 rfl)) (mvT hZ (W 39 rfl)) (mvT hZ (W 52 rfl)) (by decide) (backOf (W := 0) (rm_nbl l Z a0 hw [] k h0 n0 Z0 hk) hZ (W 52 rfl) (W 39 rfl) (by decide) (by decide)) (g := (mkF m 1 #[.val (.int (Int32.ofNat k))] [(.int (Int32.ofNat k))])) rfl (by rw [hml]; rfl) (argsL := [(.int (Int32.ofNat k))]) (rest := []) (lenOf pdo_3 rfl) rfl (Nat.le_of_eq rfl) (hb hby (own_d D_nbf 1 rfl)) (fun _ _ => ⟨rfl, e0, (by decide : 0 + 0 ≤ _), (by decide : 0 + 0 ≤ _)⟩)
  dsimp only [Pt.U, Pt.locs, Pt.cells, Pt.slots] at X101 l101 y101 z101 st101 hQ101
  subst l101 y101 z101
  obtain ⟨rfl, Nq101, eq101⟩ := hQ101
  have N101 := Fr.app N0 Nq101
  have pq102 : own_go pP e below A0 (T101.setTop (mkF m 4 #[.val (.int (Int32.ofNat k))] [(.int (Int32.ofNat (2 * k)))])) := by
    intro τ κ
    refine pre0 τ ?_
    refine XS.iloadN X0.here hx rfl (hb hby (own_d D_nbf 0 rfl)) rfl ?_
    refine st101 _ ?_
    exact κ
  obtain ⟨T103, h103, k103, X103, e103, E103, A103, st103⟩ := newP X101 hx hZ (W 25 rfl) eq101 (g := (mkF m 4 #[.val (.int (Int32.ofNat k))] [(.int (Int32.ofNat (2 * k)))])) rfl (hb hby (own_d D_nbf 2 rfl)) rfl (own_nn (by omega)) (cap := 200) (by rw [own_ofn (by omega)]; omega) (by decide) (by decide) (by decide)
  obtain ⟨b103, g103⟩ : ∃ z, z = h0.size := ⟨_, rfl⟩
  rw [← g103] at A103 st103
  have pq104 : own_go pP e below A0 (T103.setTop (mkF m 6 #[.val (.int (Int32.ofNat k))] [(.ref b103)])) := by
    intro τ κ
    refine pq102 τ ?_
    refine st103 _ ?_
    exact κ
  have KC103 := KC0.ext E103
  have V103 : Arv Z h103 b103 k103 .byte (Int32.ofNat (2 * k)) [] (.int (0 : Int32)) := Arv.new A103 (own_nn (by omega))
  obtain ⟨fs, hrE, hrun, hended, hW, hsame⟩ := X103.leave (v := some (.ref b103)) (fun h => by rw [Bd.returns] at h; cases h)
  have pqE := pq104
  rw [hA0] at pqE
  refine ⟨_, _, pqE _ ?_, hrun, hended, _, _, rfl, ?_, ⟨_, rfl⟩, hW, hsame.mono (by decide) (by decide)⟩
  · show Steps pP.tables e below (T103.setTop (mkF m 6 #[.val (.int (Int32.ofNat k))] [(.ref b103)])) _
    exact retOut X103 hx Bd.returns rfl (Or.inr (Or.inr (Or.inr (Or.inr ⟨rfl, rfl, rfl⟩)))) (hb hby (own_d D_nbf 3 rfl)) hrE
  · show Q_nbf Z k h0 n0 _ T103.heap _
    rw [e103]
    exact ⟨b103, _, rfl, N101, KC103, (Nat.le_trans (Nat.le_refl _) (Nat.le_of_eq g103.symm)), V103⟩
def Q_upc (Z : State) (u : Addr) (ku : ClassId) (k i : Nat) (vs : List Value) (c : Int32) (h0 : Heap) (n0 : Nat) (v : Option Value) (h : Heap) (L : List Loc) : Prop := v = none ∧ Fr n0 L ∧ Keep h0 h [u] ∧ Arv Z h u ku .byte (Int32.ofNat (2 * k)) ((vs.set (2 * i) (.int (own_b c 0))).set (2 * i + 1) (.int (own_b c 8))) (.int 0)
theorem D_upc : ∀ q ∈ ([(0, .getstatic 44, 3), (3, .ifCond .ne 25, 3), (28, .iload_n 1, 1), (29, .iconst 1, 1), (30, .ishl, 1), (31, .istore_n 1, 1), (32, .aload_n 0, 1), (33, .iload_n 1, 1), (34, .iinc 1 1, 3), (37, .iload_n 2, 1), (38, .getstatic 59, 3), (41, .ishr, 1), (42, .i2b, 1), (43, .bastore, 1), (44, .aload_n 0, 1), (45, .iload_n 1, 1), (46, .iload_n 2, 1), (47, .getstatic 63, 3), (50, .ishr, 1), (51, .i2b, 1), (52, .bastore, 1), (53, .return_, 1)] : List (Nat × Instr × Nat)), decode jdk_52_method_4_code q.1 = .ok q.2 := by decide +kernel
theorem ef_rm_upc (m : MethodId) (x0 : Addr) (x1 : Int32) (x2 : Int32) : entryFrame m #[(.ref x0), (.int x1), (.int x2)] 3 = mkF m 0 #[.val (.ref x0), .val (.int x1), .val (.int x2)] [] := by first | (simp [entryFrame, mkF, argsToLocals, Value.category]; done) | rfl
theorem rm_upc (l : Launch) (Z : State) (a0 : Array Value) (hw : ∀ d ∈ tables_1, d.before a0 Z = true) (ws : List Jvm.Cond) (u : Addr) (ku : ClassId) (k i : Nat) (vs : List Value) (c : Int32) (h0 : Heap) (n0 : Nat) (Z0 : n0 ≤ h0.size) (OA : Sta Z Z.heap "java/lang/StringUTF16" "$assertionsDisabled" "Z" (.int 1)) (OH : Sta Z Z.heap "java/lang/StringUTF16" "HI_BYTE_SHIFT" "I" (.int 0)) (OL : Sta Z Z.heap "java/lang/StringUTF16" "LO_BYTE_SHIFT" "I" (.int 8)) (X00 : Old Z n0 h0) (V_u : Arv Z h0 u ku .byte (Int32.ofNat (2 * k)) vs (.int 0)) (gu : n0 ≤ u) (hk : k < 100) (hi : i < k) (hv : 2 * k ≤ vs.length) :
    MetFree l y_12 (head1 (Jvm.Cond.code y_12 jdk_52_method_4_code 3 none :: ws) r_2) (fun αs U => αs = #[(.ref u), (.int (Int32.ofNat i)), (.int c)] ∧ Z.Warmed39 U.vm ∧ U.heap = h0) (fun _ _ _ _ _ => True) (fun _ Us oS Us' => ∃ vR LR, oS = .returned vR ∧ Q_upc Z u ku k i vs c h0 n0 vR Us'.heap LR ∧ FrameEnd Us oS Us' LR r_2.cells r_2.slots) := by
  refine MetFree.of_bodySF (plainFor_of_name pno_2) hisR ?_
  intro pP e s m args below meth cC s₁ Bd hml0 hP hK
  obtain ⟨rfl, hZ, hh⟩ := hP
  have hx := Bd.exec
  have W := own_W hw
  have hby := Bd.bytes
  have hml : cC.maxLocals = 3 := hml0
  have hown : s.vm.findClass "java/lang/StringUTF16" = some m.cls := findClass_of_methodNamed Bd.named
  have hnm := (name_of_methodNamed Bd.named Bd.method).1
  have X0 : Stand pP l e r_2 s m #[(.ref u), (.int (Int32.ofNat i)), (.int c)] below meth cC s₁ [] 0 0 := Stand.of_body Bd
  have e0 : s₁.heap = h0 := by rw [← hh, Bd.state]; rfl
  have N0 := Fr.nil n0
  have KC0 : Keep h0 h0 [u] := Keep.refl h0 _
  obtain ⟨A0, hA0⟩ : ∃ ζ, ζ = s₁.setTop (entryFrame m #[(.ref u), (.int (Int32.ofNat i)), (.int c)] 3) := ⟨_, rfl⟩
  have pre0 : own_go pP e below A0 (s₁.setTop (mkF m 0 #[.val (.ref u), .val (.int (Int32.ofNat i)), .val (.int c)] [])) := fun τ κ => by rw [hA0]; exact castTop (ef_rm_upc m u (Int32.ofNat i) c) κ
  obtain ⟨T101, X101, e101, st101⟩ := getS2 X0 hx hZ hown (host := "") (Or.inl (W 57 rfl)) Via.refl e0 (OA.ext X00.2) (g := (mkF m 0 #[.val (.ref u), .val (.int (Int32.ofNat i)), .val (.int c)] [])) rfl (hb hby (own_d D_upc 0 rfl))
  have pq102 : own_go pP e below A0 (T101.setTop (mkF m 3 #[.val (.ref u), .val (.int (Int32.ofNat i)), .val (.int c)] [(.int (1 : Int32))])) := by
    intro τ κ
    refine pre0 τ ?_
    refine st101 _ ?_
    exact κ
  have pq103 : own_go pP e below A0 (T101.setTop (mkF m 31 #[.val (.ref u), .val (.int (Int32.ofNat i)), .val (.int c)] [(.int ((Int32.ofNat i) <<< ((1 : Int32) &&& 31)))])) := by
    intro τ κ
    refine pq102 τ ?_
    refine XS.ifYes X101.here hx rfl (pc0 := 3) (pc' := 28) rfl (hb hby (own_d D_upc 1 rfl)) rfl ((if0 _ _).trans (feq (by decide : ¬ ((1 : Int32) = (0 : Int32)))).2) (by decide) (by decide) ?_
    refine XS.iloadN X101.here hx rfl (hb hby (own_d D_upc 2 rfl)) rfl ?_
    refine XS.iconst X101.here hx rfl (hb hby (own_d D_upc 3 rfl)) ?_
    refine XS.ishl X101.here hx rfl (hb hby (own_d D_upc 4 rfl)) rfl ?_
    exact κ
  have pq104 : own_go pP e below A0 (T101.setTop (mkF m 31 #[.val (.ref u), .val (.int (Int32.ofNat i)), .val (.int c)] [(.int (Int32.ofNat (2 * i)))])) := by intro τ κ; refine pq103 τ ?_; rw [show ((Int32.ofNat i) <<< ((1 : Int32) &&& 31)) = (Int32.ofNat (2 * i)) from own_dbl (by omega)]; exact κ
  have pq105 : own_go pP e below A0 (T101.setTop (mkF m 37 #[.val (.ref u), .val (.int ((Int32.ofNat (2 * i)) + (1 : Int32))), .val (.int c)] [(.int (Int32.ofNat (2 * i))), (.ref u)])) := by
    intro τ κ
    refine pq104 τ ?_
    refine XS.istoreN X101.here hx rfl (hb hby (own_d D_upc 5 rfl)) rfl (l' := #[.val (.ref u), .val (.int (Int32.ofNat (2 * i))), .val (.int c)]) rfl ?_
    refine XS.aloadN X101.here hx rfl (hb hby (own_d D_upc 6 rfl)) rfl rfl ?_
    refine XS.iloadN X101.here hx rfl (hb hby (own_d D_upc 7 rfl)) rfl ?_
    refine XS.iinc X101.here hx rfl (hb hby (own_d D_upc 8 rfl)) rfl (l' := #[.val (.ref u), .val (.int ((Int32.ofNat (2 * i)) + (1 : Int32))), .val (.int c)]) rfl ?_
    exact κ
  have pq106 : own_go pP e below A0 (T101.setTop (mkF m 37 #[.val (.ref u), .val (.int (Int32.ofNat (2 * i + 1))), .val (.int c)] [(.int (Int32.ofNat (2 * i))), (.ref u)])) := by intro τ κ; refine pq105 τ ?_; rw [show ((Int32.ofNat (2 * i)) + (1 : Int32)) = (Int32.ofNat (2 * i + 1)) from own_dbl1 (by omega)]; exact κ
  obtain ⟨T107, X107, e107, st107⟩ := getS2 X101 hx hZ hown (host := "") (Or.inl (W 58 rfl)) Via.refl e101 (OH.ext X00.2) (g := (mkF m 38 #[.val (.ref u), .val (.int (Int32.ofNat (2 * i + 1))), .val (.int c)] [(.int c), (.int (Int32.ofNat (2 * i))), (.ref u)])) rfl (hb hby (own_d D_upc 10 rfl))
  have pq108 : own_go pP e below A0 (T107.setTop (mkF m 41 #[.val (.ref u), .val (.int (Int32.ofNat (2 * i + 1))), .val (.int c)] [(.int (0 : Int32)), (.int c), (.int (Int32.ofNat (2 * i))), (.ref u)])) := by
    intro τ κ
    refine pq106 τ ?_
    refine XS.iloadN X101.here hx rfl (hb hby (own_d D_upc 9 rfl)) rfl ?_
    refine st107 _ ?_
    exact κ
  obtain ⟨cl109, Ar109, q109, S109, M109, Hs109, G109⟩ := id V_u
  obtain ⟨T109, h109, X109, e109, W109, st109⟩ := stB X107 hx hZ e107 Ar109 (j := (Int32.ofNat (2 * i))) (inb_of S109 ⟨own_nn (by omega), (own_ltN (by omega) (by omega)).mpr (by omega)⟩) (g := (mkF m 43 #[.val (.ref u), .val (.int (Int32.ofNat (2 * i + 1))), .val (.int c)] [(.int ((c >>> ((0 : Int32) &&& 31)).toInt8.toInt32)), (.int (Int32.ofNat (2 * i))), (.ref u)])) rfl rfl (hb hby (own_d D_upc 13 rfl))
  have pq110 : own_go pP e below A0 (T109.setTop (mkF m 44 #[.val (.ref u), .val (.int (Int32.ofNat (2 * i + 1))), .val (.int c)] [])) := by
    intro τ κ
    refine pq108 τ ?_
    refine XS.ishr X107.here hx rfl (hb hby (own_d D_upc 11 rfl)) rfl ?_
    refine XS.i2b X107.here hx rfl (hb hby (own_d D_upc 12 rfl)) rfl ?_
    refine st109 _ ?_
    exact κ
  have KC109 := KC0.wr W109 (Or.inl (List.mem_of_getElem? (i := 0) rfl))
  have V109 : Arv Z h109 u ku .byte (Int32.ofNat (2 * k)) (vs.set (2 * i) (.int ((c >>> ((0 : Int32) &&& 31)).toInt8.toInt32).toInt8.toInt32)) (.int 0) := Arv.set Ar109 q109 S109 M109 Hs109 G109 (fits_nar_byte _) W109 (2 * i) (own_ofn (by omega)) (by omega)
  have N109 := Fr.snoc X109 N0 gu
  have f112 := (X00.wr W109 gu)
  obtain ⟨T111, X111, e111, st111⟩ := getS2 X109 hx hZ hown (host := "") (Or.inl (W 59 rfl)) Via.refl e109 (OL.ext f112.2) (g := (mkF m 47 #[.val (.ref u), .val (.int (Int32.ofNat (2 * i + 1))), .val (.int c)] [(.int c), (.int (Int32.ofNat (2 * i + 1))), (.ref u)])) rfl (hb hby (own_d D_upc 17 rfl))
  have pq113 : own_go pP e below A0 (T111.setTop (mkF m 50 #[.val (.ref u), .val (.int (Int32.ofNat (2 * i + 1))), .val (.int c)] [(.int (8 : Int32)), (.int c), (.int (Int32.ofNat (2 * i + 1))), (.ref u)])) := by
    intro τ κ
    refine pq110 τ ?_
    refine XS.aloadN X109.here hx rfl (hb hby (own_d D_upc 14 rfl)) rfl rfl ?_
    refine XS.iloadN X109.here hx rfl (hb hby (own_d D_upc 15 rfl)) rfl ?_
    refine XS.iloadN X109.here hx rfl (hb hby (own_d D_upc 16 rfl)) rfl ?_
    refine st111 _ ?_
    exact κ
  obtain ⟨cl114, Ar114, q114, S114, M114, Hs114, G114⟩ := id V109
  obtain ⟨T114, h114, X114, e114, W114, st114⟩ := stB X111 hx hZ e111 Ar114 (j := (Int32.ofNat (2 * i + 1))) (inb_of S114 ⟨own_nn (by omega), (own_ltN (by omega) (by omega)).mpr (by omega)⟩) (g := (mkF m 52 #[.val (.ref u), .val (.int (Int32.ofNat (2 * i + 1))), .val (.int c)] [(.int ((c >>> ((8 : Int32) &&& 31)).toInt8.toInt32)), (.int (Int32.ofNat (2 * i + 1))), (.ref u)])) rfl rfl (hb hby (own_d D_upc 20 rfl))
  have pq115 : own_go pP e below A0 (T114.setTop (mkF m 53 #[.val (.ref u), .val (.int (Int32.ofNat (2 * i + 1))), .val (.int c)] [])) := by
    intro τ κ
    refine pq113 τ ?_
    refine XS.ishr X111.here hx rfl (hb hby (own_d D_upc 18 rfl)) rfl ?_
    refine XS.i2b X111.here hx rfl (hb hby (own_d D_upc 19 rfl)) rfl ?_
    refine st114 _ ?_
    exact κ
  have KC114 := KC109.wr W114 (Or.inl (List.mem_of_getElem? (i := 0) rfl))
  have V114 : Arv Z h114 u ku .byte (Int32.ofNat (2 * k)) ((vs.set (2 * i) (.int ((c >>> ((0 : Int32) &&& 31)).toInt8.toInt32).toInt8.toInt32)).set (2 * i + 1) (.int ((c >>> ((8 : Int32) &&& 31)).toInt8.toInt32).toInt8.toInt32)) (.int 0) := Arv.set Ar114 q114 S114 M114 Hs114 G114 (fits_nar_byte _) W114 (2 * i + 1) (own_ofn (by omega)) (by rw [List.length_set]; omega)
  have N114 := Fr.snoc X114 N109 gu
  obtain ⟨fs, hrE, hrun, hended, hW, hsame⟩ := X114.leave (v := none) (fun _ => rfl)
  have pqE := pq115
  rw [hA0] at pqE
  refine ⟨_, _, pqE _ ?_, hrun, hended, _, _, rfl, ?_, ⟨_, rfl⟩, hW, hsame.mono (by decide) (by decide)⟩
  · show Steps pP.tables e below (T114.setTop (mkF m 53 #[.val (.ref u), .val (.int (Int32.ofNat (2 * i + 1))), .val (.int c)] [])) _
    exact X114.returnOut hx Bd.returns (hb hby (own_d D_upc 21 rfl)) hrE
  · show Q_upc Z u ku k i vs c h0 n0 _ T114.heap _
    rw [e114]
    exact ⟨rfl, N114, KC114, V114⟩
def Q_c5 (cs : List Int32) (d : Addr) (h0 : Heap) (n0 : Nat) (v : Option Value) (h : Heap) (L : List Loc) : Prop := ∃ j : Nat, v = some (.int (Int32.ofNat j)) ∧ j < (cs).length ∧ (255 : Int32) < cs.getD j 0 ∧ Fr n0 L ∧ Keep h0 h [d]
theorem D_c5 : ∀ q ∈ ([(0, .iconst 0, 1), (1, .istore 5, 2), (3, .iload 5, 2), (5, .iload 4, 2), (7, .if_icmp .ge 37, 3), (10, .aload_n 0, 1), (11, .iload_n 1, 1), (12, .caload, 1), (13, .istore 6, 2), (15, .iload 6, 2), (17, .sipush 255, 3), (20, .if_icmp .le 6, 3), (23, .iload 5, 2), (25, .ireturn, 1), (26, .aload_n 2, 1), (27, .iload_n 3, 1), (28, .iload 6, 2), (30, .i2b, 1), (31, .bastore, 1), (32, .iinc 1 1, 3), (35, .iinc 3 1, 3), (38, .iinc 5 1, 3), (41, .goto (-38), 3), (44, .iload 4, 2)] : List (Nat × Instr × Nat)), decode jdk_52_method_21_code q.1 = .ok q.2 := by decide +kernel
theorem ef_rm_c5 (m : MethodId) (x0 : Addr) (x1 : Int32) (x2 : Addr) (x3 : Int32) (x4 : Int32) : entryFrame m #[(.ref x0), (.int x1), (.ref x2), (.int x3), (.int x4)] 7 = mkF m 0 #[.val (.ref x0), .val (.int x1), .val (.ref x2), .val (.int x3), .val (.int x4), .unset, .unset] [] := by first | (simp [entryFrame, mkF, argsToLocals, Value.category]; done) | rfl
theorem rm_c5 (l : Launch) (Z : State) (a0 : Array Value) (hw : ∀ d ∈ tables_1, d.before a0 Z = true) (ws : List Jvm.Cond) (b d : Addr) (kc kd : ClassId) (cs : List Int32) (h0 : Heap) (n0 : Nat) (Z0 : n0 ≤ h0.size) (V_b : Arv Z h0 b kc .char (Int32.ofNat (cs).length) (cs.map Value.int) (.int 0)) (V_d : Arv Z h0 d kd .byte (Int32.ofNat (cs).length) [] (.int 0)) (gd : n0 ≤ d) (hbd : b ≠ d) (hbad : ¬ ∀ c ∈ cs, ¬ (255 : Int32) < c) (hl : (cs).length ≤ 45) :
    MetFree l y_13 (head1 (Jvm.Cond.code y_13 jdk_52_method_21_code 7 (some .int) :: ws) r_2) (fun αs U => αs = #[(.ref b), (.int (0 : Int32)), (.ref d), (.int (0 : Int32)), (.int (Int32.ofNat (cs).length))] ∧ Z.Warmed39 U.vm ∧ U.heap = h0) (fun _ _ _ _ _ => True) (fun _ Us oS Us' => ∃ vR LR, oS = .returned vR ∧ Q_c5 cs d h0 n0 vR Us'.heap LR ∧ FrameEnd Us oS Us' LR r_2.cells r_2.slots) := by
  refine MetFree.of_bodySF (plainFor_of_name pno_2) hisR ?_
  intro pP e s m args below meth cC s₁ Bd hml0 hP hK
  obtain ⟨rfl, hZ, hh⟩ := hP
  have hx := Bd.exec
  have hby := Bd.bytes
  have hml : cC.maxLocals = 7 := hml0
  have hown : s.vm.findClass "java/lang/StringUTF16" = some m.cls := findClass_of_methodNamed Bd.named
  have hnm := (name_of_methodNamed Bd.named Bd.method).1
  have X0 : Stand pP l e r_2 s m #[(.ref b), (.int (0 : Int32)), (.ref d), (.int (0 : Int32)), (.int (Int32.ofNat (cs).length))] below meth cC s₁ [] 0 0 := Stand.of_body Bd
  have e0 : s₁.heap = h0 := by rw [← hh, Bd.state]; rfl
  have N0 := Fr.nil n0
  have KC0 : Keep h0 h0 [d] := Keep.refl h0 _
  obtain ⟨A0, hA0⟩ : ∃ ζ, ζ = s₁.setTop (entryFrame m #[(.ref b), (.int (0 : Int32)), (.ref d), (.int (0 : Int32)), (.int (Int32.ofNat (cs).length))] 7) := ⟨_, rfl⟩
  have pre0 : own_go pP e below A0 (s₁.setTop (mkF m 0 #[.val (.ref b), .val (.int (0 : Int32)), .val (.ref d), .val (.int (0 : Int32)), .val (.int (Int32.ofNat (cs).length)), .unset, .unset] [])) := fun τ κ => by rw [hA0]; exact castTop (ef_rm_c5 m b (0 : Int32) d (0 : Int32) (Int32.ofNat (cs).length)) κ
  have V101 : ∃ ws_ : List Value, (cs).length ≤ ws_.length ∧ Arv Z h0 d kd .byte (Int32.ofNat (cs).length) ws_ (.int 0) := ⟨[] ++ List.replicate (cs).length (Value.int 0), by simp, V_d.pad (pad_rep _ _ _)⟩
  have pq102 : own_go pP e below A0 (s₁.setTop (mkF m 3 #[.val (.ref b), .val (.int (0 : Int32)), .val (.ref d), .val (.int (0 : Int32)), .val (.int (Int32.ofNat (cs).length)), .val (.int (0 : Int32)), .unset] [])) := by
    intro τ κ
    refine pre0 τ ?_
    refine XS.iconst X0.here hx rfl (hb hby (own_d D_c5 0 rfl)) ?_
    refine XS.istore X0.here hx rfl (hb hby (own_d D_c5 1 rfl)) rfl (l' := #[.val (.ref b), .val (.int (0 : Int32)), .val (.ref d), .val (.int (0 : Int32)), .val (.int (Int32.ofNat (cs).length)), .val (.int (0 : Int32)), .unset]) rfl ?_
    exact κ
  refine Classical.byContradiction fun hG => ?_
  have loop103 : ∀ (mm i : Nat), i + mm = (cs).length → ∀ (Tlp : State) (Llp : List Loc) (hlp : Heap), Stand pP l e r_2 s m #[(.ref b), (.int (0 : Int32)), (.ref d), (.int (0 : Int32)), (.int (Int32.ofNat (cs).length))] below meth cC Tlp Llp 0 0 → Tlp.heap = hlp → Fr n0 Llp → Keep h0 hlp [d] → Arv Z hlp b kc .char (Int32.ofNat (cs).length) (cs.map Value.int) (.int 0) → (∃ ws_ : List Value, (cs).length ≤ ws_.length ∧ Arv Z hlp d kd .byte (Int32.ofNat (cs).length) ws_ (.int 0)) → (∀ j, j < i → ¬ (255 : Int32) < cs.getD j 0) → ∀ (sl6 : Slot), (sl6 = .unset ∨ ∃ w, sl6 = .val w ∧ w.category = 1) → (own_go pP e below A0 (Tlp.setTop (mkF m 3 #[.val (.ref b), .val (.int (Int32.ofNat i)), .val (.ref d), .val (.int (Int32.ofNat i)), .val (.int (Int32.ofNat (cs).length)), .val (.int (Int32.ofNat i)), sl6] []))) → False := by
    intro mm
    induction mm with
    | zero =>
      intro i hi Tlp Llp hlp Xlp elp Nlp KClp Vb Xd hm0 sl6 hsl6 pqlp
      obtain ⟨ws_, hws, Vd⟩ := Xd
      refine absurd (fun c hc => ?_) hbad
      obtain ⟨j, hj, rfl⟩ := List.getElem_of_mem hc
      have q := hm0 j (by omega)
      rwa [List.getD_eq_getElem?_getD, List.getElem?_eq_getElem hj] at q
    | succ mm ih =>
      intro i hi Tlp Llp hlp Xlp elp Nlp KClp Vb Xd hm0 sl6 hsl6 pqlp
      obtain ⟨ws_, hws, Vd⟩ := Xd
      obtain ⟨cl104, Ar104, q104, S104, M104, Hs104, G104⟩ := id Vb
      have hin104 := inb_of (j := (Int32.ofNat i)) S104 ⟨own_nn (by omega), (own_ltN (by omega) (by omega)).mpr (by omega)⟩
      have pq105 : own_go pP e below A0 (Tlp.setTop (mkF m 20 #[.val (.ref b), .val (.int (Int32.ofNat i)), .val (.ref d), .val (.int (Int32.ofNat i)), .val (.int (Int32.ofNat (cs).length)), .val (.int (Int32.ofNat i)), .val (.int (cs.getD i 0))] [(.int (255 : Int32)), (.int (cs.getD i 0))])) := by
        intro τ κ
        refine pqlp τ ?_
        refine XS.iload Xlp.here hx rfl (hb hby (own_d D_c5 2 rfl)) rfl ?_
        refine XS.iload Xlp.here hx rfl (hb hby (own_d D_c5 3 rfl)) rfl ?_
        refine XS.icmpNo Xlp.here hx rfl (hb hby (own_d D_c5 4 rfl)) rfl (tlt ((own_ltN (by omega) (by omega)).mpr (by omega))).2.1 ?_
        refine XS.aloadN Xlp.here hx rfl (hb hby (own_d D_c5 5 rfl)) rfl rfl ?_
        refine XS.iloadN Xlp.here hx rfl (hb hby (own_d D_c5 6 rfl)) rfl ?_
        refine Xlp.caload hx (j := (Int32.ofNat i)) (v := (.int (cs.getD i 0))) (by rw [elp]; exact Ar104.1) (State.isArrayOf_alike hZ.alike Ar104.2.1) Ar104.2.2 hin104 (Has.at Hs104 hin104 (by rw [own_ofn (by omega)]; exact own_mget cs i)) (g := (mkF m 12 #[.val (.ref b), .val (.int (Int32.ofNat i)), .val (.ref d), .val (.int (Int32.ofNat i)), .val (.int (Int32.ofNat (cs).length)), .val (.int (Int32.ofNat i)), sl6] [(.int (Int32.ofNat i)), (.ref b)])) rfl rfl (hb hby (own_d D_c5 7 rfl)) _ ?_
        refine XS.istore Xlp.here hx rfl (hb hby (own_d D_c5 8 rfl)) rfl (l' := #[.val (.ref b), .val (.int (Int32.ofNat i)), .val (.ref d), .val (.int (Int32.ofNat i)), .val (.int (Int32.ofNat (cs).length)), .val (.int (Int32.ofNat i)), .val (.int (cs.getD i 0))]) (XS.store1 rfl hsl6 rfl) ?_
        refine XS.iload Xlp.here hx rfl (hb hby (own_d D_c5 9 rfl)) rfl ?_
        refine XS.sipush Xlp.here hx rfl (hb hby (own_d D_c5 10 rfl)) ?_
        exact κ
      by_cases hc20_106 : (255 : Int32) < (cs.getD i 0)
      · skip
        refine hG ?_
        obtain ⟨fs, hrE, hrun, hended, hW, hsame⟩ := Xlp.leave (v := some (.int (Int32.ofNat i))) (fun h => by rw [Bd.returns] at h; cases h)
        have pqE := pq105
        rw [hA0] at pqE
        refine ⟨_, _, pqE _ ?_, hrun, hended, _, _, rfl, ?_, ⟨_, rfl⟩, hW, hsame.mono (by decide) (by decide)⟩
        · refine XS.icmpNo Xlp.here hx rfl (hb hby (own_d D_c5 11 rfl)) rfl (tlt hc20_106).2.2.2 ?_
          refine XS.iload Xlp.here hx rfl (hb hby (own_d D_c5 12 rfl)) rfl ?_
          show Steps pP.tables e below (Tlp.setTop (mkF m 25 #[.val (.ref b), .val (.int (Int32.ofNat i)), .val (.ref d), .val (.int (Int32.ofNat i)), .val (.int (Int32.ofNat (cs).length)), .val (.int (Int32.ofNat i)), .val (.int (cs.getD i 0))] [(.int (Int32.ofNat i))])) _
          exact retOut Xlp hx Bd.returns rfl (Or.inl ⟨rfl, Or.inl rfl, _, rfl⟩) (hb hby (own_d D_c5 13 rfl)) hrE
        · show Q_c5 cs d h0 n0 _ Tlp.heap _
          rw [elp]
          exact ⟨i, rfl, by omega, hc20_106, Nlp, KClp⟩
      · skip
        obtain ⟨cl107, Ar107, q107, S107, M107, Hs107, G107⟩ := id Vd
        obtain ⟨T107, h107, X107, e107, W107, st107⟩ := stB Xlp hx hZ elp Ar107 (j := (Int32.ofNat i)) (inb_of S107 ⟨own_nn (by omega), (own_ltN (by omega) (by omega)).mpr (by omega)⟩) (g := (mkF m 31 #[.val (.ref b), .val (.int (Int32.ofNat i)), .val (.ref d), .val (.int (Int32.ofNat i)), .val (.int (Int32.ofNat (cs).length)), .val (.int (Int32.ofNat i)), .val (.int (cs.getD i 0))] [(.int ((cs.getD i 0).toInt8.toInt32)), (.int (Int32.ofNat i)), (.ref d)])) rfl rfl (hb hby (own_d D_c5 18 rfl))
        have pq108 : own_go pP e below A0 (T107.setTop (mkF m 32 #[.val (.ref b), .val (.int (Int32.ofNat i)), .val (.ref d), .val (.int (Int32.ofNat i)), .val (.int (Int32.ofNat (cs).length)), .val (.int (Int32.ofNat i)), .val (.int (cs.getD i 0))] [])) := by
          intro τ κ
          refine pq105 τ ?_
          refine XS.icmpYes Xlp.here hx rfl (pc0 := 20) (pc' := 26) rfl (hb hby (own_d D_c5 11 rfl)) rfl (flt hc20_106).2.2.2 (by decide) (by decide) ?_
          refine XS.aloadN Xlp.here hx rfl (hb hby (own_d D_c5 14 rfl)) rfl rfl ?_
          refine XS.iloadN Xlp.here hx rfl (hb hby (own_d D_c5 15 rfl)) rfl ?_
          refine XS.iload Xlp.here hx rfl (hb hby (own_d D_c5 16 rfl)) rfl ?_
          refine XS.i2b Xlp.here hx rfl (hb hby (own_d D_c5 17 rfl)) rfl ?_
          refine st107 _ ?_
          exact κ
        have KC107 := KClp.wr W107 (Or.inl (List.mem_of_getElem? (i := 0) rfl))
        have V107 : Arv Z h107 d kd .byte (Int32.ofNat (cs).length) (ws_.set i (.int ((cs.getD i 0).toInt8.toInt32).toInt8.toInt32)) (.int 0) := Arv.set Ar107 q107 S107 M107 Hs107 G107 (fits_nar_byte _) W107 i (own_ofn (by omega)) (by omega)
        have N107 := Fr.snoc X107 Nlp gd
        have V109 : ∃ ws_ : List Value, (cs).length ≤ ws_.length ∧ Arv Z h107 d kd .byte (Int32.ofNat (cs).length) ws_ (.int 0) := ⟨_, by rw [List.length_set]; exact hws, V107⟩
        have pq110 : own_go pP e below A0 (T107.setTop (mkF m 3 #[.val (.ref b), .val (.int ((Int32.ofNat i) + (1 : Int32))), .val (.ref d), .val (.int ((Int32.ofNat i) + (1 : Int32))), .val (.int (Int32.ofNat (cs).length)), .val (.int ((Int32.ofNat i) + (1 : Int32))), .val (.int (cs.getD i 0))] [])) := by
          intro τ κ
          refine pq108 τ ?_
          refine XS.iinc X107.here hx rfl (hb hby (own_d D_c5 19 rfl)) rfl (l' := #[.val (.ref b), .val (.int ((Int32.ofNat i) + (1 : Int32))), .val (.ref d), .val (.int (Int32.ofNat i)), .val (.int (Int32.ofNat (cs).length)), .val (.int (Int32.ofNat i)), .val (.int (cs.getD i 0))]) rfl ?_
          refine XS.iinc X107.here hx rfl (hb hby (own_d D_c5 20 rfl)) rfl (l' := #[.val (.ref b), .val (.int ((Int32.ofNat i) + (1 : Int32))), .val (.ref d), .val (.int ((Int32.ofNat i) + (1 : Int32))), .val (.int (Int32.ofNat (cs).length)), .val (.int (Int32.ofNat i)), .val (.int (cs.getD i 0))]) rfl ?_
          refine XS.iinc X107.here hx rfl (hb hby (own_d D_c5 21 rfl)) rfl (l' := #[.val (.ref b), .val (.int ((Int32.ofNat i) + (1 : Int32))), .val (.ref d), .val (.int ((Int32.ofNat i) + (1 : Int32))), .val (.int (Int32.ofNat (cs).length)), .val (.int ((Int32.ofNat i) + (1 : Int32))), .val (.int (cs.getD i 0))]) rfl ?_
          refine XS.goto X107.here hx rfl (pc0 := 41) (pc' := 3) rfl (hb hby (own_d D_c5 22 rfl)) (by decide) (by decide) ?_
          exact κ
        have f111 := (Vb.other W107 hbd)
        exact ih (i + 1) (by omega) T107 _ h107 X107 e107 N107 KC107 f111 V109 (fun j hj => by rcases Nat.lt_succ_iff_lt_or_eq.mp hj with q | q; exact hm0 j q; rw [q]; exact hc20_106) (.val (.int (cs.getD i 0))) (Or.inr ⟨_, rfl, rfl⟩) (fun τ κ => pq110 τ (by rw [show ((Int32.ofNat i) + (1 : Int32)) = (Int32.ofNat (i + 1)) from own_suc (by omega)]; exact κ))
  exact loop103 (cs).length 0 (by omega) s₁ _ h0 X0 e0 N0 KC0 V_b V101 (fun j hj => absurd hj (Nat.not_lt_zero j)) .unset (Or.inl rfl) (fun τ κ => pq102 τ (by rw [show (0 : Int32) = (Int32.ofNat 0) from rfl]; exact κ))
def Q_tb (Z : State) (cs : List Int32) (h0 : Heap) (n0 : Nat) (v : Option Value) (h : Heap) (L : List Loc) : Prop := ∃ (u : Addr) (ku : ClassId) (vs : List Value), v = some (.ref u) ∧ Fr n0 L ∧ Keep h0 h [] ∧ h0.size ≤ u ∧ Arv Z h u ku .byte (Int32.ofNat (2 * (cs).length)) vs (.int 0) ∧ own_u16 vs cs
theorem D_tb : ∀ q ∈ ([(0, .iload_n 2, 1), (1, .invokestatic 107, 3), (4, .astore_n 3, 1), (5, .iconst 0, 1), (6, .istore 4, 2), (8, .iload 4, 2), (10, .iload_n 2, 1), (11, .if_icmp .ge 21, 3), (14, .aload_n 3, 1), (15, .iload 4, 2), (17, .aload_n 0, 1), (18, .iload_n 1, 1), (19, .caload, 1), (20, .invokestatic 111, 3), (23, .iinc 1 1, 3), (26, .iinc 4 1, 3), (29, .goto (-21), 3), (32, .aload_n 3, 1), (33, .areturn, 1)] : List (Nat × Instr × Nat)), decode jdk_52_method_14_code q.1 = .ok q.2 := by decide +kernel
theorem ef_rm_tb (m : MethodId) (x0 : Addr) (x1 : Int32) (x2 : Int32) : entryFrame m #[(.ref x0), (.int x1), (.int x2)] 5 = mkF m 0 #[.val (.ref x0), .val (.int x1), .val (.int x2), .unset, .unset] [] := by first | (simp [entryFrame, mkF, argsToLocals, Value.category]; done) | rfl
theorem rm_tb (l : Launch) (Z : State) (a0 : Array Value) (hw : ∀ d ∈ tables_1, d.before a0 Z = true) (ws : List Jvm.Cond) (b : Addr) (kc : ClassId) (cs : List Int32) (h0 : Heap) (n0 : Nat) (Z0 : n0 ≤ h0.size) (OA : Sta Z Z.heap "java/lang/StringUTF16" "$assertionsDisabled" "Z" (.int 1)) (OH : Sta Z Z.heap "java/lang/StringUTF16" "HI_BYTE_SHIFT" "I" (.int 0)) (OL : Sta Z Z.heap "java/lang/StringUTF16" "LO_BYTE_SHIFT" "I" (.int 8)) (X00 : Old Z n0 h0) (V_b : Arv Z h0 b kc .char (Int32.ofNat (cs).length) (cs.map Value.int) (.int 0)) (hl : (cs).length ≤ 45) :
    MetFree l y_14 (head1 (Jvm.Cond.code y_14 jdk_52_method_14_code 5 (some (.array .byte)) :: ws) r_8) (fun αs U => αs = #[(.ref b), (.int (0 : Int32)), (.int (Int32.ofNat (cs).length))] ∧ Z.Warmed39 U.vm ∧ U.heap = h0) (fun _ _ _ _ _ => True) (fun _ Us oS Us' => ∃ vR LR, oS = .returned vR ∧ Q_tb Z cs h0 n0 vR Us'.heap LR ∧ FrameEnd Us oS Us' LR r_8.cells r_8.slots) := by
  refine MetFree.of_bodySF (plainFor_of_name pno_2) hisR ?_
  intro pP e s m args below meth cC s₁ Bd hml0 hP hK
  obtain ⟨rfl, hZ, hh⟩ := hP
  have hx := Bd.exec
  have W := own_W hw
  have hby := Bd.bytes
  have hml : cC.maxLocals = 5 := hml0
  have hown : s.vm.findClass "java/lang/StringUTF16" = some m.cls := findClass_of_methodNamed Bd.named
  have hnm := (name_of_methodNamed Bd.named Bd.method).1
  have X0 : Stand pP l e r_8 s m #[(.ref b), (.int (0 : Int32)), (.int (Int32.ofNat (cs).length))] below meth cC s₁ [] 0 0 := Stand.of_body Bd
  have e0 : s₁.heap = h0 := by rw [← hh, Bd.state]; rfl
  have N0 := Fr.nil n0
  have KC0 : Keep h0 h0 [] := Keep.refl h0 _
  obtain ⟨A0, hA0⟩ : ∃ ζ, ζ = s₁.setTop (entryFrame m #[(.ref b), (.int (0 : Int32)), (.int (Int32.ofNat (cs).length))] 5) := ⟨_, rfl⟩
  have pre0 : own_go pP e below A0 (s₁.setTop (mkF m 0 #[.val (.ref b), .val (.int (0 : Int32)), .val (.int (Int32.ofNat (cs).length)), .unset, .unset] [])) := fun τ κ => by rw [hA0]; exact castTop (ef_rm_tb m b (0 : Int32) (Int32.ofNat (cs).length)) κ
  obtain ⟨_, _, ⟨T101, L101, k101, n101⟩, -, X101, ⟨Lc101, hQ101, l101, y101, z101⟩, st101⟩ := Jvm.LawKit.callS X0 hx (y := y_11) hown (mvT hZ (W 47 rfl)) (mvT hZ (W 48 rfl)) (mvT hZ (W 39 rfl)) (mvT hZ (W 49 rfl)) (by decide) (backOf (W := 0) (rm_nbf l Z a0 hw [] (cs).length h0 n0 Z0 (by omega)) hZ (W 49 rfl) (W 39 rfl) (by decide) (by decide)) (g := (mkF m 1 #[.val (.ref b), .val (.int (0 : Int32)), .val (.int (Int32.ofNat (cs).length)), .unset, .unset] [(.int (Int32.ofNat (cs).length))])) rfl (by rw [hml]; rfl) (argsL := [(.int (Int32.ofNat (cs).length))]) (rest := []) (lenOf pdo_4 rfl) rfl (Nat.le_of_eq rfl) (hb hby (own_d D_tb 1 rfl)) (fun _ _ => ⟨rfl, e0, (by decide : 0 + 1 ≤ _), (by decide : 0 + 200 ≤ _)⟩)
  dsimp only [Pt.U, Pt.locs, Pt.cells, Pt.slots] at X101 l101 y101 z101 st101 hQ101
  subst l101 y101 z101
  obtain ⟨b101, kb101, rfl, Nq101, K101, lb101, V101⟩ := hQ101
  have N101 := Fr.app N0 Nq101
  have pq102 : own_go pP e below A0 (T101.setTop (mkF m 4 #[.val (.ref b), .val (.int (0 : Int32)), .val (.int (Int32.ofNat (cs).length)), .unset, .unset] [(.ref b101)])) := by
    intro τ κ
    refine pre0 τ ?_
    refine XS.iloadN X0.here hx rfl (hb hby (own_d D_tb 0 rfl)) rfl ?_
    refine st101 _ ?_
    exact κ
  have KC101 := KC0.trans K101 all0
  have hu0 : h0.size ≤ b101 := (Nat.le_trans (Nat.le_refl _) lb101)
  have hbu : b ≠ b101 := (Nat.ne_of_lt (Nat.lt_of_lt_of_le V_b.lt lb101))
  have gu : n0 ≤ b101 := Nat.le_trans Z0 hu0
  have V104 : (∃ ws_ : List Value, 2 * (cs).length ≤ ws_.length ∧ own_pre ws_ cs 0 ∧ Arv Z T101.heap b101 kb101 .byte (Int32.ofNat (2 * (cs).length)) ws_ (.int 0)) := ⟨[] ++ List.replicate (2 * (cs).length) (Value.int 0), by simp, fun i hi => absurd hi (Nat.not_lt_zero i), V101.pad (pad_rep _ _ _)⟩
  have pq105 : own_go pP e below A0 (T101.setTop (mkF m 8 #[.val (.ref b), .val (.int (0 : Int32)), .val (.int (Int32.ofNat (cs).length)), .val (.ref b101), .val (.int (0 : Int32))] [])) := by
    intro τ κ
    refine pq102 τ ?_
    refine XS.astoreN X101.here hx rfl (hb hby (own_d D_tb 2 rfl)) rfl rfl (l' := #[.val (.ref b), .val (.int (0 : Int32)), .val (.int (Int32.ofNat (cs).length)), .val (.ref b101), .unset]) rfl ?_
    refine XS.iconst X101.here hx rfl (hb hby (own_d D_tb 3 rfl)) ?_
    refine XS.istore X101.here hx rfl (hb hby (own_d D_tb 4 rfl)) rfl (l' := #[.val (.ref b), .val (.int (0 : Int32)), .val (.int (Int32.ofNat (cs).length)), .val (.ref b101), .val (.int (0 : Int32))]) rfl ?_
    exact κ
  refine Classical.byContradiction fun hG => ?_
  have loop106 : ∀ (mm i : Nat), i + mm = (cs).length → ∀ (Tlp : State) (Llp : List Loc) (hlp : Heap), Stand pP l e r_8 s m #[(.ref b), (.int (0 : Int32)), (.int (Int32.ofNat (cs).length))] below meth cC Tlp Llp 1 200 → Tlp.heap = hlp → Fr n0 Llp → Keep h0 hlp [] → Old Z n0 hlp → Arv Z hlp b kc .char (Int32.ofNat (cs).length) (cs.map Value.int) (.int 0) → (∃ ws_ : List Value, 2 * (cs).length ≤ ws_.length ∧ own_pre ws_ cs i ∧ Arv Z hlp b101 kb101 .byte (Int32.ofNat (2 * (cs).length)) ws_ (.int 0)) → (own_go pP e below A0 (Tlp.setTop (mkF m 8 #[.val (.ref b), .val (.int (Int32.ofNat i)), .val (.int (Int32.ofNat (cs).length)), .val (.ref b101), .val (.int (Int32.ofNat i))] []))) → False := by
    intro mm
    induction mm with
    | zero =>
      intro i hi Tlp Llp hlp Xlp elp Nlp KClp Ol Vb Xu   pqlp
      obtain ⟨ws_, hws, hpre, Vu⟩ := Xu
      refine hG ?_
      obtain ⟨fs, hrE, hrun, hended, hW, hsame⟩ := Xlp.leave (v := some (.ref b101)) (fun h => by rw [Bd.returns] at h; cases h)
      have pqE := pqlp
      rw [hA0] at pqE
      refine ⟨_, _, pqE _ ?_, hrun, hended, _, _, rfl, ?_, ⟨_, rfl⟩, hW, hsame.mono (by decide) (by decide)⟩
      · refine XS.iload Xlp.here hx rfl (hb hby (own_d D_tb 5 rfl)) rfl ?_
        refine XS.iloadN Xlp.here hx rfl (hb hby (own_d D_tb 6 rfl)) rfl ?_
        refine XS.icmpYes Xlp.here hx rfl (pc0 := 11) (pc' := 32) rfl (hb hby (own_d D_tb 7 rfl)) rfl (flt (by rw [show i = (cs).length by omega]; exact fun q => Int32.lt_irrefl q)).2.1 (by decide) (by decide) ?_
        refine XS.aloadN Xlp.here hx rfl (hb hby (own_d D_tb 17 rfl)) rfl rfl ?_
        show Steps pP.tables e below (Tlp.setTop (mkF m 33 #[.val (.ref b), .val (.int (Int32.ofNat i)), .val (.int (Int32.ofNat (cs).length)), .val (.ref b101), .val (.int (Int32.ofNat i))] [(.ref b101)])) _
        exact retOut Xlp hx Bd.returns rfl (Or.inr (Or.inr (Or.inr (Or.inr ⟨rfl, rfl, rfl⟩)))) (hb hby (own_d D_tb 18 rfl)) hrE
      · show Q_tb Z cs h0 n0 _ Tlp.heap _
        rw [elp]
        exact ⟨b101, _, _, rfl, Nlp, KClp, hu0, Vu, fun j hj => hpre j (by omega)⟩
    | succ mm ih =>
      intro i hi Tlp Llp hlp Xlp elp Nlp KClp Ol Vb Xu   pqlp
      obtain ⟨ws_, hws, hpre, Vu⟩ := Xu
      obtain ⟨cl107, Ar107, q107, S107, M107, Hs107, G107⟩ := id Vb
      have hin107 := inb_of (j := (Int32.ofNat i)) S107 ⟨own_nn (by omega), (own_ltN (by omega) (by omega)).mpr (by omega)⟩
      obtain ⟨_, _, ⟨T108, L108, k108, n108⟩, -, X108, ⟨Lc108, hQ108, l108, y108, z108⟩, st108⟩ := Jvm.LawKit.callS Xlp hx (y := y_12) hown (mvT hZ (W 54 rfl)) (mvT hZ (W 55 rfl)) (mvT hZ (W 39 rfl)) (mvT hZ (W 56 rfl)) (by decide) (backOf (W := 0) (rm_upc l Z a0 hw [] b101 kb101 (cs).length i ws_ (cs.getD i 0) hlp n0 (Nat.le_trans Z0 KClp.1) OA OH OL Ol Vu gu (by omega) (by omega) hws) hZ (W 56 rfl) (W 39 rfl) (by decide) (by decide)) (g := (mkF m 20 #[.val (.ref b), .val (.int (Int32.ofNat i)), .val (.int (Int32.ofNat (cs).length)), .val (.ref b101), .val (.int (Int32.ofNat i))] [(.int (cs.getD i 0)), (.int (Int32.ofNat i)), (.ref b101)])) rfl (by rw [hml]; rfl) (argsL := [(.ref b101), (.int (Int32.ofNat i)), (.int (cs.getD i 0))]) (rest := []) (lenOf pdo_5 rfl) rfl (Nat.le_of_eq rfl) (hb hby (own_d D_tb 13 rfl)) (fun _ _ => ⟨rfl, elp, (by decide : 1 + 0 ≤ _), (by decide : 200 + 0 ≤ _)⟩)
      dsimp only [Pt.U, Pt.locs, Pt.cells, Pt.slots] at X108 l108 y108 z108 st108 hQ108
      subst l108 y108 z108
      obtain ⟨rfl, Nq108, K108, V108⟩ := hQ108
      have N108 := Fr.app Nlp Nq108
      have pq109 : own_go pP e below A0 (T108.setTop (mkF m 23 #[.val (.ref b), .val (.int (Int32.ofNat i)), .val (.int (Int32.ofNat (cs).length)), .val (.ref b101), .val (.int (Int32.ofNat i))] [])) := by
        intro τ κ
        refine pqlp τ ?_
        refine XS.iload Xlp.here hx rfl (hb hby (own_d D_tb 5 rfl)) rfl ?_
        refine XS.iloadN Xlp.here hx rfl (hb hby (own_d D_tb 6 rfl)) rfl ?_
        refine XS.icmpNo Xlp.here hx rfl (hb hby (own_d D_tb 7 rfl)) rfl (tlt ((own_ltN (by omega) (by omega)).mpr (by omega))).2.1 ?_
        refine XS.aloadN Xlp.here hx rfl (hb hby (own_d D_tb 8 rfl)) rfl rfl ?_
        refine XS.iload Xlp.here hx rfl (hb hby (own_d D_tb 9 rfl)) rfl ?_
        refine XS.aloadN Xlp.here hx rfl (hb hby (own_d D_tb 10 rfl)) rfl rfl ?_
        refine XS.iloadN Xlp.here hx rfl (hb hby (own_d D_tb 11 rfl)) rfl ?_
        refine Xlp.caload hx (j := (Int32.ofNat i)) (v := (.int (cs.getD i 0))) (by rw [elp]; exact Ar107.1) (State.isArrayOf_alike hZ.alike Ar107.2.1) Ar107.2.2 hin107 (Has.at Hs107 hin107 (by rw [own_ofn (by omega)]; exact own_mget cs i)) (g := (mkF m 19 #[.val (.ref b), .val (.int (Int32.ofNat i)), .val (.int (Int32.ofNat (cs).length)), .val (.ref b101), .val (.int (Int32.ofNat i))] [(.int (Int32.ofNat i)), (.ref b), (.int (Int32.ofNat i)), (.ref b101)])) rfl rfl (hb hby (own_d D_tb 12 rfl)) _ ?_
        refine st108 _ ?_
        exact κ
      have KC108 := KClp.trans K108 (allS (Or.inr (Nat.le_trans (Nat.le_refl _) hu0)) all0)
      have V110 : (∃ ws_ : List Value, 2 * (cs).length ≤ ws_.length ∧ own_pre ws_ cs (i + 1) ∧ Arv Z T108.heap b101 kb101 .byte (Int32.ofNat (2 * (cs).length)) ws_ (.int 0)) := ⟨_, by rw [List.length_set, List.length_set]; exact hws, own_pre_set hpre (by omega), V108⟩
      have pq111 : own_go pP e below A0 (T108.setTop (mkF m 8 #[.val (.ref b), .val (.int ((Int32.ofNat i) + (1 : Int32))), .val (.int (Int32.ofNat (cs).length)), .val (.ref b101), .val (.int ((Int32.ofNat i) + (1 : Int32)))] [])) := by
        intro τ κ
        refine pq109 τ ?_
        refine XS.iinc X108.here hx rfl (hb hby (own_d D_tb 14 rfl)) rfl (l' := #[.val (.ref b), .val (.int ((Int32.ofNat i) + (1 : Int32))), .val (.int (Int32.ofNat (cs).length)), .val (.ref b101), .val (.int (Int32.ofNat i))]) rfl ?_
        refine XS.iinc X108.here hx rfl (hb hby (own_d D_tb 15 rfl)) rfl (l' := #[.val (.ref b), .val (.int ((Int32.ofNat i) + (1 : Int32))), .val (.int (Int32.ofNat (cs).length)), .val (.ref b101), .val (.int ((Int32.ofNat i) + (1 : Int32)))]) rfl ?_
        refine XS.goto X108.here hx rfl (pc0 := 29) (pc' := 8) rfl (hb hby (own_d D_tb 16 rfl)) (by decide) (by decide) ?_
        exact κ
      have f112 := (Ol.keep K108 (allS gu all0))
      have f113 := (Vb.keep K108 (ninS hbu nin0))
      exact ih (i + 1) (by omega) T108 _ T108.heap X108 rfl N108 KC108 f112 f113 V110   (fun τ κ => pq111 τ (by rw [show ((Int32.ofNat i) + (1 : Int32)) = (Int32.ofNat (i + 1)) from own_suc (by omega)]; exact κ))
  have f114 := (X00.keep K101 all0)
  have f115 := (V_b.keep K101 nin0)
  exact loop106 (cs).length 0 (by omega) T101 _ T101.heap X101 rfl N101 KC101 f114 f115 V104   (fun τ κ => pq105 τ (by rw [show (0 : Int32) = (Int32.ofNat 0) from rfl]; exact κ))
theorem D_c3 : ∀ q ∈ ([(0, .iload_n 2, 1), (1, .newarray .byte, 2), (3, .astore_n 3, 1), (4, .aload_n 0, 1), (5, .iload_n 1, 1), (6, .aload_n 3, 1), (7, .iconst 0, 1), (8, .iload_n 2, 1), (9, .invokestatic 115, 3), (12, .istore 4, 2), (14, .iload 4, 2), (16, .iload_n 2, 1), (17, .if_icmp .eq 40, 3), (20, .aload_n 0, 1), (21, .iload_n 1, 1), (22, .iload_n 2, 1), (23, .invokestatic 119, 3), (26, .astore 5, 2), (28, .aload 5, 2), (30, .iload 4, 2), (32, .invokestatic 71, 3), (35, .sipush 255, 3), (38, .if_icmp .gt 16, 3), (54, .aload 5, 2), (56, .areturn, 1)] : List (Nat × Instr × Nat)), decode jdk_52_method_16_code q.1 = .ok q.2 := by decide +kernel
theorem ef_rm_c3 (m : MethodId) (x0 : Addr) (x1 : Int32) (x2 : Int32) : entryFrame m #[(.ref x0), (.int x1), (.int x2)] 6 = mkF m 0 #[.val (.ref x0), .val (.int x1), .val (.int x2), .unset, .unset, .unset] [] := by first | (simp [entryFrame, mkF, argsToLocals, Value.category]; done) | rfl
theorem rm_c3 (l : Launch) (Z : State) (a0 : Array Value) (hw : ∀ d ∈ tables_1, d.before a0 Z = true) (ws : List Jvm.Cond) (b : Addr) (kc : ClassId) (cs : List Int32) (h0 : Heap) (n0 : Nat) (Z0 : n0 ≤ h0.size) (OA : Sta Z Z.heap "java/lang/StringUTF16" "$assertionsDisabled" "Z" (.int 1)) (OH : Sta Z Z.heap "java/lang/StringUTF16" "HI_BYTE_SHIFT" "I" (.int 0)) (OL : Sta Z Z.heap "java/lang/StringUTF16" "LO_BYTE_SHIFT" "I" (.int 8)) (X00 : Old Z n0 h0) (V_b : Arv Z h0 b kc .char (Int32.ofNat (cs).length) (cs.map Value.int) (.int 0)) (hbad : ¬ ∀ c ∈ cs, ¬ (255 : Int32) < c) (hp : ∀ c ∈ cs, ¬ c < 0 ∧ ¬ (65535 : Int32) < c) (hl : (cs).length ≤ 45) :
    MetFree l y_15 (head1 (Jvm.Cond.code y_15 jdk_52_method_16_code 6 (some (.array .byte)) :: ws) r_9) (fun αs U => αs = #[(.ref b), (.int (0 : Int32)), (.int (Int32.ofNat (cs).length))] ∧ Z.Warmed39 U.vm ∧ U.heap = h0) (fun _ _ _ _ _ => True) (fun _ Us oS Us' => ∃ vR LR, oS = .returned vR ∧ Q_tb Z cs h0 n0 vR Us'.heap LR ∧ FrameEnd Us oS Us' LR r_9.cells r_9.slots) := by
  refine MetFree.of_bodySF (plainFor_of_name pno_2) hisR ?_
  intro pP e s m args below meth cC s₁ Bd hml0 hP hK
  obtain ⟨rfl, hZ, hh⟩ := hP
  have hx := Bd.exec
  have W := own_W hw
  have hby := Bd.bytes
  have hml : cC.maxLocals = 6 := hml0
  have hown : s.vm.findClass "java/lang/StringUTF16" = some m.cls := findClass_of_methodNamed Bd.named
  have hnm := (name_of_methodNamed Bd.named Bd.method).1
  have X0 : Stand pP l e r_9 s m #[(.ref b), (.int (0 : Int32)), (.int (Int32.ofNat (cs).length))] below meth cC s₁ [] 0 0 := Stand.of_body Bd
  have e0 : s₁.heap = h0 := by rw [← hh, Bd.state]; rfl
  have N0 := Fr.nil n0
  have KC0 : Keep h0 h0 [] := Keep.refl h0 _
  obtain ⟨A0, hA0⟩ : ∃ ζ, ζ = s₁.setTop (entryFrame m #[(.ref b), (.int (0 : Int32)), (.int (Int32.ofNat (cs).length))] 6) := ⟨_, rfl⟩
  have pre0 : own_go pP e below A0 (s₁.setTop (mkF m 0 #[.val (.ref b), .val (.int (0 : Int32)), .val (.int (Int32.ofNat (cs).length)), .unset, .unset, .unset] [])) := fun τ κ => by rw [hA0]; exact castTop (ef_rm_c3 m b (0 : Int32) (Int32.ofNat (cs).length)) κ
  obtain ⟨T101, h101, k101, X101, e101, E101, A101, st101⟩ := newP X0 hx hZ (W 25 rfl) e0 (g := (mkF m 1 #[.val (.ref b), .val (.int (0 : Int32)), .val (.int (Int32.ofNat (cs).length)), .unset, .unset, .unset] [(.int (Int32.ofNat (cs).length))])) rfl (hb hby (own_d D_c3 1 rfl)) rfl (own_nn (by omega)) (cap := 45) (by rw [own_ofn (by omega)]; omega) (by decide) (by decide) (by decide)
  obtain ⟨b101, g101⟩ : ∃ z, z = h0.size := ⟨_, rfl⟩
  rw [← g101] at A101 st101
  have pq102 : own_go pP e below A0 (T101.setTop (mkF m 3 #[.val (.ref b), .val (.int (0 : Int32)), .val (.int (Int32.ofNat (cs).length)), .unset, .unset, .unset] [(.ref b101)])) := by
    intro τ κ
    refine pre0 τ ?_
    refine XS.iloadN X0.here hx rfl (hb hby (own_d D_c3 0 rfl)) rfl ?_
    refine st101 _ ?_
    exact κ
  have KC101 := KC0.ext E101
  have V101 : Arv Z h101 b101 k101 .byte (Int32.ofNat (cs).length) [] (.int (0 : Int32)) := Arv.new A101 (own_nn (by omega))
  have f103 := (V_b.ext E101)
  have f104 := (Nat.le_trans Z0 E101.1)
  obtain ⟨_, _, ⟨T105, L105, k105, n105⟩, -, X105, ⟨Lc105, hQ105, l105, y105, z105⟩, st105⟩ := Jvm.LawKit.callS X101 hx (y := y_13) hown (mvT hZ (W 41 rfl)) (mvT hZ (W 42 rfl)) (mvT hZ (W 39 rfl)) (mvT hZ (W 43 rfl)) (by decide) (backOf (W := 0) (rm_c5 l Z a0 hw [] b b101 kc k101 cs h101 n0 f104 f103 V101 (Nat.le_trans Z0 (Nat.le_of_eq g101.symm)) (Nat.ne_of_lt (Nat.lt_of_lt_of_le V_b.lt (Nat.le_of_eq g101.symm))) hbad hl) hZ (W 43 rfl) (W 39 rfl) (by decide) (by decide)) (g := (mkF m 9 #[.val (.ref b), .val (.int (0 : Int32)), .val (.int (Int32.ofNat (cs).length)), .val (.ref b101), .unset, .unset] [(.int (Int32.ofNat (cs).length)), (.int (0 : Int32)), (.ref b101), (.int (0 : Int32)), (.ref b)])) rfl (by rw [hml]; rfl) (argsL := [(.ref b), (.int (0 : Int32)), (.ref b101), (.int (0 : Int32)), (.int (Int32.ofNat (cs).length))]) (rest := []) (lenOf pdo_6 rfl) rfl (Nat.le_of_eq rfl) (hb hby (own_d D_c3 8 rfl)) (fun _ _ => ⟨rfl, e101, (by decide : 1 + 0 ≤ _), (by decide : 45 + 0 ≤ _)⟩)
  dsimp only [Pt.U, Pt.locs, Pt.cells, Pt.slots] at X105 l105 y105 z105 st105 hQ105
  subst l105 y105 z105
  obtain ⟨j105, rfl, hj105, gj105, Nq105, K105⟩ := hQ105
  have N105 := Fr.app N0 Nq105
  have pq106 : own_go pP e below A0 (T105.setTop (mkF m 12 #[.val (.ref b), .val (.int (0 : Int32)), .val (.int (Int32.ofNat (cs).length)), .val (.ref b101), .unset, .unset] [(.int (Int32.ofNat j105))])) := by
    intro τ κ
    refine pq102 τ ?_
    refine XS.astoreN X101.here hx rfl (hb hby (own_d D_c3 2 rfl)) rfl rfl (l' := #[.val (.ref b), .val (.int (0 : Int32)), .val (.int (Int32.ofNat (cs).length)), .val (.ref b101), .unset, .unset]) rfl ?_
    refine XS.aloadN X101.here hx rfl (hb hby (own_d D_c3 3 rfl)) rfl rfl ?_
    refine XS.iloadN X101.here hx rfl (hb hby (own_d D_c3 4 rfl)) rfl ?_
    refine XS.aloadN X101.here hx rfl (hb hby (own_d D_c3 5 rfl)) rfl rfl ?_
    refine XS.iconst X101.here hx rfl (hb hby (own_d D_c3 6 rfl)) ?_
    refine XS.iloadN X101.here hx rfl (hb hby (own_d D_c3 7 rfl)) rfl ?_
    refine st105 _ ?_
    exact κ
  have KC105 := KC101.trans K105 (allS (Or.inr (Nat.le_trans (Nat.le_refl _) (Nat.le_of_eq g101.symm))) all0)
  have f107 := ((X00.ext E101).keep K105 (allS (Nat.le_trans Z0 (Nat.le_of_eq g101.symm)) all0))
  have f108 := (f103.keep K105 (ninS (Nat.ne_of_lt (Nat.lt_of_lt_of_le V_b.lt (Nat.le_of_eq g101.symm))) nin0))
  have f109 := (Nat.le_trans f104 K105.1)
  obtain ⟨_, _, ⟨T110, L110, k110, n110⟩, -, X110, ⟨Lc110, hQ110, l110, y110, z110⟩, st110⟩ := Jvm.LawKit.callS X105 hx (y := y_14) hown (mvT hZ (W 44 rfl)) (mvT hZ (W 45 rfl)) (mvT hZ (W 39 rfl)) (mvT hZ (W 46 rfl)) (by decide) (backOf (W := 0) (rm_tb l Z a0 hw [] b kc cs T105.heap n0 f109 OA OH OL f107 f108 hl) hZ (W 46 rfl) (W 39 rfl) (by decide) (by decide)) (g := (mkF m 23 #[.val (.ref b), .val (.int (0 : Int32)), .val (.int (Int32.ofNat (cs).length)), .val (.ref b101), .val (.int (Int32.ofNat j105)), .unset] [(.int (Int32.ofNat (cs).length)), (.int (0 : Int32)), (.ref b)])) rfl (by rw [hml]; rfl) (argsL := [(.ref b), (.int (0 : Int32)), (.int (Int32.ofNat (cs).length))]) (rest := []) (lenOf pdo_7 rfl) rfl (Nat.le_of_eq rfl) (hb hby (own_d D_c3 16 rfl)) (fun _ _ => ⟨rfl, rfl, (by decide : 1 + 1 ≤ _), (by decide : 45 + 200 ≤ _)⟩)
  dsimp only [Pt.U, Pt.locs, Pt.cells, Pt.slots] at X110 l110 y110 z110 st110 hQ110
  subst l110 y110 z110
  obtain ⟨u110, ku110, vs110, rfl, Nq110, K110, lb110, V110, hu110⟩ := hQ110
  have N110 := Fr.app N105 Nq110
  have pq111 : own_go pP e below A0 (T110.setTop (mkF m 26 #[.val (.ref b), .val (.int (0 : Int32)), .val (.int (Int32.ofNat (cs).length)), .val (.ref b101), .val (.int (Int32.ofNat j105)), .unset] [(.ref u110)])) := by
    intro τ κ
    refine pq106 τ ?_
    refine XS.istore X105.here hx rfl (hb hby (own_d D_c3 9 rfl)) rfl (l' := #[.val (.ref b), .val (.int (0 : Int32)), .val (.int (Int32.ofNat (cs).length)), .val (.ref b101), .val (.int (Int32.ofNat j105)), .unset]) rfl ?_
    refine XS.iload X105.here hx rfl (hb hby (own_d D_c3 10 rfl)) rfl ?_
    refine XS.iloadN X105.here hx rfl (hb hby (own_d D_c3 11 rfl)) rfl ?_
    refine XS.icmpNo X105.here hx rfl (hb hby (own_d D_c3 12 rfl)) rfl (feq (own_nej hj105 (by omega))).1 ?_
    refine XS.aloadN X105.here hx rfl (hb hby (own_d D_c3 13 rfl)) rfl rfl ?_
    refine XS.iloadN X105.here hx rfl (hb hby (own_d D_c3 14 rfl)) rfl ?_
    refine XS.iloadN X105.here hx rfl (hb hby (own_d D_c3 15 rfl)) rfl ?_
    refine st110 _ ?_
    exact κ
  have KC110 := KC105.trans K110 all0
  have f112 := (f107.keep K110 all0)
  have f113 := (Nat.le_trans f109 K110.1)
  obtain ⟨_, _, ⟨T114, L114, k114, n114⟩, -, X114, ⟨Lc114, hQ114, l114, y114, z114⟩, st114⟩ := Jvm.LawKit.callS X110 hx (y := y_9) hown (mvT hZ (W 60 rfl)) (mvT hZ (W 61 rfl)) (mvT hZ (W 39 rfl)) (mvT hZ (W 62 rfl)) (by decide) (backOf (W := 0) (rm_uget l Z a0 hw [] u110 ku110 cs vs110 j105 T110.heap n0 f113 OA OH OL f112 V110 hu110 hp hl hj105) hZ (W 62 rfl) (W 39 rfl) (by decide) (by decide)) (g := (mkF m 32 #[.val (.ref b), .val (.int (0 : Int32)), .val (.int (Int32.ofNat (cs).length)), .val (.ref b101), .val (.int (Int32.ofNat j105)), .val (.ref u110)] [(.int (Int32.ofNat j105)), (.ref u110)])) rfl (by rw [hml]; rfl) (argsL := [(.ref u110), (.int (Int32.ofNat j105))]) (rest := []) (lenOf pdo_8 rfl) rfl (Nat.le_of_eq rfl) (hb hby (own_d D_c3 20 rfl)) (fun _ _ => ⟨rfl, rfl, (by decide : 2 + 0 ≤ _), (by decide : 245 + 0 ≤ _)⟩)
  dsimp only [Pt.U, Pt.locs, Pt.cells, Pt.slots] at X114 l114 y114 z114 st114 hQ114
  subst l114 y114 z114
  obtain ⟨rfl, Nq114, eq114⟩ := hQ114
  have N114 := Fr.app N110 Nq114
  have pq115 : own_go pP e below A0 (T114.setTop (mkF m 35 #[.val (.ref b), .val (.int (0 : Int32)), .val (.int (Int32.ofNat (cs).length)), .val (.ref b101), .val (.int (Int32.ofNat j105)), .val (.ref u110)] [(.int (cs.getD j105 0))])) := by
    intro τ κ
    refine pq111 τ ?_
    refine XS.astore X110.here hx rfl (hb hby (own_d D_c3 17 rfl)) rfl rfl (l' := #[.val (.ref b), .val (.int (0 : Int32)), .val (.int (Int32.ofNat (cs).length)), .val (.ref b101), .val (.int (Int32.ofNat j105)), .val (.ref u110)]) rfl ?_
    refine XS.aload X110.here hx rfl (hb hby (own_d D_c3 18 rfl)) rfl rfl ?_
    refine XS.iload X110.here hx rfl (hb hby (own_d D_c3 19 rfl)) rfl ?_
    refine st114 _ ?_
    exact κ
  obtain ⟨fs, hrE, hrun, hended, hW, hsame⟩ := X114.leave (v := some (.ref u110)) (fun h => by rw [Bd.returns] at h; cases h)
  have pqE := pq115
  rw [hA0] at pqE
  refine ⟨_, _, pqE _ ?_, hrun, hended, _, _, rfl, ?_, ⟨_, rfl⟩, hW, hsame.mono (by decide) (by decide)⟩
  · refine XS.sipush X114.here hx rfl (hb hby (own_d D_c3 21 rfl)) ?_
    refine XS.icmpYes X114.here hx rfl (pc0 := 38) (pc' := 54) rfl (hb hby (own_d D_c3 22 rfl)) rfl (tlt gj105).2.2.1 (by decide) (by decide) ?_
    refine XS.aload X114.here hx rfl (hb hby (own_d D_c3 23 rfl)) rfl rfl ?_
    show Steps pP.tables e below (T114.setTop (mkF m 56 #[.val (.ref b), .val (.int (0 : Int32)), .val (.int (Int32.ofNat (cs).length)), .val (.ref b101), .val (.int (Int32.ofNat j105)), .val (.ref u110)] [(.ref u110)])) _
    exact retOut X114 hx Bd.returns rfl (Or.inr (Or.inr (Or.inr (Or.inr ⟨rfl, rfl, rfl⟩)))) (hb hby (own_d D_c3 24 rfl)) hrE
  · show Q_tb Z cs h0 n0 _ T114.heap _
    rw [eq114]
    exact ⟨u110, _, _, rfl, N114, KC110, (Nat.le_trans (Nat.le_trans (Nat.le_trans (Nat.le_refl _) E101.1) K105.1) lb110), V110, hu110⟩
def Q_cfl (h0 : Heap) (n0 : Nat) (v : Option Value) (h : Heap) (L : List Loc) : Prop := v = some (.int 1) ∧ Fr n0 L ∧ h = h0
theorem D_cfl : ∀ q ∈ ([(0, .iload_n 1, 1), (1, .aload_n 0, 1), (2, .arraylength, 1), (3, .isub, 1), (4, .bipush 31, 2), (6, .iushr, 1), (7, .i2b, 1), (8, .ireturn, 1)] : List (Nat × Instr × Nat)), decode jdk_52_method_15_code q.1 = .ok q.2 := by decide +kernel
theorem ef_rm_cfl (m : MethodId) (x0 : Addr) (x1 : Int32) : entryFrame m #[(.ref x0), (.int x1)] 2 = mkF m 0 #[.val (.ref x0), .val (.int x1)] [] := by first | (simp [entryFrame, mkF, argsToLocals, Value.category]; done) | rfl
theorem rm_cfl (l : Launch) (Z : State) (a0 : Array Value) (hw : ∀ d ∈ tables_1, d.before a0 Z = true) (ws : List Jvm.Cond) (u : Addr) (ku : ClassId) (k : Nat) (vs : List Value) (h0 : Heap) (n0 : Nat) (Z0 : n0 ≤ h0.size) (V_u : Arv Z h0 u ku .byte (Int32.ofNat (2 * k)) vs (.int 0)) (hk : k < 100) (h1 : 1 ≤ k) :
    MetFree l y_16 (head1 (Jvm.Cond.code y_16 jdk_52_method_15_code 2 (some .byte) :: ws) r_2) (fun αs U => αs = #[(.ref u), (.int (Int32.ofNat k))] ∧ Z.Warmed39 U.vm ∧ U.heap = h0) (fun _ _ _ _ _ => True) (fun _ Us oS Us' => ∃ vR LR, oS = .returned vR ∧ Q_cfl h0 n0 vR Us'.heap LR ∧ FrameEnd Us oS Us' LR r_2.cells r_2.slots) := by
  refine MetFree.of_bodySF (plainFor_of_name pno_2) hisR ?_
  intro pP e s m args below meth cC s₁ Bd hml0 hP hK
  obtain ⟨rfl, hZ, hh⟩ := hP
  have hx := Bd.exec
  have hby := Bd.bytes
  have hml : cC.maxLocals = 2 := hml0
  have hown : s.vm.findClass "java/lang/StringUTF16" = some m.cls := findClass_of_methodNamed Bd.named
  have hnm := (name_of_methodNamed Bd.named Bd.method).1
  have X0 : Stand pP l e r_2 s m #[(.ref u), (.int (Int32.ofNat k))] below meth cC s₁ [] 0 0 := Stand.of_body Bd
  have e0 : s₁.heap = h0 := by rw [← hh, Bd.state]; rfl
  have N0 := Fr.nil n0
  have KC0 : Keep h0 h0 [] := Keep.refl h0 _
  obtain ⟨A0, hA0⟩ : ∃ ζ, ζ = s₁.setTop (entryFrame m #[(.ref u), (.int (Int32.ofNat k))] 2) := ⟨_, rfl⟩
  have pre0 : own_go pP e below A0 (s₁.setTop (mkF m 0 #[.val (.ref u), .val (.int (Int32.ofNat k))] [])) := fun τ κ => by rw [hA0]; exact castTop (ef_rm_cfl m u (Int32.ofNat k)) κ
  obtain ⟨cl101, Ar101, q101, S101, M101, Hs101, G101⟩ := id V_u
  have pq102 : own_go pP e below A0 (s₁.setTop (mkF m 8 #[.val (.ref u), .val (.int (Int32.ofNat k))] [(.int (((((Int32.ofNat k) - (Int32.ofNat (2 * k))).toUInt32 >>> ((31 : Int32) &&& 31).toUInt32).toInt32).toInt8.toInt32))])) := by
    intro τ κ
    refine pre0 τ ?_
    refine XS.iloadN X0.here hx rfl (hb hby (own_d D_cfl 0 rfl)) rfl ?_
    refine XS.aloadN X0.here hx rfl (hb hby (own_d D_cfl 1 rfl)) rfl rfl ?_
    refine X0.arraylength hx (by rw [e0]; exact Ar101.1) (State.isArrayOf_alike hZ.alike Ar101.2.1) (g := (mkF m 2 #[.val (.ref u), .val (.int (Int32.ofNat k))] [(.ref u), (.int (Int32.ofNat k))])) rfl rfl (hb hby (own_d D_cfl 2 rfl)) _ ?_
    rw [len_of S101 M101]
    refine XS.isub X0.here hx rfl (hb hby (own_d D_cfl 3 rfl)) rfl ?_
    refine XS.bipush X0.here hx rfl (hb hby (own_d D_cfl 4 rfl)) ?_
    refine XS.iushr X0.here hx rfl (hb hby (own_d D_cfl 5 rfl)) rfl ?_
    refine XS.i2b X0.here hx rfl (hb hby (own_d D_cfl 6 rfl)) rfl ?_
    exact κ
  have pq103 : own_go pP e below A0 (s₁.setTop (mkF m 8 #[.val (.ref u), .val (.int (Int32.ofNat k))] [(.int (1 : Int32))])) := by intro τ κ; refine pq102 τ ?_; rw [show (((((Int32.ofNat k) - (Int32.ofNat (2 * k))).toUInt32 >>> ((31 : Int32) &&& 31).toUInt32).toInt32).toInt8.toInt32) = (1 : Int32) from own_cfl hk h1]; exact κ
  obtain ⟨fs, hrE, hrun, hended, hW, hsame⟩ := X0.leave (v := some (.int (1 : Int32))) (fun h => by rw [Bd.returns] at h; cases h)
  have pqE := pq103
  rw [hA0] at pqE
  refine ⟨_, _, pqE _ ?_, hrun, hended, _, _, rfl, ?_, ⟨_, rfl⟩, hW, hsame.mono (by decide) (by decide)⟩
  · show Steps pP.tables e below (s₁.setTop (mkF m 8 #[.val (.ref u), .val (.int (Int32.ofNat k))] [(.int (1 : Int32))])) _
    exact retN X0 hx (t := .byte) Bd.returns (by simp) (hb hby (own_d D_cfl 7 rfl)) hrE
  · show Q_cfl h0 n0 _ s₁.heap _
    rw [e0]
    exact ⟨rfl, N0, rfl⟩
def Q_new (Z : State) (a : Addr) (cs : List Int32) (h0 : Heap) (n0 : Nat) (v : Option Value) (h : Heap) (L : List Loc) : Prop := v = none ∧ Fr n0 L ∧ Keep h0 h [a] ∧ USt Z h a cs
theorem D_i4 : ∀ q ∈ ([(0, .aload_n 0, 1), (1, .invokespecial 1, 3), (4, .iload_n 3, 1), (5, .ifCond .ne 22, 3), (27, .getstatic 38, 3), (30, .ifCond .eq 28, 3), (33, .aload_n 1, 1), (34, .iload_n 2, 1), (35, .iload_n 3, 1), (36, .invokestatic 177, 3), (39, .astore 5, 2), (41, .aload_n 0, 1), (42, .aload 5, 2), (44, .iload_n 3, 1), (45, .invokestatic 47, 3), (48, .putfield 15, 3), (51, .aload_n 0, 1), (52, .aload 5, 2), (54, .putfield 9, 3), (57, .return_, 1)] : List (Nat × Instr × Nat)), decode jdk_42_method_149_code q.1 = .ok q.2 := by decide +kernel
theorem ef_rm_i4 (m : MethodId) (x0 : Addr) (x1 : Addr) (x2 : Int32) (x3 : Int32) : entryFrame m #[(.ref x0), (.ref x1), (.int x2), (.int x3), .null] 6 = mkF m 0 #[.val (.ref x0), .val (.ref x1), .val (.int x2), .val (.int x3), .val .null, .unset] [] := by first | (simp [entryFrame, mkF, argsToLocals, Value.category]; done) | rfl
theorem rm_i4 (l : Launch) (Z : State) (a0 : Array Value) (hw : ∀ d ∈ tables_1, d.before a0 Z = true) (ws : List Jvm.Cond) (a b : Addr) (kc : ClassId) (cs : List Int32) (G1 : Int32) (h0 : Heap) (n0 : Nat) (Z0 : n0 ≤ h0.size) (O2 : Sta Z Z.heap "java/lang/String" "COMPACT_STRINGS" "Z" (.int G1)) (P5 : ¬ (G1 = (0 : Int32))) (X00 : Old Z n0 h0) (OA : Sta Z Z.heap "java/lang/StringUTF16" "$assertionsDisabled" "Z" (.int 1)) (OH : Sta Z Z.heap "java/lang/StringUTF16" "HI_BYTE_SHIFT" "I" (.int 0)) (OL : Sta Z Z.heap "java/lang/StringUTF16" "LO_BYTE_SHIFT" "I" (.int 8)) (E_a : Exa Z h0 a "java/lang/String") (ga : n0 ≤ a) (F_value : Fld Z h0 a "java/lang/String" "value" "[B" .null) (F_coder : Fld Z h0 a "java/lang/String" "coder" "B" (.int (0 : Int32))) (V_b : Arv Z h0 b kc .char (Int32.ofNat (cs).length) (cs.map Value.int) (.int 0)) (hbad : ¬ ∀ c ∈ cs, ¬ (255 : Int32) < c) (hp : ∀ c ∈ cs, ¬ c < 0 ∧ ¬ (65535 : Int32) < c) (hl : (cs).length ≤ 45) (h1 : 1 ≤ (cs).length) :
    MetFree l y_0 (head1 (Jvm.Cond.code y_0 jdk_42_method_149_code 6 none :: ws) r_10) (fun αs U => αs = #[(.ref a), (.ref b), (.int (0 : Int32)), (.int (Int32.ofNat (cs).length)), .null] ∧ Z.Warmed39 U.vm ∧ U.heap = h0) (fun _ _ _ _ _ => True) (fun _ Us oS Us' => ∃ vR LR, oS = .returned vR ∧ Q_new Z a cs h0 n0 vR Us'.heap LR ∧ FrameEnd Us oS Us' LR r_10.cells r_10.slots) := by
  refine MetFree.of_bodySF (plainFor_of_name pno_1) hisR ?_
  intro pP e s m args below meth cC s₁ Bd hml0 hP hK
  obtain ⟨rfl, hZ, hh⟩ := hP
  have hx := Bd.exec
  have W := own_W hw
  have hby := Bd.bytes
  have hml : cC.maxLocals = 6 := hml0
  have hown : s.vm.findClass "java/lang/String" = some m.cls := findClass_of_methodNamed Bd.named
  have hnm := (name_of_methodNamed Bd.named Bd.method).1
  have X0 : Stand pP l e r_10 s m #[(.ref a), (.ref b), (.int (0 : Int32)), (.int (Int32.ofNat (cs).length)), .null] below meth cC s₁ [] 0 0 := Stand.of_body Bd
  have e0 : s₁.heap = h0 := by rw [← hh, Bd.state]; rfl
  have N0 := Fr.nil n0
  have KC0 : Keep h0 h0 [a] := Keep.refl h0 _
  obtain ⟨A0, hA0⟩ : ∃ ζ, ζ = s₁.setTop (entryFrame m #[(.ref a), (.ref b), (.int (0 : Int32)), (.int (Int32.ofNat (cs).length)), .null] 6) := ⟨_, rfl⟩
  have pre0 : own_go pP e below A0 (s₁.setTop (mkF m 0 #[.val (.ref a), .val (.ref b), .val (.int (0 : Int32)), .val (.int (Int32.ofNat (cs).length)), .val .null, .unset] [])) := fun τ κ => by rw [hA0]; exact castTop (ef_rm_i4 m a b (0 : Int32) (Int32.ofNat (cs).length)) κ
  obtain ⟨T101, X101, e101, st101⟩ := initO X0 hx hZ hown (W 21 rfl) (W 22 rfl) (W 23 rfl) e0 (g := (mkF m 1 #[.val (.ref a), .val (.ref b), .val (.int (0 : Int32)), .val (.int (Int32.ofNat (cs).length)), .val .null, .unset] [(.ref a)])) rfl (by rw [hml]; rfl) rfl (hb hby (own_d D_i4 1 rfl)) (by decide) (W := 0) (Nat.le_of_eq rfl) (by decide)
  have pq102 : own_go pP e below A0 (T101.setTop (mkF m 4 #[.val (.ref a), .val (.ref b), .val (.int (0 : Int32)), .val (.int (Int32.ofNat (cs).length)), .val .null, .unset] [])) := by
    intro τ κ
    refine pre0 τ ?_
    refine XS.aloadN X0.here hx rfl (hb hby (own_d D_i4 0 rfl)) rfl rfl ?_
    refine st101 _ ?_
    exact κ
  obtain ⟨T103, X103, e103, st103⟩ := getS2 X101 hx hZ hown (host := "") (Or.inl (W 36 rfl)) Via.refl e101 (O2.ext X00.2) (g := (mkF m 27 #[.val (.ref a), .val (.ref b), .val (.int (0 : Int32)), .val (.int (Int32.ofNat (cs).length)), .val .null, .unset] [])) rfl (hb hby (own_d D_i4 4 rfl))
  have pq104 : own_go pP e below A0 (T103.setTop (mkF m 30 #[.val (.ref a), .val (.ref b), .val (.int (0 : Int32)), .val (.int (Int32.ofNat (cs).length)), .val .null, .unset] [(.int G1)])) := by
    intro τ κ
    refine pq102 τ ?_
    refine XS.iloadN X101.here hx rfl (hb hby (own_d D_i4 2 rfl)) rfl ?_
    refine XS.ifYes X101.here hx rfl (pc0 := 5) (pc' := 27) rfl (hb hby (own_d D_i4 3 rfl)) rfl ((if0 _ _).trans (feq (own_ne0 h1 (by omega))).2) (by decide) (by decide) ?_
    refine st103 _ ?_
    exact κ
  obtain ⟨_, _, ⟨T105, L105, k105, n105⟩, -, X105, ⟨Lc105, hQ105, l105, y105, z105⟩, st105⟩ := Jvm.LawKit.callS X103 hx (y := y_15) hown (mvT hZ (W 37 rfl)) (mvT hZ (W 38 rfl)) (mvT hZ (W 39 rfl)) (mvT hZ (W 40 rfl)) (by decide) (backOf (W := 0) (rm_c3 l Z a0 hw [] b kc cs h0 n0 Z0 OA OH OL X00 V_b hbad hp hl) hZ (W 40 rfl) (W 39 rfl) (by decide) (by decide)) (g := (mkF m 36 #[.val (.ref a), .val (.ref b), .val (.int (0 : Int32)), .val (.int (Int32.ofNat (cs).length)), .val .null, .unset] [(.int (Int32.ofNat (cs).length)), (.int (0 : Int32)), (.ref b)])) rfl (by rw [hml]; rfl) (argsL := [(.ref b), (.int (0 : Int32)), (.int (Int32.ofNat (cs).length))]) (rest := []) (lenOf pdo_7 rfl) rfl (Nat.le_of_eq rfl) (hb hby (own_d D_i4 9 rfl)) (fun _ _ => ⟨rfl, e103, (by decide : 0 + 2 ≤ _), (by decide : 0 + 245 ≤ _)⟩)
  dsimp only [Pt.U, Pt.locs, Pt.cells, Pt.slots] at X105 l105 y105 z105 st105 hQ105
  subst l105 y105 z105
  obtain ⟨u105, ku105, vs105, rfl, Nq105, K105, lb105, V105, hu105⟩ := hQ105
  have N105 := Fr.app N0 Nq105
  have pq106 : own_go pP e below A0 (T105.setTop (mkF m 39 #[.val (.ref a), .val (.ref b), .val (.int (0 : Int32)), .val (.int (Int32.ofNat (cs).length)), .val .null, .unset] [(.ref u105)])) := by
    intro τ κ
    refine pq104 τ ?_
    refine XS.ifNo X103.here hx rfl (hb hby (own_d D_i4 5 rfl)) rfl ((if0 _ _).trans (feq P5).1) ?_
    refine XS.aloadN X103.here hx rfl (hb hby (own_d D_i4 6 rfl)) rfl rfl ?_
    refine XS.iloadN X103.here hx rfl (hb hby (own_d D_i4 7 rfl)) rfl ?_
    refine XS.iloadN X103.here hx rfl (hb hby (own_d D_i4 8 rfl)) rfl ?_
    refine st105 _ ?_
    exact κ
  have KC105 := KC0.trans K105 all0
  have f107 := (Nat.le_trans Z0 K105.1)
  obtain ⟨_, _, ⟨T108, L108, k108, n108⟩, -, X108, ⟨Lc108, hQ108, l108, y108, z108⟩, st108⟩ := Jvm.LawKit.callS X105 hx (y := y_16) hown (mvT hZ (W 63 rfl)) (mvT hZ (W 64 rfl)) (mvT hZ (W 39 rfl)) (mvT hZ (W 65 rfl)) (by decide) (backOf (W := 1) (rm_cfl l Z a0 hw [] u105 ku105 (cs).length vs105 T105.heap n0 f107 V105 (by omega) h1) hZ (W 65 rfl) (W 39 rfl) (by decide) (by decide)) (g := (mkF m 45 #[.val (.ref a), .val (.ref b), .val (.int (0 : Int32)), .val (.int (Int32.ofNat (cs).length)), .val .null, .val (.ref u105)] [(.int (Int32.ofNat (cs).length)), (.ref u105), (.ref a)])) rfl (by rw [hml]; rfl) (argsL := [(.ref u105), (.int (Int32.ofNat (cs).length))]) (rest := [(.ref a)]) (lenOf pdo_9 rfl) rfl (Nat.le_of_eq rfl) (hb hby (own_d D_i4 14 rfl)) (fun _ _ => ⟨rfl, rfl, (by decide : 2 + 0 ≤ _), (by decide : 245 + 0 ≤ _)⟩)
  dsimp only [Pt.U, Pt.locs, Pt.cells, Pt.slots] at X108 l108 y108 z108 st108 hQ108
  subst l108 y108 z108
  obtain ⟨rfl, Nq108, eq108⟩ := hQ108
  have N108 := Fr.app N105 Nq108
  have pq109 : own_go pP e below A0 (T108.setTop (mkF m 48 #[.val (.ref a), .val (.ref b), .val (.int (0 : Int32)), .val (.int (Int32.ofNat (cs).length)), .val .null, .val (.ref u105)] [(.int (1 : Int32)), (.ref a)])) := by
    intro τ κ
    refine pq106 τ ?_
    refine XS.astore X105.here hx rfl (hb hby (own_d D_i4 10 rfl)) rfl rfl (l' := #[.val (.ref a), .val (.ref b), .val (.int (0 : Int32)), .val (.int (Int32.ofNat (cs).length)), .val .null, .val (.ref u105)]) rfl ?_
    refine XS.aloadN X105.here hx rfl (hb hby (own_d D_i4 11 rfl)) rfl rfl ?_
    refine XS.aload X105.here hx rfl (hb hby (own_d D_i4 12 rfl)) rfl rfl ?_
    refine XS.iloadN X105.here hx rfl (hb hby (own_d D_i4 13 rfl)) rfl ?_
    refine st108 _ ?_
    exact κ
  have f110 := (E_a.keep K105)
  have f111 := (F_coder.keep K105 nin0)
  obtain ⟨T112, h112, X112, e112, W112, st112⟩ := putFN X108 hx hZ hown (W 31 rfl) Via.refl eq108 f111 f110 (Or.inr ⟨(W 27 rfl), rfl, hnm⟩) (W 12 rfl) (ty := .byte) (v' := (.int (1 : Int32))) (by decide) rfl (by decide) (g := (mkF m 48 #[.val (.ref a), .val (.ref b), .val (.int (0 : Int32)), .val (.int (Int32.ofNat (cs).length)), .val .null, .val (.ref u105)] [(.int (1 : Int32)), (.ref a)])) rfl rfl (hb hby (own_d D_i4 15 rfl))
  have pq113 : own_go pP e below A0 (T112.setTop (mkF m 51 #[.val (.ref a), .val (.ref b), .val (.int (0 : Int32)), .val (.int (Int32.ofNat (cs).length)), .val .null, .val (.ref u105)] [])) := by
    intro τ κ
    refine pq109 τ ?_
    refine st112 _ ?_
    exact κ
  have KC112 := KC105.wr W112 (Or.inl (List.mem_of_getElem? (i := 0) rfl))
  have Fw112 := f111.same W112
  have N112 := Fr.snoc X112 N108 ga
  have f114 := (f110.wr W112)
  have f115 := ((F_value.keep K105 nin0).other W112 (Or.inr (slot_ne (Or.inr (W 26 rfl)) (Or.inr (W 27 rfl)) (by decide) (t := (.array .byte)) (t' := .byte) (by decide) (by decide))))
  obtain ⟨T116, h116, X116, e116, W116, st116⟩ := putF X112 hx hZ hown (host := "") (Or.inl (W 30 rfl)) Via.refl e112 f115 f114 (Or.inr ⟨(W 26 rfl), rfl, hnm⟩) (W 12 rfl) (ty := (.array .byte)) (by decide) rfl rfl (g := (mkF m 54 #[.val (.ref a), .val (.ref b), .val (.int (0 : Int32)), .val (.int (Int32.ofNat (cs).length)), .val .null, .val (.ref u105)] [(.ref u105), (.ref a)])) rfl rfl (hb hby (own_d D_i4 18 rfl))
  have pq117 : own_go pP e below A0 (T116.setTop (mkF m 57 #[.val (.ref a), .val (.ref b), .val (.int (0 : Int32)), .val (.int (Int32.ofNat (cs).length)), .val .null, .val (.ref u105)] [])) := by
    intro τ κ
    refine pq113 τ ?_
    refine XS.aloadN X112.here hx rfl (hb hby (own_d D_i4 16 rfl)) rfl rfl ?_
    refine XS.aload X112.here hx rfl (hb hby (own_d D_i4 17 rfl)) rfl rfl ?_
    refine st116 _ ?_
    exact κ
  have KC116 := KC112.wr W116 (Or.inl (List.mem_of_getElem? (i := 0) rfl))
  have Fw116 := f115.same W116
  have N116 := Fr.snoc X116 N112 ga
  have f118 := (f114.wr W116)
  have f119 := (Fw112.other W116 (Or.inr (slot_ne (Or.inr (W 27 rfl)) (Or.inr (W 26 rfl)) (by decide) (t := .byte) (t' := (.array .byte)) (by decide) (by decide))))
  have f120 := ((V105.other W112 (Ne.symm (Nat.ne_of_lt (Nat.lt_of_lt_of_le E_a.lt lb105)))).other W116 (Ne.symm (Nat.ne_of_lt (Nat.lt_of_lt_of_le E_a.lt lb105))))
  obtain ⟨fs, hrE, hrun, hended, hW, hsame⟩ := X116.leave (v := none) (fun _ => rfl)
  have pqE := pq117
  rw [hA0] at pqE
  refine ⟨_, _, pqE _ ?_, hrun, hended, _, _, rfl, ?_, ⟨_, rfl⟩, hW, hsame.mono (by decide) (by decide)⟩
  · show Steps pP.tables e below (T116.setTop (mkF m 57 #[.val (.ref a), .val (.ref b), .val (.int (0 : Int32)), .val (.int (Int32.ofNat (cs).length)), .val .null, .val (.ref u105)] [])) _
    exact X116.returnOut hx Bd.returns (hb hby (own_d D_i4 19 rfl)) hrE
  · show Q_new Z a cs h0 n0 _ T116.heap _
    rw [e116]
    exact ⟨rfl, N116, KC116, u105, _, f118, Fw116, f119, _, f120, hu105, hp⟩
theorem D_i1 : ∀ q ∈ ([(0, .aload_n 0, 1), (1, .aload_n 1, 1), (2, .iconst 0, 1), (3, .aload_n 1, 1), (4, .arraylength, 1), (5, .aconst_null, 1), (6, .invokespecial 27, 3), (9, .return_, 1)] : List (Nat × Instr × Nat)), decode jdk_42_method_3_code q.1 = .ok q.2 := by decide +kernel
theorem ef_rm_i1 (m : MethodId) (x0 : Addr) (x1 : Addr) : entryFrame m #[(.ref x0), (.ref x1)] 2 = mkF m 0 #[.val (.ref x0), .val (.ref x1)] [] := by first | (simp [entryFrame, mkF, argsToLocals, Value.category]; done) | rfl
theorem rm_i1 (l : Launch) (Z : State) (a0 : Array Value) (hw : ∀ d ∈ tables_1, d.before a0 Z = true) (ws : List Jvm.Cond) (a b : Addr) (kc : ClassId) (cs : List Int32) (G1 : Int32) (h0 : Heap) (n0 : Nat) (Z0 : n0 ≤ h0.size) (O2 : Sta Z Z.heap "java/lang/String" "COMPACT_STRINGS" "Z" (.int G1)) (P5 : ¬ (G1 = (0 : Int32))) (X00 : Old Z n0 h0) (OA : Sta Z Z.heap "java/lang/StringUTF16" "$assertionsDisabled" "Z" (.int 1)) (OH : Sta Z Z.heap "java/lang/StringUTF16" "HI_BYTE_SHIFT" "I" (.int 0)) (OL : Sta Z Z.heap "java/lang/StringUTF16" "LO_BYTE_SHIFT" "I" (.int 8)) (E_a : Exa Z h0 a "java/lang/String") (ga : n0 ≤ a) (F_value : Fld Z h0 a "java/lang/String" "value" "[B" .null) (F_coder : Fld Z h0 a "java/lang/String" "coder" "B" (.int (0 : Int32))) (V_b : Arv Z h0 b kc .char (Int32.ofNat (cs).length) (cs.map Value.int) (.int 0)) (hbad : ¬ ∀ c ∈ cs, ¬ (255 : Int32) < c) (hp : ∀ c ∈ cs, ¬ c < 0 ∧ ¬ (65535 : Int32) < c) (hl : (cs).length ≤ 45) (h1 : 1 ≤ (cs).length) :
    MetFree l y_1 (head1 (Jvm.Cond.code y_1 jdk_42_method_3_code 2 none :: ws) r_11) (fun αs U => αs = #[(.ref a), (.ref b)] ∧ Z.Warmed39 U.vm ∧ U.heap = h0) (fun _ _ _ _ _ => True) (fun _ Us oS Us' => ∃ vR LR, oS = .returned vR ∧ Q_new Z a cs h0 n0 vR Us'.heap LR ∧ FrameEnd Us oS Us' LR r_11.cells r_11.slots) := by
  refine MetFree.of_bodySF (plainFor_of_name pno_1) hisR ?_
  intro pP e s m args below meth cC s₁ Bd hml0 hP hK
  obtain ⟨rfl, hZ, hh⟩ := hP
  have hx := Bd.exec
  have W := own_W hw
  have hby := Bd.bytes
  have hml : cC.maxLocals = 2 := hml0
  have hown : s.vm.findClass "java/lang/String" = some m.cls := findClass_of_methodNamed Bd.named
  have hnm := (name_of_methodNamed Bd.named Bd.method).1
  have X0 : Stand pP l e r_11 s m #[(.ref a), (.ref b)] below meth cC s₁ [] 0 0 := Stand.of_body Bd
  have e0 : s₁.heap = h0 := by rw [← hh, Bd.state]; rfl
  have N0 := Fr.nil n0
  have KC0 : Keep h0 h0 [a] := Keep.refl h0 _
  obtain ⟨A0, hA0⟩ : ∃ ζ, ζ = s₁.setTop (entryFrame m #[(.ref a), (.ref b)] 2) := ⟨_, rfl⟩
  have pre0 : own_go pP e below A0 (s₁.setTop (mkF m 0 #[.val (.ref a), .val (.ref b)] [])) := fun τ κ => by rw [hA0]; exact castTop (ef_rm_i1 m a b) κ
  obtain ⟨cl101, Ar101, q101, S101, M101, Hs101, G101⟩ := id V_b
  obtain ⟨_, _, ⟨T102, L102, k102, n102⟩, -, X102, ⟨Lc102, hQ102, l102, y102, z102⟩, st102⟩ := X0.specialBack hx (y := y_0) rfl hown (mvT hZ (W 17 rfl)) (mvT hZ (W 18 rfl)) (mvT hZ (W 20 rfl)) (by decide) (backOf (W := 0) (rm_i4 l Z a0 hw [] a b kc cs G1 h0 n0 Z0 O2 P5 X00 OA OH OL E_a ga F_value F_coder V_b hbad hp hl h1) hZ (W 20 rfl) (W 13 rfl) (by decide) (by decide)) (g := (mkF m 6 #[.val (.ref a), .val (.ref b)] [.null, (.int (Int32.ofNat (cs).length)), (.int (0 : Int32)), (.ref b), (.ref a)])) rfl (by rw [hml]; rfl) (Steps.refl _) (a := a) (argsL := [(.ref b), (.int (0 : Int32)), (.int (Int32.ofNat (cs).length)), .null]) (rest := []) (lenOf pdo_10 rfl) rfl (Nat.le_of_eq rfl) (hb hby (own_d D_i1 6 rfl)) (fun _ _ => ⟨rfl, e0, (by decide : 0 + 2 ≤ _), (by decide : 0 + 245 ≤ _)⟩)
  dsimp only [Pt.U, Pt.locs, Pt.cells, Pt.slots] at X102 l102 y102 z102 st102 hQ102
  subst l102 y102 z102
  obtain ⟨rfl, Nq102, K102, U102⟩ := hQ102
  have N102 := Fr.app N0 Nq102
  have pq103 : own_go pP e below A0 (T102.setTop (mkF m 9 #[.val (.ref a), .val (.ref b)] [])) := by
    intro τ κ
    refine pre0 τ ?_
    refine XS.aloadN X0.here hx rfl (hb hby (own_d D_i1 0 rfl)) rfl rfl ?_
    refine XS.aloadN X0.here hx rfl (hb hby (own_d D_i1 1 rfl)) rfl rfl ?_
    refine XS.iconst X0.here hx rfl (hb hby (own_d D_i1 2 rfl)) ?_
    refine XS.aloadN X0.here hx rfl (hb hby (own_d D_i1 3 rfl)) rfl rfl ?_
    refine X0.arraylength hx (by rw [e0]; exact Ar101.1) (State.isArrayOf_alike hZ.alike Ar101.2.1) (g := (mkF m 4 #[.val (.ref a), .val (.ref b)] [(.ref b), (.int (0 : Int32)), (.ref b), (.ref a)])) rfl rfl (hb hby (own_d D_i1 4 rfl)) _ ?_
    rw [len_of S101 M101]
    refine XS.aconstNull X0.here hx rfl (hb hby (own_d D_i1 5 rfl)) ?_
    refine st102.trans ?_
    exact κ
  have KC102 := KC0.trans K102 (allS (Or.inl (List.mem_of_getElem? (i := 0) rfl)) all0)
  obtain ⟨fs, hrE, hrun, hended, hW, hsame⟩ := X102.leave (v := none) (fun _ => rfl)
  have pqE := pq103
  rw [hA0] at pqE
  refine ⟨_, _, pqE _ ?_, hrun, hended, _, _, rfl, ?_, ⟨_, rfl⟩, hW, hsame.mono (by decide) (by decide)⟩
  · show Steps pP.tables e below (T102.setTop (mkF m 9 #[.val (.ref a), .val (.ref b)] [])) _
    exact X102.returnOut hx Bd.returns (hb hby (own_d D_i1 7 rfl)) hrE
  · show Q_new Z a cs h0 n0 _ T102.heap _
    exact ⟨rfl, N102, KC102, U102⟩
def Q_abS (x : Addr) (h0 : Heap) (n0 : Nat) (v : Option Value) (h : Heap) (L : List Loc) : Prop := v = some (.ref x) ∧ Fr n0 L ∧ h = h0
theorem D_abS : ∀ q ∈ ([(0, .aload_n 0, 1), (1, .invokevirtual 7, 3), (4, .bipush 40, 2), (6, .if_icmp .gt 7, 3), (9, .aload_n 0, 1), (10, .goto 28, 3), (38, .areturn, 1)] : List (Nat × Instr × Nat)), decode prog_9_method_2_code q.1 = .ok q.2 := by decide +kernel
theorem ef_rm_abS (m : MethodId) (x0 : Addr) : entryFrame m #[(.ref x0)] 1 = mkF m 0 #[.val (.ref x0)] [] := by first | (simp [entryFrame, mkF, argsToLocals, Value.category]; done) | rfl
theorem rm_abS (l : Launch) (Z : State) (a0 : Array Value) (hw : ∀ d ∈ tables_1, d.before a0 Z = true) (ws : List Jvm.Cond) (x : Addr) (cs : List Int32) (G1 : Int32) (h0 : Heap) (n0 : Nat) (Z0 : n0 ≤ h0.size) (O2 : Sta Z Z.heap "java/lang/String" "COMPACT_STRINGS" "Z" (.int G1)) (P5 : ¬ (G1 = (0 : Int32))) (X00 : Old Z n0 h0) (hl : (cs).length ≤ 40) (U : UStr Z h0 x cs) :
    MetFree l y_17 (head1 (Jvm.Cond.code y_17 prog_9_method_2_code 1 (some (.object "java/lang/String")) :: ws) r_12) (fun αs U => αs = #[(.ref x)] ∧ Z.Warmed39 U.vm ∧ U.heap = h0) (fun _ _ _ _ _ => True) (fun _ Us oS Us' => ∃ vR LR, oS = .returned vR ∧ Q_abS x h0 n0 vR Us'.heap LR ∧ FrameEnd Us oS Us' LR r_12.cells r_12.slots) := by
  refine MetFree.of_bodySF (plainFor_of_name pno_3) hisR ?_
  intro pP e s m args below meth cC s₁ Bd hml0 hP hK
  obtain ⟨rfl, hZ, hh⟩ := hP
  have hx := Bd.exec
  have W := own_W hw
  have hby := Bd.bytes
  have hml : cC.maxLocals = 1 := hml0
  have hown : s.vm.findClass "com/example/stateful_search/statefulsearch/format/Excerpts" = some m.cls := findClass_of_methodNamed Bd.named
  have hnm := (name_of_methodNamed Bd.named Bd.method).1
  have X0 : Stand pP l e r_12 s m #[(.ref x)] below meth cC s₁ [] 0 0 := Stand.of_body Bd
  have e0 : s₁.heap = h0 := by rw [← hh, Bd.state]; rfl
  have N0 := Fr.nil n0
  have KC0 : Keep h0 h0 [] := Keep.refl h0 _
  obtain ⟨A0, hA0⟩ : ∃ ζ, ζ = s₁.setTop (entryFrame m #[(.ref x)] 1) := ⟨_, rfl⟩
  have pre0 : own_go pP e below A0 (s₁.setTop (mkF m 0 #[.val (.ref x)] [])) := fun τ κ => by rw [hA0]; exact castTop (ef_rm_abS m x) κ
  obtain ⟨cq102, kq102, q102a, q102b, q102c⟩ := isOf hZ e0 U.exa
  obtain ⟨_, _, ⟨T101, L101, k101, n101⟩, -, X101, ⟨Lc101, hQ101, l101, y101, z101⟩, st101⟩ := X0.virtualBack hx (y := y_8) (z := y_8) hown (mvT hZ (W 70 rfl)) (mvT hZ (W 71 rfl)) (notFace_of_selects (args := #[]) (mvT hZ (W 73 rfl))) (mvT hZ (W 73 rfl)) (mvT hZ (W 72 rfl)) (by decide) (backOf (W := 0) (rm_len l Z a0 hw [] x cs G1 h0 n0 Z0 O2 P5 X00 (by omega) U) hZ (W 74 rfl) (W 13 rfl) (by decide) (by decide)) q102a q102c (g := (mkF m 1 #[.val (.ref x)] [(.ref x)])) rfl (by rw [hml]; rfl) (Steps.refl _) (argsL := []) (rest := []) (lenOf pdo_11 rfl) rfl (Nat.le_of_eq rfl) (hb hby (own_d D_abS 1 rfl)) (fun _ _ => ⟨rfl, e0, (by decide : 0 + 0 ≤ _), (by decide : 0 + 0 ≤ _)⟩)
  dsimp only [Pt.U, Pt.locs, Pt.cells, Pt.slots] at X101 l101 y101 z101 st101 hQ101
  subst l101 y101 z101
  obtain ⟨rfl, Nq101, eq101⟩ := hQ101
  have N101 := Fr.app N0 Nq101
  have pq103 : own_go pP e below A0 (T101.setTop (mkF m 4 #[.val (.ref x)] [(.int (Int32.ofNat (cs).length))])) := by
    intro τ κ
    refine pre0 τ ?_
    refine XS.aloadN X0.here hx rfl (hb hby (own_d D_abS 0 rfl)) rfl rfl ?_
    refine st101.trans ?_
    exact κ
  obtain ⟨fs, hrE, hrun, hended, hW, hsame⟩ := X101.leave (v := some (.ref x)) (fun h => by rw [Bd.returns] at h; cases h)
  have pqE := pq103
  rw [hA0] at pqE
  refine ⟨_, _, pqE _ ?_, hrun, hended, _, _, rfl, ?_, ⟨_, rfl⟩, hW, hsame.mono (by decide) (by decide)⟩
  · refine XS.bipush X101.here hx rfl (hb hby (own_d D_abS 2 rfl)) ?_
    refine XS.icmpNo X101.here hx rfl (hb hby (own_d D_abS 3 rfl)) rfl (flt (own_le40 hl)).2.2.1 ?_
    refine XS.aloadN X101.here hx rfl (hb hby (own_d D_abS 4 rfl)) rfl rfl ?_
    refine XS.goto X101.here hx rfl (pc0 := 10) (pc' := 38) rfl (hb hby (own_d D_abS 5 rfl)) (by decide) (by decide) ?_
    show Steps pP.tables e below (T101.setTop (mkF m 38 #[.val (.ref x)] [(.ref x)])) _
    exact retOut X101 hx Bd.returns rfl (Or.inr (Or.inr (Or.inr (Or.inr ⟨rfl, rfl, rfl⟩)))) (hb hby (own_d D_abS 6 rfl)) hrE
  · show Q_abS x h0 n0 _ T101.heap _
    rw [eq101]
    exact ⟨rfl, N101, rfl⟩
def Q_pft (h0 : Heap) (n0 : Nat) (v : Option Value) (h : Heap) (L : List Loc) : Prop := v = some (.int 0) ∧ Fr n0 L ∧ h = h0
theorem D_pft : ∀ q ∈ ([(0, .iload_n 0, 1), (1, .ifCond .lt 13, 3), (4, .iload_n 0, 1), (5, .iload_n 1, 1), (6, .if_icmp .gt 8, 3), (9, .iload_n 1, 1), (10, .iload_n 2, 1), (11, .if_icmp .le 11, 3), (22, .iload_n 0, 1), (23, .ireturn, 1)] : List (Nat × Instr × Nat)), decode jdk_41_method_12_code q.1 = .ok q.2 := by decide +kernel
theorem ef_rm_pft (m : MethodId) (x0 : Int32) (x1 : Int32) (x2 : Int32) (x3 : Value) (cx3 : x3.isRef = true) : entryFrame m #[(.int x0), (.int x1), (.int x2), x3] 4 = mkF m 0 #[.val (.int x0), .val (.int x1), .val (.int x2), .val x3] [] := by rcases ref_cases cx3 with rfl | ⟨_, rfl⟩ <;> (first | (simp [entryFrame, mkF, argsToLocals, Value.category]; done) | rfl)
theorem rm_pft (l : Launch) (Z : State) (a0 : Array Value) (hw : ∀ d ∈ tables_1, d.before a0 Z = true) (ws : List Jvm.Cond) (n : Int32) (G3 : Value) (h0 : Heap) (n0 : Nat) (Z0 : n0 ≤ h0.size) (rG3 : G3.isRef = true) (hq : ¬ n < (40 : Int32)) :
    MetFree l y_18 (head1 (Jvm.Cond.code y_18 jdk_41_method_12_code 4 (some .int) :: ws) r_2) (fun αs U => αs = #[(.int (0 : Int32)), (.int (40 : Int32)), (.int n), G3] ∧ Z.Warmed39 U.vm ∧ U.heap = h0) (fun _ _ _ _ _ => True) (fun _ Us oS Us' => ∃ vR LR, oS = .returned vR ∧ Q_pft h0 n0 vR Us'.heap LR ∧ FrameEnd Us oS Us' LR r_2.cells r_2.slots) := by
  refine MetFree.of_bodySF (plainFor_of_name pno_4) hisR ?_
  intro pP e s m args below meth cC s₁ Bd hml0 hP hK
  obtain ⟨rfl, hZ, hh⟩ := hP
  have hx := Bd.exec
  have hby := Bd.bytes
  have hml : cC.maxLocals = 4 := hml0
  have hown : s.vm.findClass "jdk/internal/util/Preconditions" = some m.cls := findClass_of_methodNamed Bd.named
  have hnm := (name_of_methodNamed Bd.named Bd.method).1
  have X0 : Stand pP l e r_2 s m #[(.int (0 : Int32)), (.int (40 : Int32)), (.int n), G3] below meth cC s₁ [] 0 0 := Stand.of_body Bd
  have e0 : s₁.heap = h0 := by rw [← hh, Bd.state]; rfl
  have N0 := Fr.nil n0
  have KC0 : Keep h0 h0 [] := Keep.refl h0 _
  obtain ⟨A0, hA0⟩ : ∃ ζ, ζ = s₁.setTop (entryFrame m #[(.int (0 : Int32)), (.int (40 : Int32)), (.int n), G3] 4) := ⟨_, rfl⟩
  have pre0 : own_go pP e below A0 (s₁.setTop (mkF m 0 #[.val (.int (0 : Int32)), .val (.int (40 : Int32)), .val (.int n), .val G3] [])) := fun τ κ => by rw [hA0]; exact castTop (ef_rm_pft m (0 : Int32) (40 : Int32) n G3 rG3) κ
  obtain ⟨fs, hrE, hrun, hended, hW, hsame⟩ := X0.leave (v := some (.int (0 : Int32))) (fun h => by rw [Bd.returns] at h; cases h)
  have pqE := pre0
  rw [hA0] at pqE
  refine ⟨_, _, pqE _ ?_, hrun, hended, _, _, rfl, ?_, ⟨_, rfl⟩, hW, hsame.mono (by decide) (by decide)⟩
  · refine XS.iloadN X0.here hx rfl (hb hby (own_d D_pft 0 rfl)) rfl ?_
    refine XS.ifNo X0.here hx rfl (hb hby (own_d D_pft 1 rfl)) rfl ((if0 _ _).trans (flt (by decide : ¬ ((0 : Int32) < (0 : Int32)))).1) ?_
    refine XS.iloadN X0.here hx rfl (hb hby (own_d D_pft 2 rfl)) rfl ?_
    refine XS.iloadN X0.here hx rfl (hb hby (own_d D_pft 3 rfl)) rfl ?_
    refine XS.icmpNo X0.here hx rfl (hb hby (own_d D_pft 4 rfl)) rfl (flt (by decide : ¬ ((40 : Int32) < (0 : Int32)))).2.2.1 ?_
    refine XS.iloadN X0.here hx rfl (hb hby (own_d D_pft 5 rfl)) rfl ?_
    refine XS.iloadN X0.here hx rfl (hb hby (own_d D_pft 6 rfl)) rfl ?_
    refine XS.icmpYes X0.here hx rfl (pc0 := 11) (pc' := 22) rfl (hb hby (own_d D_pft 7 rfl)) rfl (flt hq).2.2.2 (by decide) (by decide) ?_
    refine XS.iloadN X0.here hx rfl (hb hby (own_d D_pft 8 rfl)) rfl ?_
    show Steps pP.tables e below (s₁.setTop (mkF m 23 #[.val (.int (0 : Int32)), .val (.int (40 : Int32)), .val (.int n), .val G3] [(.int (0 : Int32))])) _
    exact retOut X0 hx Bd.returns rfl (Or.inl ⟨rfl, Or.inl rfl, _, rfl⟩) (hb hby (own_d D_pft 9 rfl)) hrE
  · show Q_pft h0 n0 _ s₁.heap _
    rw [e0]
    exact ⟨rfl, N0, rfl⟩
def Q_cbe (h0 : Heap) (n0 : Nat) (v : Option Value) (h : Heap) (L : List Loc) : Prop := v = none ∧ Fr n0 L ∧ h = h0
theorem D_cbe : ∀ q ∈ ([(0, .iload_n 0, 1), (1, .iload_n 1, 1), (2, .iload_n 2, 1), (3, .getstatic 1053, 3), (6, .invokestatic 1062, 3), (9, .pop, 1), (10, .return_, 1)] : List (Nat × Instr × Nat)), decode jdk_42_method_158_code q.1 = .ok q.2 := by decide +kernel
theorem ef_rm_cbe (m : MethodId) (x0 : Int32) (x1 : Int32) (x2 : Int32) : entryFrame m #[(.int x0), (.int x1), (.int x2)] 3 = mkF m 0 #[.val (.int x0), .val (.int x1), .val (.int x2)] [] := by first | (simp [entryFrame, mkF, argsToLocals, Value.category]; done) | rfl
theorem rm_cbe (l : Launch) (Z : State) (a0 : Array Value) (hw : ∀ d ∈ tables_1, d.before a0 Z = true) (ws : List Jvm.Cond) (n : Int32) (G3 : Value) (h0 : Heap) (n0 : Nat) (Z0 : n0 ≤ h0.size) (O4 : Sta Z Z.heap "jdk/internal/util/Preconditions" "SIOOBE_FORMATTER" "Ljava/util/function/BiFunction;" G3) (rG3 : G3.isRef = true) (X00 : Old Z n0 h0) (hq : ¬ n < (40 : Int32)) :
    MetFree l y_19 (head1 (Jvm.Cond.code y_19 jdk_42_method_158_code 3 none :: ws) r_13) (fun αs U => αs = #[(.int (0 : Int32)), (.int (40 : Int32)), (.int n)] ∧ Z.Warmed39 U.vm ∧ U.heap = h0) (fun _ _ _ _ _ => True) (fun _ Us oS Us' => ∃ vR LR, oS = .returned vR ∧ Q_cbe h0 n0 vR Us'.heap LR ∧ FrameEnd Us oS Us' LR r_13.cells r_13.slots) := by
  refine MetFree.of_bodySF (plainFor_of_name pno_1) hisR ?_
  intro pP e s m args below meth cC s₁ Bd hml0 hP hK
  obtain ⟨rfl, hZ, hh⟩ := hP
  have hx := Bd.exec
  have W := own_W hw
  have hby := Bd.bytes
  have hml : cC.maxLocals = 3 := hml0
  have hown : s.vm.findClass "java/lang/String" = some m.cls := findClass_of_methodNamed Bd.named
  have hnm := (name_of_methodNamed Bd.named Bd.method).1
  have X0 : Stand pP l e r_13 s m #[(.int (0 : Int32)), (.int (40 : Int32)), (.int n)] below meth cC s₁ [] 0 0 := Stand.of_body Bd
  have e0 : s₁.heap = h0 := by rw [← hh, Bd.state]; rfl
  have N0 := Fr.nil n0
  have KC0 : Keep h0 h0 [] := Keep.refl h0 _
  obtain ⟨A0, hA0⟩ : ∃ ζ, ζ = s₁.setTop (entryFrame m #[(.int (0 : Int32)), (.int (40 : Int32)), (.int n)] 3) := ⟨_, rfl⟩
  have pre0 : own_go pP e below A0 (s₁.setTop (mkF m 0 #[.val (.int (0 : Int32)), .val (.int (40 : Int32)), .val (.int n)] [])) := fun τ κ => by rw [hA0]; exact castTop (ef_rm_cbe m (0 : Int32) (40 : Int32) n) κ
  obtain ⟨T101, X101, e101, st101⟩ := getS2 X0 hx hZ hown (host := "") (Or.inl (W 112 rfl)) Via.refl e0 (O4.ext X00.2) (g := (mkF m 3 #[.val (.int (0 : Int32)), .val (.int (40 : Int32)), .val (.int n)] [(.int n), (.int (40 : Int32)), (.int (0 : Int32))])) rfl (hb hby (own_d D_cbe 3 rfl))
  have pq102 : own_go pP e below A0 (T101.setTop (mkF m 6 #[.val (.int (0 : Int32)), .val (.int (40 : Int32)), .val (.int n)] [G3, (.int n), (.int (40 : Int32)), (.int (0 : Int32))])) := by
    intro τ κ
    refine pre0 τ ?_
    refine XS.iloadN X0.here hx rfl (hb hby (own_d D_cbe 0 rfl)) rfl ?_
    refine XS.iloadN X0.here hx rfl (hb hby (own_d D_cbe 1 rfl)) rfl ?_
    refine XS.iloadN X0.here hx rfl (hb hby (own_d D_cbe 2 rfl)) rfl ?_
    refine st101 _ ?_
    exact κ
  obtain ⟨_, _, ⟨T103, L103, k103, n103⟩, -, X103, ⟨Lc103, hQ103, l103, y103, z103⟩, st103⟩ := Jvm.LawKit.callS X101 hx (y := y_18) hown (mvT hZ (W 114 rfl)) (mvT hZ (W 115 rfl)) (mvT hZ (W 113 rfl)) (mvT hZ (W 116 rfl)) (by decide) (backOf (W := 0) (rm_pft l Z a0 hw [] n G3 h0 n0 Z0 rG3 hq) hZ (W 116 rfl) (W 113 rfl) (by decide) (by decide)) (g := (mkF m 6 #[.val (.int (0 : Int32)), .val (.int (40 : Int32)), .val (.int n)] [G3, (.int n), (.int (40 : Int32)), (.int (0 : Int32))])) rfl (by rw [hml]; rfl) (argsL := [(.int (0 : Int32)), (.int (40 : Int32)), (.int n), G3]) (rest := []) (lenOf pdo_12 rfl) rfl (Nat.le_of_eq rfl) (hb hby (own_d D_cbe 4 rfl)) (fun _ _ => ⟨rfl, e101, (by decide : 0 + 0 ≤ _), (by decide : 0 + 0 ≤ _)⟩)
  dsimp only [Pt.U, Pt.locs, Pt.cells, Pt.slots] at X103 l103 y103 z103 st103 hQ103
  subst l103 y103 z103
  obtain ⟨rfl, Nq103, eq103⟩ := hQ103
  have N103 := Fr.app N0 Nq103
  have pq104 : own_go pP e below A0 (T103.setTop (mkF m 9 #[.val (.int (0 : Int32)), .val (.int (40 : Int32)), .val (.int n)] [(.int (0 : Int32))])) := by
    intro τ κ
    refine pq102 τ ?_
    refine st103 _ ?_
    exact κ
  obtain ⟨fs, hrE, hrun, hended, hW, hsame⟩ := X103.leave (v := none) (fun _ => rfl)
  have pqE := pq104
  rw [hA0] at pqE
  refine ⟨_, _, pqE _ ?_, hrun, hended, _, _, rfl, ?_, ⟨_, rfl⟩, hW, hsame.mono (by decide) (by decide)⟩
  · refine XS.pop X103.here hx rfl (hb hby (own_d D_cbe 5 rfl)) rfl rfl ?_
    show Steps pP.tables e below (T103.setTop (mkF m 10 #[.val (.int (0 : Int32)), .val (.int (40 : Int32)), .val (.int n)] [])) _
    exact X103.returnOut hx Bd.returns (hb hby (own_d D_cbe 6 rfl)) hrE
  · show Q_cbe h0 n0 _ T103.heap _
    rw [eq103]
    exact ⟨rfl, N103, rfl⟩
def Q_cfi (o : Int32) (h0 : Heap) (n0 : Nat) (v : Option Value) (h : Heap) (L : List Loc) : Prop := v = some (.int o) ∧ Fr n0 L ∧ h = h0
theorem D_cfi : ∀ q ∈ ([(0, .iload_n 2, 1), (1, .iload_n 0, 1), (2, .ior, 1), (3, .iload_n 1, 1), (4, .ior, 1), (5, .ifCond .lt 10, 3), (8, .iload_n 1, 1), (9, .iload_n 2, 1), (10, .iload_n 0, 1), (11, .isub, 1), (12, .if_icmp .le 11, 3), (23, .iload_n 0, 1), (24, .ireturn, 1)] : List (Nat × Instr × Nat)), decode jdk_41_method_13_code q.1 = .ok q.2 := by decide +kernel
theorem ef_rm_cfi (m : MethodId) (x0 : Int32) (x1 : Int32) (x2 : Int32) (x3 : Value) (cx3 : x3.isRef = true) : entryFrame m #[(.int x0), (.int x1), (.int x2), x3] 4 = mkF m 0 #[.val (.int x0), .val (.int x1), .val (.int x2), .val x3] [] := by rcases ref_cases cx3 with rfl | ⟨_, rfl⟩ <;> (first | (simp [entryFrame, mkF, argsToLocals, Value.category]; done) | rfl)
theorem rm_cfi (l : Launch) (Z : State) (a0 : Array Value) (hw : ∀ d ∈ tables_1, d.before a0 Z = true) (ws : List Jvm.Cond) (o q n : Int32) (G3 : Value) (h0 : Heap) (n0 : Nat) (Z0 : n0 ≤ h0.size) (rG3 : G3.isRef = true) (h1 : ¬ ((n ||| o) ||| q) < (0 : Int32)) (h2 : ¬ (n - o) < q) :
    MetFree l y_20 (head1 (Jvm.Cond.code y_20 jdk_41_method_13_code 4 (some .int) :: ws) r_2) (fun αs U => αs = #[(.int o), (.int q), (.int n), G3] ∧ Z.Warmed39 U.vm ∧ U.heap = h0) (fun _ _ _ _ _ => True) (fun _ Us oS Us' => ∃ vR LR, oS = .returned vR ∧ Q_cfi o h0 n0 vR Us'.heap LR ∧ FrameEnd Us oS Us' LR r_2.cells r_2.slots) := by
  refine MetFree.of_bodySF (plainFor_of_name pno_4) hisR ?_
  intro pP e s m args below meth cC s₁ Bd hml0 hP hK
  obtain ⟨rfl, hZ, hh⟩ := hP
  have hx := Bd.exec
  have hby := Bd.bytes
  have hml : cC.maxLocals = 4 := hml0
  have hown : s.vm.findClass "jdk/internal/util/Preconditions" = some m.cls := findClass_of_methodNamed Bd.named
  have hnm := (name_of_methodNamed Bd.named Bd.method).1
  have X0 : Stand pP l e r_2 s m #[(.int o), (.int q), (.int n), G3] below meth cC s₁ [] 0 0 := Stand.of_body Bd
  have e0 : s₁.heap = h0 := by rw [← hh, Bd.state]; rfl
  have N0 := Fr.nil n0
  have KC0 : Keep h0 h0 [] := Keep.refl h0 _
  obtain ⟨A0, hA0⟩ : ∃ ζ, ζ = s₁.setTop (entryFrame m #[(.int o), (.int q), (.int n), G3] 4) := ⟨_, rfl⟩
  have pre0 : own_go pP e below A0 (s₁.setTop (mkF m 0 #[.val (.int o), .val (.int q), .val (.int n), .val G3] [])) := fun τ κ => by rw [hA0]; exact castTop (ef_rm_cfi m o q n G3 rG3) κ
  obtain ⟨fs, hrE, hrun, hended, hW, hsame⟩ := X0.leave (v := some (.int o)) (fun h => by rw [Bd.returns] at h; cases h)
  have pqE := pre0
  rw [hA0] at pqE
  refine ⟨_, _, pqE _ ?_, hrun, hended, _, _, rfl, ?_, ⟨_, rfl⟩, hW, hsame.mono (by decide) (by decide)⟩
  · refine XS.iloadN X0.here hx rfl (hb hby (own_d D_cfi 0 rfl)) rfl ?_
    refine XS.iloadN X0.here hx rfl (hb hby (own_d D_cfi 1 rfl)) rfl ?_
    refine XS.ior X0.here hx rfl (hb hby (own_d D_cfi 2 rfl)) rfl ?_
    refine XS.iloadN X0.here hx rfl (hb hby (own_d D_cfi 3 rfl)) rfl ?_
    refine XS.ior X0.here hx rfl (hb hby (own_d D_cfi 4 rfl)) rfl ?_
    refine XS.ifNo X0.here hx rfl (hb hby (own_d D_cfi 5 rfl)) rfl ((if0 _ _).trans (flt h1).1) ?_
    refine XS.iloadN X0.here hx rfl (hb hby (own_d D_cfi 6 rfl)) rfl ?_
    refine XS.iloadN X0.here hx rfl (hb hby (own_d D_cfi 7 rfl)) rfl ?_
    refine XS.iloadN X0.here hx rfl (hb hby (own_d D_cfi 8 rfl)) rfl ?_
    refine XS.isub X0.here hx rfl (hb hby (own_d D_cfi 9 rfl)) rfl ?_
    refine XS.icmpYes X0.here hx rfl (pc0 := 12) (pc' := 23) rfl (hb hby (own_d D_cfi 10 rfl)) rfl (flt h2).2.2.2 (by decide) (by decide) ?_
    refine XS.iloadN X0.here hx rfl (hb hby (own_d D_cfi 11 rfl)) rfl ?_
    show Steps pP.tables e below (s₁.setTop (mkF m 24 #[.val (.int o), .val (.int q), .val (.int n), .val G3] [(.int o)])) _
    exact retOut X0 hx Bd.returns rfl (Or.inl ⟨rfl, Or.inl rfl, _, rfl⟩) (hb hby (own_d D_cfi 12 rfl)) hrE
  · show Q_cfi o h0 n0 _ s₁.heap _
    rw [e0]
    exact ⟨rfl, N0, rfl⟩
theorem D_cbo : ∀ q ∈ ([(0, .iload_n 0, 1), (1, .iload_n 1, 1), (2, .iload_n 2, 1), (3, .getstatic 1053, 3), (6, .invokestatic 1065, 3), (9, .ireturn, 1)] : List (Nat × Instr × Nat)), decode jdk_42_method_157_code q.1 = .ok q.2 := by decide +kernel
theorem ef_rm_cbo (m : MethodId) (x0 : Int32) (x1 : Int32) (x2 : Int32) : entryFrame m #[(.int x0), (.int x1), (.int x2)] 3 = mkF m 0 #[.val (.int x0), .val (.int x1), .val (.int x2)] [] := by first | (simp [entryFrame, mkF, argsToLocals, Value.category]; done) | rfl
theorem rm_cbo (l : Launch) (Z : State) (a0 : Array Value) (hw : ∀ d ∈ tables_1, d.before a0 Z = true) (ws : List Jvm.Cond) (o q n : Int32) (G3 : Value) (h0 : Heap) (n0 : Nat) (Z0 : n0 ≤ h0.size) (O4 : Sta Z Z.heap "jdk/internal/util/Preconditions" "SIOOBE_FORMATTER" "Ljava/util/function/BiFunction;" G3) (rG3 : G3.isRef = true) (X00 : Old Z n0 h0) (h1 : ¬ ((n ||| o) ||| q) < (0 : Int32)) (h2 : ¬ (n - o) < q) :
    MetFree l y_21 (head1 (Jvm.Cond.code y_21 jdk_42_method_157_code 3 (some .int) :: ws) r_13) (fun αs U => αs = #[(.int o), (.int q), (.int n)] ∧ Z.Warmed39 U.vm ∧ U.heap = h0) (fun _ _ _ _ _ => True) (fun _ Us oS Us' => ∃ vR LR, oS = .returned vR ∧ Q_cfi o h0 n0 vR Us'.heap LR ∧ FrameEnd Us oS Us' LR r_13.cells r_13.slots) := by
  refine MetFree.of_bodySF (plainFor_of_name pno_1) hisR ?_
  intro pP e s m args below meth cC s₁ Bd hml0 hP hK
  obtain ⟨rfl, hZ, hh⟩ := hP
  have hx := Bd.exec
  have W := own_W hw
  have hby := Bd.bytes
  have hml : cC.maxLocals = 3 := hml0
  have hown : s.vm.findClass "java/lang/String" = some m.cls := findClass_of_methodNamed Bd.named
  have hnm := (name_of_methodNamed Bd.named Bd.method).1
  have X0 : Stand pP l e r_13 s m #[(.int o), (.int q), (.int n)] below meth cC s₁ [] 0 0 := Stand.of_body Bd
  have e0 : s₁.heap = h0 := by rw [← hh, Bd.state]; rfl
  have N0 := Fr.nil n0
  have KC0 : Keep h0 h0 [] := Keep.refl h0 _
  obtain ⟨A0, hA0⟩ : ∃ ζ, ζ = s₁.setTop (entryFrame m #[(.int o), (.int q), (.int n)] 3) := ⟨_, rfl⟩
  have pre0 : own_go pP e below A0 (s₁.setTop (mkF m 0 #[.val (.int o), .val (.int q), .val (.int n)] [])) := fun τ κ => by rw [hA0]; exact castTop (ef_rm_cbo m o q n) κ
  obtain ⟨T101, X101, e101, st101⟩ := getS2 X0 hx hZ hown (host := "") (Or.inl (W 112 rfl)) Via.refl e0 (O4.ext X00.2) (g := (mkF m 3 #[.val (.int o), .val (.int q), .val (.int n)] [(.int n), (.int q), (.int o)])) rfl (hb hby (own_d D_cbo 3 rfl))
  have pq102 : own_go pP e below A0 (T101.setTop (mkF m 6 #[.val (.int o), .val (.int q), .val (.int n)] [G3, (.int n), (.int q), (.int o)])) := by
    intro τ κ
    refine pre0 τ ?_
    refine XS.iloadN X0.here hx rfl (hb hby (own_d D_cbo 0 rfl)) rfl ?_
    refine XS.iloadN X0.here hx rfl (hb hby (own_d D_cbo 1 rfl)) rfl ?_
    refine XS.iloadN X0.here hx rfl (hb hby (own_d D_cbo 2 rfl)) rfl ?_
    refine st101 _ ?_
    exact κ
  obtain ⟨_, _, ⟨T103, L103, k103, n103⟩, -, X103, ⟨Lc103, hQ103, l103, y103, z103⟩, st103⟩ := Jvm.LawKit.callS X101 hx (y := y_20) hown (mvT hZ (W 141 rfl)) (mvT hZ (W 142 rfl)) (mvT hZ (W 113 rfl)) (mvT hZ (W 143 rfl)) (by decide) (backOf (W := 0) (rm_cfi l Z a0 hw [] o q n G3 h0 n0 Z0 rG3 h1 h2) hZ (W 143 rfl) (W 113 rfl) (by decide) (by decide)) (g := (mkF m 6 #[.val (.int o), .val (.int q), .val (.int n)] [G3, (.int n), (.int q), (.int o)])) rfl (by rw [hml]; rfl) (argsL := [(.int o), (.int q), (.int n), G3]) (rest := []) (lenOf pdo_12 rfl) rfl (Nat.le_of_eq rfl) (hb hby (own_d D_cbo 4 rfl)) (fun _ _ => ⟨rfl, e101, (by decide : 0 + 0 ≤ _), (by decide : 0 + 0 ≤ _)⟩)
  dsimp only [Pt.U, Pt.locs, Pt.cells, Pt.slots] at X103 l103 y103 z103 st103 hQ103
  subst l103 y103 z103
  obtain ⟨rfl, Nq103, eq103⟩ := hQ103
  have N103 := Fr.app N0 Nq103
  have pq104 : own_go pP e below A0 (T103.setTop (mkF m 9 #[.val (.int o), .val (.int q), .val (.int n)] [(.int o)])) := by
    intro τ κ
    refine pq102 τ ?_
    refine st103 _ ?_
    exact κ
  obtain ⟨fs, hrE, hrun, hended, hW, hsame⟩ := X103.leave (v := some (.int o)) (fun h => by rw [Bd.returns] at h; cases h)
  have pqE := pq104
  rw [hA0] at pqE
  refine ⟨_, _, pqE _ ?_, hrun, hended, _, _, rfl, ?_, ⟨_, rfl⟩, hW, hsame.mono (by decide) (by decide)⟩
  · show Steps pP.tables e below (T103.setTop (mkF m 9 #[.val (.int o), .val (.int q), .val (.int n)] [(.int o)])) _
    exact retOut X103 hx Bd.returns rfl (Or.inl ⟨rfl, Or.inl rfl, _, rfl⟩) (hb hby (own_d D_cbo 5 rfl)) hrE
  · show Q_cfi o h0 n0 _ T103.heap _
    rw [eq103]
    exact ⟨rfl, N103, rfl⟩
def Q_ul (k : Nat) (h0 : Heap) (n0 : Nat) (v : Option Value) (h : Heap) (L : List Loc) : Prop := v = some (.int (Int32.ofNat k)) ∧ Fr n0 L ∧ h = h0
theorem D_ul : ∀ q ∈ ([(0, .aload_n 0, 1), (1, .arraylength, 1), (2, .iconst 1, 1), (3, .ishr, 1), (4, .ireturn, 1)] : List (Nat × Instr × Nat)), decode jdk_52_method_6_code q.1 = .ok q.2 := by decide +kernel
theorem ef_rm_ul (m : MethodId) (x0 : Addr) : entryFrame m #[(.ref x0)] 1 = mkF m 0 #[.val (.ref x0)] [] := by first | (simp [entryFrame, mkF, argsToLocals, Value.category]; done) | rfl
theorem rm_ul (l : Launch) (Z : State) (a0 : Array Value) (hw : ∀ d ∈ tables_1, d.before a0 Z = true) (ws : List Jvm.Cond) (t : Addr) (kb : ClassId) (k : Nat) (vs : List Value) (h0 : Heap) (n0 : Nat) (Z0 : n0 ≤ h0.size) (V_t : Arv Z h0 t kb .byte (Int32.ofNat (2 * k)) vs (.int 0)) (hk : k < 100) :
    MetFree l y_22 (head1 (Jvm.Cond.code y_22 jdk_52_method_6_code 1 (some .int) :: ws) r_2) (fun αs U => αs = #[(.ref t)] ∧ Z.Warmed39 U.vm ∧ U.heap = h0) (fun _ _ _ _ _ => True) (fun _ Us oS Us' => ∃ vR LR, oS = .returned vR ∧ Q_ul k h0 n0 vR Us'.heap LR ∧ FrameEnd Us oS Us' LR r_2.cells r_2.slots) := by
  refine MetFree.of_bodySF (plainFor_of_name pno_2) hisR ?_
  intro pP e s m args below meth cC s₁ Bd hml0 hP hK
  obtain ⟨rfl, hZ, hh⟩ := hP
  have hx := Bd.exec
  have hby := Bd.bytes
  have hml : cC.maxLocals = 1 := hml0
  have hown : s.vm.findClass "java/lang/StringUTF16" = some m.cls := findClass_of_methodNamed Bd.named
  have hnm := (name_of_methodNamed Bd.named Bd.method).1
  have X0 : Stand pP l e r_2 s m #[(.ref t)] below meth cC s₁ [] 0 0 := Stand.of_body Bd
  have e0 : s₁.heap = h0 := by rw [← hh, Bd.state]; rfl
  have N0 := Fr.nil n0
  have KC0 : Keep h0 h0 [] := Keep.refl h0 _
  obtain ⟨A0, hA0⟩ : ∃ ζ, ζ = s₁.setTop (entryFrame m #[(.ref t)] 1) := ⟨_, rfl⟩
  have pre0 : own_go pP e below A0 (s₁.setTop (mkF m 0 #[.val (.ref t)] [])) := fun τ κ => by rw [hA0]; exact castTop (ef_rm_ul m t) κ
  obtain ⟨cl101, Ar101, q101, S101, M101, Hs101, G101⟩ := id V_t
  have pq102 : own_go pP e below A0 (s₁.setTop (mkF m 4 #[.val (.ref t)] [(.int ((Int32.ofNat (2 * k)) >>> ((1 : Int32) &&& 31)))])) := by
    intro τ κ
    refine pre0 τ ?_
    refine XS.aloadN X0.here hx rfl (hb hby (own_d D_ul 0 rfl)) rfl rfl ?_
    refine X0.arraylength hx (by rw [e0]; exact Ar101.1) (State.isArrayOf_alike hZ.alike Ar101.2.1) (g := (mkF m 1 #[.val (.ref t)] [(.ref t)])) rfl rfl (hb hby (own_d D_ul 1 rfl)) _ ?_
    rw [len_of S101 M101]
    refine XS.iconst X0.here hx rfl (hb hby (own_d D_ul 2 rfl)) ?_
    refine XS.ishr X0.here hx rfl (hb hby (own_d D_ul 3 rfl)) rfl ?_
    exact κ
  have pq103 : own_go pP e below A0 (s₁.setTop (mkF m 4 #[.val (.ref t)] [(.int (Int32.ofNat k))])) := by intro τ κ; refine pq102 τ ?_; rw [show ((Int32.ofNat (2 * k)) >>> ((1 : Int32) &&& 31)) = (Int32.ofNat k) from own_half hk]; exact κ
  obtain ⟨fs, hrE, hrun, hended, hW, hsame⟩ := X0.leave (v := some (.int (Int32.ofNat k))) (fun h => by rw [Bd.returns] at h; cases h)
  have pqE := pq103
  rw [hA0] at pqE
  refine ⟨_, _, pqE _ ?_, hrun, hended, _, _, rfl, ?_, ⟨_, rfl⟩, hW, hsame.mono (by decide) (by decide)⟩
  · show Steps pP.tables e below (s₁.setTop (mkF m 4 #[.val (.ref t)] [(.int (Int32.ofNat k))])) _
    exact retOut X0 hx Bd.returns rfl (Or.inl ⟨rfl, Or.inl rfl, _, rfl⟩) (hb hby (own_d D_ul 4 rfl)) hrE
  · show Q_ul k h0 n0 _ s₁.heap _
    rw [e0]
    exact ⟨rfl, N0, rfl⟩
def Q_uco (h0 : Heap) (n0 : Nat) (v : Option Value) (h : Heap) (L : List Loc) : Prop := v = none ∧ Fr n0 L ∧ h = h0
theorem D_uco : ∀ q ∈ ([(0, .iload_n 0, 1), (1, .iload_n 1, 1), (2, .aload_n 2, 1), (3, .invokestatic 48, 3), (6, .invokestatic 419, 3), (9, .pop, 1), (10, .return_, 1)] : List (Nat × Instr × Nat)), decode jdk_52_method_94_code q.1 = .ok q.2 := by decide +kernel
theorem ef_rm_uco (m : MethodId) (x0 : Int32) (x1 : Int32) (x2 : Addr) : entryFrame m #[(.int x0), (.int x1), (.ref x2)] 3 = mkF m 0 #[.val (.int x0), .val (.int x1), .val (.ref x2)] [] := by first | (simp [entryFrame, mkF, argsToLocals, Value.category]; done) | rfl
theorem rm_uco (l : Launch) (Z : State) (a0 : Array Value) (hw : ∀ d ∈ tables_1, d.before a0 Z = true) (ws : List Jvm.Cond) (o q : Nat) (t : Addr) (kb : ClassId) (k : Nat) (vs : List Value) (G3 : Value) (h0 : Heap) (n0 : Nat) (Z0 : n0 ≤ h0.size) (O4 : Sta Z Z.heap "jdk/internal/util/Preconditions" "SIOOBE_FORMATTER" "Ljava/util/function/BiFunction;" G3) (rG3 : G3.isRef = true) (X00 : Old Z n0 h0) (V_t : Arv Z h0 t kb .byte (Int32.ofNat (2 * k)) vs (.int 0)) (hk : k < 100) (hoq : o + q ≤ k) :
    MetFree l y_23 (head1 (Jvm.Cond.code y_23 jdk_52_method_94_code 3 none :: ws) r_14) (fun αs U => αs = #[(.int (Int32.ofNat o)), (.int (Int32.ofNat q)), (.ref t)] ∧ Z.Warmed39 U.vm ∧ U.heap = h0) (fun _ _ _ _ _ => True) (fun _ Us oS Us' => ∃ vR LR, oS = .returned vR ∧ Q_uco h0 n0 vR Us'.heap LR ∧ FrameEnd Us oS Us' LR r_14.cells r_14.slots) := by
  refine MetFree.of_bodySF (plainFor_of_name pno_2) hisR ?_
  intro pP e s m args below meth cC s₁ Bd hml0 hP hK
  obtain ⟨rfl, hZ, hh⟩ := hP
  have hx := Bd.exec
  have W := own_W hw
  have hby := Bd.bytes
  have hml : cC.maxLocals = 3 := hml0
  have hown : s.vm.findClass "java/lang/StringUTF16" = some m.cls := findClass_of_methodNamed Bd.named
  have hnm := (name_of_methodNamed Bd.named Bd.method).1
  have X0 : Stand pP l e r_14 s m #[(.int (Int32.ofNat o)), (.int (Int32.ofNat q)), (.ref t)] below meth cC s₁ [] 0 0 := Stand.of_body Bd
  have e0 : s₁.heap = h0 := by rw [← hh, Bd.state]; rfl
  have N0 := Fr.nil n0
  have KC0 : Keep h0 h0 [] := Keep.refl h0 _
  obtain ⟨A0, hA0⟩ : ∃ ζ, ζ = s₁.setTop (entryFrame m #[(.int (Int32.ofNat o)), (.int (Int32.ofNat q)), (.ref t)] 3) := ⟨_, rfl⟩
  have pre0 : own_go pP e below A0 (s₁.setTop (mkF m 0 #[.val (.int (Int32.ofNat o)), .val (.int (Int32.ofNat q)), .val (.ref t)] [])) := fun τ κ => by rw [hA0]; exact castTop (ef_rm_uco m (Int32.ofNat o) (Int32.ofNat q) t) κ
  obtain ⟨_, _, ⟨T101, L101, k101, n101⟩, -, X101, ⟨Lc101, hQ101, l101, y101, z101⟩, st101⟩ := Jvm.LawKit.callS X0 hx (y := y_22) hown (mvT hZ (W 135 rfl)) (mvT hZ (W 136 rfl)) (mvT hZ (W 39 rfl)) (mvT hZ (W 137 rfl)) (by decide) (backOf (W := 2) (rm_ul l Z a0 hw [] t kb k vs h0 n0 Z0 V_t hk) hZ (W 137 rfl) (W 39 rfl) (by decide) (by decide)) (g := (mkF m 3 #[.val (.int (Int32.ofNat o)), .val (.int (Int32.ofNat q)), .val (.ref t)] [(.ref t), (.int (Int32.ofNat q)), (.int (Int32.ofNat o))])) rfl (by rw [hml]; rfl) (argsL := [(.ref t)]) (rest := [(.int (Int32.ofNat q)), (.int (Int32.ofNat o))]) (lenOf pdo_13 rfl) rfl (Nat.le_of_eq rfl) (hb hby (own_d D_uco 3 rfl)) (fun _ _ => ⟨rfl, e0, (by decide : 0 + 0 ≤ _), (by decide : 0 + 0 ≤ _)⟩)
  dsimp only [Pt.U, Pt.locs, Pt.cells, Pt.slots] at X101 l101 y101 z101 st101 hQ101
  subst l101 y101 z101
  obtain ⟨rfl, Nq101, eq101⟩ := hQ101
  have N101 := Fr.app N0 Nq101
  have pq102 : own_go pP e below A0 (T101.setTop (mkF m 6 #[.val (.int (Int32.ofNat o)), .val (.int (Int32.ofNat q)), .val (.ref t)] [(.int (Int32.ofNat k)), (.int (Int32.ofNat q)), (.int (Int32.ofNat o))])) := by
    intro τ κ
    refine pre0 τ ?_
    refine XS.iloadN X0.here hx rfl (hb hby (own_d D_uco 0 rfl)) rfl ?_
    refine XS.iloadN X0.here hx rfl (hb hby (own_d D_uco 1 rfl)) rfl ?_
    refine XS.aloadN X0.here hx rfl (hb hby (own_d D_uco 2 rfl)) rfl rfl ?_
    refine st101 _ ?_
    exact κ
  obtain ⟨_, _, ⟨T103, L103, k103, n103⟩, -, X103, ⟨Lc103, hQ103, l103, y103, z103⟩, st103⟩ := Jvm.LawKit.callS X101 hx (y := y_21) hown (mvT hZ (W 138 rfl)) (mvT hZ (W 139 rfl)) (mvT hZ (W 13 rfl)) (mvT hZ (W 140 rfl)) (by decide) (backOf (W := 0) (rm_cbo l Z a0 hw [] (Int32.ofNat o) (Int32.ofNat q) (Int32.ofNat k) G3 h0 n0 Z0 O4 rG3 X00 (own_or3 (own_nn (by omega)) (own_nn (by omega)) (own_nn (by omega))) (own_szc hoq (by omega))) hZ (W 140 rfl) (W 13 rfl) (by decide) (by decide)) (g := (mkF m 6 #[.val (.int (Int32.ofNat o)), .val (.int (Int32.ofNat q)), .val (.ref t)] [(.int (Int32.ofNat k)), (.int (Int32.ofNat q)), (.int (Int32.ofNat o))])) rfl (by rw [hml]; rfl) (argsL := [(.int (Int32.ofNat o)), (.int (Int32.ofNat q)), (.int (Int32.ofNat k))]) (rest := []) (lenOf pdo_14 rfl) rfl (Nat.le_of_eq rfl) (hb hby (own_d D_uco 4 rfl)) (fun _ _ => ⟨rfl, eq101, (by decide : 0 + 0 ≤ _), (by decide : 0 + 0 ≤ _)⟩)
  dsimp only [Pt.U, Pt.locs, Pt.cells, Pt.slots] at X103 l103 y103 z103 st103 hQ103
  subst l103 y103 z103
  obtain ⟨rfl, Nq103, eq103⟩ := hQ103
  have N103 := Fr.app N101 Nq103
  have pq104 : own_go pP e below A0 (T103.setTop (mkF m 9 #[.val (.int (Int32.ofNat o)), .val (.int (Int32.ofNat q)), .val (.ref t)] [(.int (Int32.ofNat o))])) := by
    intro τ κ
    refine pq102 τ ?_
    refine st103 _ ?_
    exact κ
  obtain ⟨fs, hrE, hrun, hended, hW, hsame⟩ := X103.leave (v := none) (fun _ => rfl)
  have pqE := pq104
  rw [hA0] at pqE
  refine ⟨_, _, pqE _ ?_, hrun, hended, _, _, rfl, ?_, ⟨_, rfl⟩, hW, hsame.mono (by decide) (by decide)⟩
  · refine XS.pop X103.here hx rfl (hb hby (own_d D_uco 5 rfl)) rfl rfl ?_
    show Steps pP.tables e below (T103.setTop (mkF m 10 #[.val (.int (Int32.ofNat o)), .val (.int (Int32.ofNat q)), .val (.ref t)] [])) _
    exact X103.returnOut hx Bd.returns (hb hby (own_d D_uco 6 rfl)) hrE
  · show Q_uco h0 n0 _ T103.heap _
    rw [eq103]
    exact ⟨rfl, N103, rfl⟩
def Q_b5 (cs : List Int32) (d : Addr) (h0 : Heap) (n0 : Nat) (v : Option Value) (h : Heap) (L : List Loc) : Prop := ∃ j : Nat, v = some (.int (Int32.ofNat j)) ∧ j < 40 ∧ (255 : Int32) < cs.getD j 0 ∧ Fr n0 L ∧ Keep h0 h [d]
theorem D_b5 : ∀ q ∈ ([(0, .iload_n 1, 1), (1, .iload 4, 2), (3, .aload_n 0, 1), (4, .invokestatic 173, 3), (7, .iconst 0, 1), (8, .istore 5, 2), (10, .iload 5, 2), (12, .iload 4, 2), (14, .if_icmp .ge 39, 3), (17, .aload_n 0, 1), (18, .iload_n 1, 1), (19, .invokestatic 71, 3), (22, .istore 6, 2), (24, .iload 6, 2), (26, .sipush 255, 3), (29, .if_icmp .le 6, 3), (32, .iload 5, 2), (34, .ireturn, 1), (35, .aload_n 2, 1), (36, .iload_n 3, 1), (37, .iload 6, 2), (39, .i2b, 1), (40, .bastore, 1), (41, .iinc 1 1, 3), (44, .iinc 3 1, 3), (47, .iinc 5 1, 3), (50, .goto (-40), 3), (53, .iload 4, 2)] : List (Nat × Instr × Nat)), decode jdk_52_method_22_code q.1 = .ok q.2 := by decide +kernel
theorem ef_rm_b5 (m : MethodId) (x0 : Addr) (x1 : Int32) (x2 : Addr) (x3 : Int32) (x4 : Int32) : entryFrame m #[(.ref x0), (.int x1), (.ref x2), (.int x3), (.int x4)] 7 = mkF m 0 #[.val (.ref x0), .val (.int x1), .val (.ref x2), .val (.int x3), .val (.int x4), .unset, .unset] [] := by first | (simp [entryFrame, mkF, argsToLocals, Value.category]; done) | rfl
theorem rm_b5 (l : Launch) (Z : State) (a0 : Array Value) (hw : ∀ d ∈ tables_1, d.before a0 Z = true) (ws : List Jvm.Cond) (t d : Addr) (kb kd : ClassId) (cs : List Int32) (vs : List Value) (G3 : Value) (h0 : Heap) (n0 : Nat) (Z0 : n0 ≤ h0.size) (O4 : Sta Z Z.heap "jdk/internal/util/Preconditions" "SIOOBE_FORMATTER" "Ljava/util/function/BiFunction;" G3) (rG3 : G3.isRef = true) (OA : Sta Z Z.heap "java/lang/StringUTF16" "$assertionsDisabled" "Z" (.int 1)) (OH : Sta Z Z.heap "java/lang/StringUTF16" "HI_BYTE_SHIFT" "I" (.int 0)) (OL : Sta Z Z.heap "java/lang/StringUTF16" "LO_BYTE_SHIFT" "I" (.int 8)) (X00 : Old Z n0 h0) (V_t : Arv Z h0 t kb .byte (Int32.ofNat (2 * (cs).length)) vs (.int 0)) (hu : own_u16 vs cs) (hp : ∀ c ∈ cs, ¬ c < 0 ∧ ¬ (65535 : Int32) < c) (V_d : Arv Z h0 d kd .byte (40 : Int32) [] (.int 0)) (gd : n0 ≤ d) (htd : t ≠ d) (hbad : ∃ j, j < 40 ∧ (255 : Int32) < cs.getD j 0) (hn : 40 < (cs).length) (hl : (cs).length ≤ 45) :
    MetFree l y_24 (head1 (Jvm.Cond.code y_24 jdk_52_method_22_code 7 (some .int) :: ws) r_15) (fun αs U => αs = #[(.ref t), (.int (0 : Int32)), (.ref d), (.int (0 : Int32)), (.int (40 : Int32))] ∧ Z.Warmed39 U.vm ∧ U.heap = h0) (fun _ _ _ _ _ => True) (fun _ Us oS Us' => ∃ vR LR, oS = .returned vR ∧ Q_b5 cs d h0 n0 vR Us'.heap LR ∧ FrameEnd Us oS Us' LR r_15.cells r_15.slots) := by
  refine MetFree.of_bodySF (plainFor_of_name pno_2) hisR ?_
  intro pP e s m args below meth cC s₁ Bd hml0 hP hK
  obtain ⟨rfl, hZ, hh⟩ := hP
  have hx := Bd.exec
  have W := own_W hw
  have hby := Bd.bytes
  have hml : cC.maxLocals = 7 := hml0
  have hown : s.vm.findClass "java/lang/StringUTF16" = some m.cls := findClass_of_methodNamed Bd.named
  have hnm := (name_of_methodNamed Bd.named Bd.method).1
  have X0 : Stand pP l e r_15 s m #[(.ref t), (.int (0 : Int32)), (.ref d), (.int (0 : Int32)), (.int (40 : Int32))] below meth cC s₁ [] 0 0 := Stand.of_body Bd
  have e0 : s₁.heap = h0 := by rw [← hh, Bd.state]; rfl
  have N0 := Fr.nil n0
  have KC0 : Keep h0 h0 [d] := Keep.refl h0 _
  obtain ⟨A0, hA0⟩ : ∃ ζ, ζ = s₁.setTop (entryFrame m #[(.ref t), (.int (0 : Int32)), (.ref d), (.int (0 : Int32)), (.int (40 : Int32))] 7) := ⟨_, rfl⟩
  have pre0 : own_go pP e below A0 (s₁.setTop (mkF m 0 #[.val (.ref t), .val (.int (0 : Int32)), .val (.ref d), .val (.int (0 : Int32)), .val (.int (40 : Int32)), .unset, .unset] [])) := fun τ κ => by rw [hA0]; exact castTop (ef_rm_b5 m t (0 : Int32) d (0 : Int32) (40 : Int32)) κ
  obtain ⟨_, _, ⟨T101, L101, k101, n101⟩, -, X101, ⟨Lc101, hQ101, l101, y101, z101⟩, st101⟩ := Jvm.LawKit.callS X0 hx (y := y_23) hown (mvT hZ (W 132 rfl)) (mvT hZ (W 133 rfl)) (mvT hZ (W 39 rfl)) (mvT hZ (W 134 rfl)) (by decide) (backOf (W := 0) (rm_uco l Z a0 hw [] 0 40 t kb (cs).length vs G3 h0 n0 Z0 O4 rG3 X00 V_t (by omega) (by omega)) hZ (W 134 rfl) (W 39 rfl) (by decide) (by decide)) (g := (mkF m 4 #[.val (.ref t), .val (.int (0 : Int32)), .val (.ref d), .val (.int (0 : Int32)), .val (.int (40 : Int32)), .unset, .unset] [(.ref t), (.int (40 : Int32)), (.int (0 : Int32))])) rfl (by rw [hml]; rfl) (argsL := [(.int (0 : Int32)), (.int (40 : Int32)), (.ref t)]) (rest := []) (lenOf pdo_15 rfl) rfl (Nat.le_of_eq rfl) (hb hby (own_d D_b5 3 rfl)) (fun _ _ => ⟨rfl, e0, (by decide : 0 + 0 ≤ _), (by decide : 0 + 0 ≤ _)⟩)
  dsimp only [Pt.U, Pt.locs, Pt.cells, Pt.slots] at X101 l101 y101 z101 st101 hQ101
  subst l101 y101 z101
  obtain ⟨rfl, Nq101, eq101⟩ := hQ101
  have N101 := Fr.app N0 Nq101
  have pq102 : own_go pP e below A0 (T101.setTop (mkF m 7 #[.val (.ref t), .val (.int (0 : Int32)), .val (.ref d), .val (.int (0 : Int32)), .val (.int (40 : Int32)), .unset, .unset] [])) := by
    intro τ κ
    refine pre0 τ ?_
    refine XS.iloadN X0.here hx rfl (hb hby (own_d D_b5 0 rfl)) rfl ?_
    refine XS.iload X0.here hx rfl (hb hby (own_d D_b5 1 rfl)) rfl ?_
    refine XS.aloadN X0.here hx rfl (hb hby (own_d D_b5 2 rfl)) rfl rfl ?_
    refine st101 _ ?_
    exact κ
  have V103 : (∃ ws_ : List Value, 40 ≤ ws_.length ∧ Arv Z h0 d kd .byte (40 : Int32) ws_ (.int 0)) := ⟨[] ++ List.replicate 40 (Value.int 0), by simp, V_d.pad (pad_rep _ _ _)⟩
  have pq104 : own_go pP e below A0 (T101.setTop (mkF m 10 #[.val (.ref t), .val (.int (0 : Int32)), .val (.ref d), .val (.int (0 : Int32)), .val (.int (40 : Int32)), .val (.int (0 : Int32)), .unset] [])) := by
    intro τ κ
    refine pq102 τ ?_
    refine XS.iconst X101.here hx rfl (hb hby (own_d D_b5 4 rfl)) ?_
    refine XS.istore X101.here hx rfl (hb hby (own_d D_b5 5 rfl)) rfl (l' := #[.val (.ref t), .val (.int (0 : Int32)), .val (.ref d), .val (.int (0 : Int32)), .val (.int (40 : Int32)), .val (.int (0 : Int32)), .unset]) rfl ?_
    exact κ
  refine Classical.byContradiction fun hG => ?_
  have loop105 : ∀ (mm i : Nat), i + mm = 40 → ∀ (Tlp : State) (Llp : List Loc) (hlp : Heap), Stand pP l e r_15 s m #[(.ref t), (.int (0 : Int32)), (.ref d), (.int (0 : Int32)), (.int (40 : Int32))] below meth cC Tlp Llp 0 0 → Tlp.heap = hlp → Fr n0 Llp → Keep h0 hlp [d] → Old Z n0 hlp → Arv Z hlp t kb .byte (Int32.ofNat (2 * (cs).length)) vs (.int 0) → (∃ ws_ : List Value, 40 ≤ ws_.length ∧ Arv Z hlp d kd .byte (40 : Int32) ws_ (.int 0)) → (∀ j, j < i → ¬ (255 : Int32) < cs.getD j 0) → ∀ (sl6 : Slot), (sl6 = .unset ∨ ∃ w, sl6 = .val w ∧ w.category = 1) → (own_go pP e below A0 (Tlp.setTop (mkF m 10 #[.val (.ref t), .val (.int (Int32.ofNat i)), .val (.ref d), .val (.int (Int32.ofNat i)), .val (.int (40 : Int32)), .val (.int (Int32.ofNat i)), sl6] []))) → False := by
    intro mm
    induction mm with
    | zero =>
      intro i hi Tlp Llp hlp Xlp elp Nlp KClp Ol Vt Xd hm0 sl6 hsl6 pqlp
      obtain ⟨ws_, hws, Vd⟩ := Xd
      obtain ⟨j, hj, gj⟩ := hbad
      exact hm0 j (by omega) gj
    | succ mm ih =>
      intro i hi Tlp Llp hlp Xlp elp Nlp KClp Ol Vt Xd hm0 sl6 hsl6 pqlp
      obtain ⟨ws_, hws, Vd⟩ := Xd
      obtain ⟨_, _, ⟨T106, L106, k106, n106⟩, -, X106, ⟨Lc106, hQ106, l106, y106, z106⟩, st106⟩ := Jvm.LawKit.callS Xlp hx (y := y_9) hown (mvT hZ (W 60 rfl)) (mvT hZ (W 61 rfl)) (mvT hZ (W 39 rfl)) (mvT hZ (W 62 rfl)) (by decide) (backOf (W := 0) (rm_uget l Z a0 hw [] t kb cs vs i hlp n0 (Nat.le_trans Z0 KClp.1) OA OH OL Ol Vt hu hp hl (by omega)) hZ (W 62 rfl) (W 39 rfl) (by decide) (by decide)) (g := (mkF m 19 #[.val (.ref t), .val (.int (Int32.ofNat i)), .val (.ref d), .val (.int (Int32.ofNat i)), .val (.int (40 : Int32)), .val (.int (Int32.ofNat i)), sl6] [(.int (Int32.ofNat i)), (.ref t)])) rfl (by rw [hml]; rfl) (argsL := [(.ref t), (.int (Int32.ofNat i))]) (rest := []) (lenOf pdo_8 rfl) rfl (Nat.le_of_eq rfl) (hb hby (own_d D_b5 11 rfl)) (fun _ _ => ⟨rfl, elp, (by decide : 0 + 0 ≤ _), (by decide : 0 + 0 ≤ _)⟩)
      dsimp only [Pt.U, Pt.locs, Pt.cells, Pt.slots] at X106 l106 y106 z106 st106 hQ106
      subst l106 y106 z106
      obtain ⟨rfl, Nq106, eq106⟩ := hQ106
      have N106 := Fr.app Nlp Nq106
      have pq107 : own_go pP e below A0 (T106.setTop (mkF m 22 #[.val (.ref t), .val (.int (Int32.ofNat i)), .val (.ref d), .val (.int (Int32.ofNat i)), .val (.int (40 : Int32)), .val (.int (Int32.ofNat i)), sl6] [(.int (cs.getD i 0))])) := by
        intro τ κ
        refine pqlp τ ?_
        refine XS.iload Xlp.here hx rfl (hb hby (own_d D_b5 6 rfl)) rfl ?_
        refine XS.iload Xlp.here hx rfl (hb hby (own_d D_b5 7 rfl)) rfl ?_
        refine XS.icmpNo Xlp.here hx rfl (hb hby (own_d D_b5 8 rfl)) rfl (tlt ((own_ltN (b := 40) (by omega) (by omega)).mpr (by omega))).2.1 ?_
        refine XS.aloadN Xlp.here hx rfl (hb hby (own_d D_b5 9 rfl)) rfl rfl ?_
        refine XS.iloadN Xlp.here hx rfl (hb hby (own_d D_b5 10 rfl)) rfl ?_
        refine st106 _ ?_
        exact κ
      have pq108 : own_go pP e below A0 (T106.setTop (mkF m 29 #[.val (.ref t), .val (.int (Int32.ofNat i)), .val (.ref d), .val (.int (Int32.ofNat i)), .val (.int (40 : Int32)), .val (.int (Int32.ofNat i)), .val (.int (cs.getD i 0))] [(.int (255 : Int32)), (.int (cs.getD i 0))])) := by
        intro τ κ
        refine pq107 τ ?_
        refine XS.istore X106.here hx rfl (hb hby (own_d D_b5 12 rfl)) rfl (l' := #[.val (.ref t), .val (.int (Int32.ofNat i)), .val (.ref d), .val (.int (Int32.ofNat i)), .val (.int (40 : Int32)), .val (.int (Int32.ofNat i)), .val (.int (cs.getD i 0))]) (XS.store1 rfl hsl6 rfl) ?_
        refine XS.iload X106.here hx rfl (hb hby (own_d D_b5 13 rfl)) rfl ?_
        refine XS.sipush X106.here hx rfl (hb hby (own_d D_b5 14 rfl)) ?_
        exact κ
      by_cases hc29_109 : (255 : Int32) < (cs.getD i 0)
      · skip
        refine hG ?_
        obtain ⟨fs, hrE, hrun, hended, hW, hsame⟩ := X106.leave (v := some (.int (Int32.ofNat i))) (fun h => by rw [Bd.returns] at h; cases h)
        have pqE := pq108
        rw [hA0] at pqE
        refine ⟨_, _, pqE _ ?_, hrun, hended, _, _, rfl, ?_, ⟨_, rfl⟩, hW, hsame.mono (by decide) (by decide)⟩
        · refine XS.icmpNo X106.here hx rfl (hb hby (own_d D_b5 15 rfl)) rfl (tlt hc29_109).2.2.2 ?_
          refine XS.iload X106.here hx rfl (hb hby (own_d D_b5 16 rfl)) rfl ?_
          show Steps pP.tables e below (T106.setTop (mkF m 34 #[.val (.ref t), .val (.int (Int32.ofNat i)), .val (.ref d), .val (.int (Int32.ofNat i)), .val (.int (40 : Int32)), .val (.int (Int32.ofNat i)), .val (.int (cs.getD i 0))] [(.int (Int32.ofNat i))])) _
          exact retOut X106 hx Bd.returns rfl (Or.inl ⟨rfl, Or.inl rfl, _, rfl⟩) (hb hby (own_d D_b5 17 rfl)) hrE
        · show Q_b5 cs d h0 n0 _ T106.heap _
          rw [eq106]
          exact ⟨i, rfl, by omega, hc29_109, N106, KClp⟩
      · skip
        obtain ⟨cl110, Ar110, q110, S110, M110, Hs110, G110⟩ := id Vd
        obtain ⟨T110, h110, X110, e110, W110, st110⟩ := stB X106 hx hZ eq106 Ar110 (j := (Int32.ofNat i)) (inb_of S110 ⟨own_nn (by omega), (own_ltN (b := 40) (by omega) (by omega)).mpr (by omega)⟩) (g := (mkF m 40 #[.val (.ref t), .val (.int (Int32.ofNat i)), .val (.ref d), .val (.int (Int32.ofNat i)), .val (.int (40 : Int32)), .val (.int (Int32.ofNat i)), .val (.int (cs.getD i 0))] [(.int ((cs.getD i 0).toInt8.toInt32)), (.int (Int32.ofNat i)), (.ref d)])) rfl rfl (hb hby (own_d D_b5 22 rfl))
        have pq111 : own_go pP e below A0 (T110.setTop (mkF m 41 #[.val (.ref t), .val (.int (Int32.ofNat i)), .val (.ref d), .val (.int (Int32.ofNat i)), .val (.int (40 : Int32)), .val (.int (Int32.ofNat i)), .val (.int (cs.getD i 0))] [])) := by
          intro τ κ
          refine pq108 τ ?_
          refine XS.icmpYes X106.here hx rfl (pc0 := 29) (pc' := 35) rfl (hb hby (own_d D_b5 15 rfl)) rfl (flt hc29_109).2.2.2 (by decide) (by decide) ?_
          refine XS.aloadN X106.here hx rfl (hb hby (own_d D_b5 18 rfl)) rfl rfl ?_
          refine XS.iloadN X106.here hx rfl (hb hby (own_d D_b5 19 rfl)) rfl ?_
          refine XS.iload X106.here hx rfl (hb hby (own_d D_b5 20 rfl)) rfl ?_
          refine XS.i2b X106.here hx rfl (hb hby (own_d D_b5 21 rfl)) rfl ?_
          refine st110 _ ?_
          exact κ
        have KC110 := KClp.wr W110 (Or.inl (List.mem_of_getElem? (i := 0) rfl))
        have V110 : Arv Z h110 d kd .byte (40 : Int32) (ws_.set i (.int ((cs.getD i 0).toInt8.toInt32).toInt8.toInt32)) (.int 0) := Arv.set Ar110 q110 S110 M110 Hs110 G110 (fits_nar_byte _) W110 i (own_ofn (by omega)) (by omega)
        have N110 := Fr.snoc X110 N106 gd
        have V112 : (∃ ws_ : List Value, 40 ≤ ws_.length ∧ Arv Z h110 d kd .byte (40 : Int32) ws_ (.int 0)) := ⟨_, by rw [List.length_set]; exact hws, V110⟩
        have pq113 : own_go pP e below A0 (T110.setTop (mkF m 10 #[.val (.ref t), .val (.int ((Int32.ofNat i) + (1 : Int32))), .val (.ref d), .val (.int ((Int32.ofNat i) + (1 : Int32))), .val (.int (40 : Int32)), .val (.int ((Int32.ofNat i) + (1 : Int32))), .val (.int (cs.getD i 0))] [])) := by
          intro τ κ
          refine pq111 τ ?_
          refine XS.iinc X110.here hx rfl (hb hby (own_d D_b5 23 rfl)) rfl (l' := #[.val (.ref t), .val (.int ((Int32.ofNat i) + (1 : Int32))), .val (.ref d), .val (.int (Int32.ofNat i)), .val (.int (40 : Int32)), .val (.int (Int32.ofNat i)), .val (.int (cs.getD i 0))]) rfl ?_
          refine XS.iinc X110.here hx rfl (hb hby (own_d D_b5 24 rfl)) rfl (l' := #[.val (.ref t), .val (.int ((Int32.ofNat i) + (1 : Int32))), .val (.ref d), .val (.int ((Int32.ofNat i) + (1 : Int32))), .val (.int (40 : Int32)), .val (.int (Int32.ofNat i)), .val (.int (cs.getD i 0))]) rfl ?_
          refine XS.iinc X110.here hx rfl (hb hby (own_d D_b5 25 rfl)) rfl (l' := #[.val (.ref t), .val (.int ((Int32.ofNat i) + (1 : Int32))), .val (.ref d), .val (.int ((Int32.ofNat i) + (1 : Int32))), .val (.int (40 : Int32)), .val (.int ((Int32.ofNat i) + (1 : Int32))), .val (.int (cs.getD i 0))]) rfl ?_
          refine XS.goto X110.here hx rfl (pc0 := 50) (pc' := 10) rfl (hb hby (own_d D_b5 26 rfl)) (by decide) (by decide) ?_
          exact κ
        have f114 := (Ol.wr W110 gd)
        have f115 := (Vt.other W110 htd)
        exact ih (i + 1) (by omega) T110 _ h110 X110 e110 N110 KC110 f114 f115 V112 (fun j hj => by rcases Nat.lt_succ_iff_lt_or_eq.mp hj with q | q; exact hm0 j q; rw [q]; exact hc29_109) (.val (.int (cs.getD i 0))) (Or.inr ⟨_, rfl, rfl⟩) (fun τ κ => pq113 τ (by rw [show ((Int32.ofNat i) + (1 : Int32)) = (Int32.ofNat (i + 1)) from own_suc (by omega)]; exact κ))
  exact loop105 40 0 (by omega) T101 _ h0 X101 eq101 N101 KC0 X00 V_t V103 (fun j hj => absurd hj (Nat.not_lt_zero j)) .unset (Or.inl rfl) (fun τ κ => pq104 τ (by rw [show (0 : Int32) = (Int32.ofNat 0) from rfl]; exact κ))
def Q_chl (h0 : Heap) (n0 : Nat) (v : Option Value) (h : Heap) (L : List Loc) : Prop := v = none ∧ Fr n0 L ∧ h = h0
theorem D_chl : ∀ q ∈ ([(0, .iload_n 1, 1), (1, .iload_n 0, 1), (2, .if_icmp .ge 35, 3), (37, .return_, 1)] : List (Nat × Instr × Nat)), decode jdk_65_method_131_code q.1 = .ok q.2 := by decide +kernel
theorem ef_rm_chl (m : MethodId) (x0 : Int32) (x1 : Int32) : entryFrame m #[(.int x0), (.int x1)] 2 = mkF m 0 #[.val (.int x0), .val (.int x1)] [] := by first | (simp [entryFrame, mkF, argsToLocals, Value.category]; done) | rfl
theorem rm_chl (l : Launch) (Z : State) (a0 : Array Value) (hw : ∀ d ∈ tables_1, d.before a0 Z = true) (ws : List Jvm.Cond) (q : Int32) (h0 : Heap) (n0 : Nat) (Z0 : n0 ≤ h0.size) (hq : ¬ q < (0 : Int32)) :
    MetFree l y_25 (head1 (Jvm.Cond.code y_25 jdk_65_method_131_code 2 none :: ws) r_2) (fun αs U => αs = #[(.int (0 : Int32)), (.int q)] ∧ Z.Warmed39 U.vm ∧ U.heap = h0) (fun _ _ _ _ _ => True) (fun _ Us oS Us' => ∃ vR LR, oS = .returned vR ∧ Q_chl h0 n0 vR Us'.heap LR ∧ FrameEnd Us oS Us' LR r_2.cells r_2.slots) := by
  refine MetFree.of_bodySF (plainFor_of_name pno_5) hisR ?_
  intro pP e s m args below meth cC s₁ Bd hml0 hP hK
  obtain ⟨rfl, hZ, hh⟩ := hP
  have hx := Bd.exec
  have hby := Bd.bytes
  have hml : cC.maxLocals = 2 := hml0
  have hown : s.vm.findClass "java/util/Arrays" = some m.cls := findClass_of_methodNamed Bd.named
  have hnm := (name_of_methodNamed Bd.named Bd.method).1
  have X0 : Stand pP l e r_2 s m #[(.int (0 : Int32)), (.int q)] below meth cC s₁ [] 0 0 := Stand.of_body Bd
  have e0 : s₁.heap = h0 := by rw [← hh, Bd.state]; rfl
  have N0 := Fr.nil n0
  have KC0 : Keep h0 h0 [] := Keep.refl h0 _
  obtain ⟨A0, hA0⟩ : ∃ ζ, ζ = s₁.setTop (entryFrame m #[(.int (0 : Int32)), (.int q)] 2) := ⟨_, rfl⟩
  have pre0 : own_go pP e below A0 (s₁.setTop (mkF m 0 #[.val (.int (0 : Int32)), .val (.int q)] [])) := fun τ κ => by rw [hA0]; exact castTop (ef_rm_chl m (0 : Int32) q) κ
  obtain ⟨fs, hrE, hrun, hended, hW, hsame⟩ := X0.leave (v := none) (fun _ => rfl)
  have pqE := pre0
  rw [hA0] at pqE
  refine ⟨_, _, pqE _ ?_, hrun, hended, _, _, rfl, ?_, ⟨_, rfl⟩, hW, hsame.mono (by decide) (by decide)⟩
  · refine XS.iloadN X0.here hx rfl (hb hby (own_d D_chl 0 rfl)) rfl ?_
    refine XS.iloadN X0.here hx rfl (hb hby (own_d D_chl 1 rfl)) rfl ?_
    refine XS.icmpYes X0.here hx rfl (pc0 := 2) (pc' := 37) rfl (hb hby (own_d D_chl 2 rfl)) rfl (flt hq).2.1 (by decide) (by decide) ?_
    show Steps pP.tables e below (s₁.setTop (mkF m 37 #[.val (.int (0 : Int32)), .val (.int q)] [])) _
    exact X0.returnOut hx Bd.returns (hb hby (own_d D_chl 3 rfl)) hrE
  · show Q_chl h0 n0 _ s₁.heap _
    rw [e0]
    exact ⟨rfl, N0, rfl⟩
def Q_min (q : Int32) (h0 : Heap) (n0 : Nat) (v : Option Value) (h : Heap) (L : List Loc) : Prop := v = some (.int q) ∧ Fr n0 L ∧ h = h0
theorem D_min : ∀ q ∈ ([(0, .iload_n 0, 1), (1, .iload_n 1, 1), (2, .if_icmp .gt 7, 3), (9, .iload_n 1, 1), (10, .ireturn, 1)] : List (Nat × Instr × Nat)), decode jdk_29_method_69_code q.1 = .ok q.2 := by decide +kernel
theorem ef_rm_min (m : MethodId) (x0 : Int32) (x1 : Int32) : entryFrame m #[(.int x0), (.int x1)] 2 = mkF m 0 #[.val (.int x0), .val (.int x1)] [] := by first | (simp [entryFrame, mkF, argsToLocals, Value.category]; done) | rfl
theorem rm_min (l : Launch) (Z : State) (a0 : Array Value) (hw : ∀ d ∈ tables_1, d.before a0 Z = true) (ws : List Jvm.Cond) (z q : Int32) (h0 : Heap) (n0 : Nat) (Z0 : n0 ≤ h0.size) (hq : q < z) :
    MetFree l y_26 (head1 (Jvm.Cond.code y_26 jdk_29_method_69_code 2 (some .int) :: ws) r_2) (fun αs U => αs = #[(.int z), (.int q)] ∧ Z.Warmed39 U.vm ∧ U.heap = h0) (fun _ _ _ _ _ => True) (fun _ Us oS Us' => ∃ vR LR, oS = .returned vR ∧ Q_min q h0 n0 vR Us'.heap LR ∧ FrameEnd Us oS Us' LR r_2.cells r_2.slots) := by
  refine MetFree.of_bodySF (Jvm.Free.JP.mathPlain rfl (by decide +kernel)) hisR ?_
  intro pP e s m args below meth cC s₁ Bd hml0 hP hK
  obtain ⟨rfl, hZ, hh⟩ := hP
  have hx := Bd.exec
  have hby := Bd.bytes
  have hml : cC.maxLocals = 2 := hml0
  have hown : s.vm.findClass "java/lang/Math" = some m.cls := findClass_of_methodNamed Bd.named
  have hnm := (name_of_methodNamed Bd.named Bd.method).1
  have X0 : Stand pP l e r_2 s m #[(.int z), (.int q)] below meth cC s₁ [] 0 0 := Stand.of_body Bd
  have e0 : s₁.heap = h0 := by rw [← hh, Bd.state]; rfl
  have N0 := Fr.nil n0
  have KC0 : Keep h0 h0 [] := Keep.refl h0 _
  obtain ⟨A0, hA0⟩ : ∃ ζ, ζ = s₁.setTop (entryFrame m #[(.int z), (.int q)] 2) := ⟨_, rfl⟩
  have pre0 : own_go pP e below A0 (s₁.setTop (mkF m 0 #[.val (.int z), .val (.int q)] [])) := fun τ κ => by rw [hA0]; exact castTop (ef_rm_min m z q) κ
  obtain ⟨fs, hrE, hrun, hended, hW, hsame⟩ := X0.leave (v := some (.int q)) (fun h => by rw [Bd.returns] at h; cases h)
  have pqE := pre0
  rw [hA0] at pqE
  refine ⟨_, _, pqE _ ?_, hrun, hended, _, _, rfl, ?_, ⟨_, rfl⟩, hW, hsame.mono (by decide) (by decide)⟩
  · refine XS.iloadN X0.here hx rfl (hb hby (own_d D_min 0 rfl)) rfl ?_
    refine XS.iloadN X0.here hx rfl (hb hby (own_d D_min 1 rfl)) rfl ?_
    refine XS.icmpYes X0.here hx rfl (pc0 := 2) (pc' := 9) rfl (hb hby (own_d D_min 2 rfl)) rfl (tlt hq).2.2.1 (by decide) (by decide) ?_
    refine XS.iloadN X0.here hx rfl (hb hby (own_d D_min 3 rfl)) rfl ?_
    show Steps pP.tables e below (s₁.setTop (mkF m 10 #[.val (.int z), .val (.int q)] [(.int q)])) _
    exact retOut X0 hx Bd.returns rfl (Or.inl ⟨rfl, Or.inl rfl, _, rfl⟩) (hb hby (own_d D_min 4 rfl)) hrE
  · show Q_min q h0 n0 _ s₁.heap _
    rw [e0]
    exact ⟨rfl, N0, rfl⟩
theorem D_miz : ∀ q ∈ ([(0, .iload_n 0, 1), (1, .iload_n 1, 1), (2, .if_icmp .gt 7, 3), (5, .iload_n 0, 1), (6, .goto 4, 3), (10, .ireturn, 1)] : List (Nat × Instr × Nat)), decode jdk_29_method_69_code q.1 = .ok q.2 := by decide +kernel
theorem ef_rm_miz (m : MethodId) (x0 : Int32) (x1 : Int32) : entryFrame m #[(.int x0), (.int x1)] 2 = mkF m 0 #[.val (.int x0), .val (.int x1)] [] := by first | (simp [entryFrame, mkF, argsToLocals, Value.category]; done) | rfl
theorem rm_miz (l : Launch) (Z : State) (a0 : Array Value) (hw : ∀ d ∈ tables_1, d.before a0 Z = true) (ws : List Jvm.Cond) (z q : Int32) (h0 : Heap) (n0 : Nat) (Z0 : n0 ≤ h0.size) (hq : ¬ q < z) :
    MetFree l y_26 (head1 (Jvm.Cond.code y_26 jdk_29_method_69_code 2 (some .int) :: ws) r_2) (fun αs U => αs = #[(.int z), (.int q)] ∧ Z.Warmed39 U.vm ∧ U.heap = h0) (fun _ _ _ _ _ => True) (fun _ Us oS Us' => ∃ vR LR, oS = .returned vR ∧ Q_min z h0 n0 vR Us'.heap LR ∧ FrameEnd Us oS Us' LR r_2.cells r_2.slots) := by
  refine MetFree.of_bodySF (Jvm.Free.JP.mathPlain rfl (by decide +kernel)) hisR ?_
  intro pP e s m args below meth cC s₁ Bd hml0 hP hK
  obtain ⟨rfl, hZ, hh⟩ := hP
  have hx := Bd.exec
  have hby := Bd.bytes
  have hml : cC.maxLocals = 2 := hml0
  have hown : s.vm.findClass "java/lang/Math" = some m.cls := findClass_of_methodNamed Bd.named
  have hnm := (name_of_methodNamed Bd.named Bd.method).1
  have X0 : Stand pP l e r_2 s m #[(.int z), (.int q)] below meth cC s₁ [] 0 0 := Stand.of_body Bd
  have e0 : s₁.heap = h0 := by rw [← hh, Bd.state]; rfl
  have N0 := Fr.nil n0
  have KC0 : Keep h0 h0 [] := Keep.refl h0 _
  obtain ⟨A0, hA0⟩ : ∃ ζ, ζ = s₁.setTop (entryFrame m #[(.int z), (.int q)] 2) := ⟨_, rfl⟩
  have pre0 : own_go pP e below A0 (s₁.setTop (mkF m 0 #[.val (.int z), .val (.int q)] [])) := fun τ κ => by rw [hA0]; exact castTop (ef_rm_miz m z q) κ
  obtain ⟨fs, hrE, hrun, hended, hW, hsame⟩ := X0.leave (v := some (.int z)) (fun h => by rw [Bd.returns] at h; cases h)
  have pqE := pre0
  rw [hA0] at pqE
  refine ⟨_, _, pqE _ ?_, hrun, hended, _, _, rfl, ?_, ⟨_, rfl⟩, hW, hsame.mono (by decide) (by decide)⟩
  · refine XS.iloadN X0.here hx rfl (hb hby (own_d D_miz 0 rfl)) rfl ?_
    refine XS.iloadN X0.here hx rfl (hb hby (own_d D_miz 1 rfl)) rfl ?_
    refine XS.icmpNo X0.here hx rfl (hb hby (own_d D_miz 2 rfl)) rfl (flt hq).2.2.1 ?_
    refine XS.iloadN X0.here hx rfl (hb hby (own_d D_miz 3 rfl)) rfl ?_
    refine XS.goto X0.here hx rfl (pc0 := 6) (pc' := 10) rfl (hb hby (own_d D_miz 4 rfl)) (by decide) (by decide) ?_
    show Steps pP.tables e below (s₁.setTop (mkF m 10 #[.val (.int z), .val (.int q)] [(.int z)])) _
    exact retOut X0 hx Bd.returns rfl (Or.inl ⟨rfl, Or.inl rfl, _, rfl⟩) (hb hby (own_d D_miz 5 rfl)) hrE
  · show Q_min z h0 n0 _ s₁.heap _
    rw [e0]
    exact ⟨rfl, N0, rfl⟩
def Q_cor (Z : State) (M m : Nat) (vs : List Value) (h0 : Heap) (n0 : Nat) (v : Option Value) (h : Heap) (L : List Loc) : Prop := ∃ (b : Addr) (k : ClassId), v = some (.ref b) ∧ Fr n0 L ∧ Keep h0 h [] ∧ h0.size ≤ b ∧ Arv Z h b k .byte (Int32.ofNat M) (own_cp vs m) (.int 0)
theorem D_crb : ∀ q ∈ ([(0, .iload_n 1, 1), (1, .iload_n 2, 1), (2, .invokestatic 343, 3), (5, .iload_n 2, 1), (6, .iload_n 1, 1), (7, .isub, 1), (8, .istore_n 3, 1), (9, .iload_n 3, 1), (10, .newarray .byte, 2), (12, .astore 4, 2), (14, .aload_n 0, 1), (15, .iload_n 1, 1), (16, .aload 4, 2), (18, .iconst 0, 1), (19, .aload_n 0, 1), (20, .arraylength, 1), (21, .iload_n 1, 1), (22, .isub, 1), (23, .iload_n 3, 1), (24, .invokestatic 304, 3), (27, .invokestatic 150, 3), (30, .aload 4, 2), (32, .areturn, 1)] : List (Nat × Instr × Nat)), decode jdk_65_method_133_code q.1 = .ok q.2 := by decide +kernel
theorem ef_rm_crb (m : MethodId) (x0 : Addr) (x1 : Int32) (x2 : Int32) : entryFrame m #[(.ref x0), (.int x1), (.int x2)] 5 = mkF m 0 #[.val (.ref x0), .val (.int x1), .val (.int x2), .unset, .unset] [] := by first | (simp [entryFrame, mkF, argsToLocals, Value.category]; done) | rfl
theorem rm_crb (l : Launch) (Z : State) (a0 : Array Value) (hw : ∀ d ∈ tables_1, d.before a0 Z = true) (ws : List Jvm.Cond) (t : Addr) (kb : ClassId) (k M : Nat) (vs : List Value) (h0 : Heap) (n0 : Nat) (Z0 : n0 ≤ h0.size) (V_t : Arv Z h0 t kb .byte (Int32.ofNat k) vs (.int 0)) (hk : k < 400) (hM : M < k) :
    MetFree l y_27 (head1 (Jvm.Cond.code y_27 jdk_65_method_133_code 5 (some (.array .byte)) :: ws) r_16) (fun αs U => αs = #[(.ref t), (.int (0 : Int32)), (.int (Int32.ofNat M))] ∧ Z.Warmed39 U.vm ∧ U.heap = h0) (fun _ _ _ _ _ => True) (fun _ Us oS Us' => ∃ vR LR, oS = .returned vR ∧ Q_cor Z M M vs h0 n0 vR Us'.heap LR ∧ FrameEnd Us oS Us' LR r_16.cells r_16.slots) := by
  refine MetFree.of_bodySF (plainFor_of_name pno_5) hisR ?_
  intro pP e s m args below meth cC s₁ Bd hml0 hP hK
  obtain ⟨rfl, hZ, hh⟩ := hP
  have hx := Bd.exec
  have W := own_W hw
  have hby := Bd.bytes
  have hml : cC.maxLocals = 5 := hml0
  have hown : s.vm.findClass "java/util/Arrays" = some m.cls := findClass_of_methodNamed Bd.named
  have hnm := (name_of_methodNamed Bd.named Bd.method).1
  have X0 : Stand pP l e r_16 s m #[(.ref t), (.int (0 : Int32)), (.int (Int32.ofNat M))] below meth cC s₁ [] 0 0 := Stand.of_body Bd
  have e0 : s₁.heap = h0 := by rw [← hh, Bd.state]; rfl
  have N0 := Fr.nil n0
  have KC0 : Keep h0 h0 [] := Keep.refl h0 _
  obtain ⟨A0, hA0⟩ : ∃ ζ, ζ = s₁.setTop (entryFrame m #[(.ref t), (.int (0 : Int32)), (.int (Int32.ofNat M))] 5) := ⟨_, rfl⟩
  have pre0 : own_go pP e below A0 (s₁.setTop (mkF m 0 #[.val (.ref t), .val (.int (0 : Int32)), .val (.int (Int32.ofNat M)), .unset, .unset] [])) := fun τ κ => by rw [hA0]; exact castTop (ef_rm_crb m t (0 : Int32) (Int32.ofNat M)) κ
  obtain ⟨_, _, ⟨T101, L101, k101, n101⟩, -, X101, ⟨Lc101, hQ101, l101, y101, z101⟩, st101⟩ := Jvm.LawKit.callS X0 hx (y := y_25) hown (mvT hZ (W 151 rfl)) (mvT hZ (W 152 rfl)) (mvT hZ (W 146 rfl)) (mvT hZ (W 153 rfl)) (by decide) (backOf (W := 0) (rm_chl l Z a0 hw [] (Int32.ofNat M) h0 n0 Z0 (own_nn (by omega))) hZ (W 153 rfl) (W 146 rfl) (by decide) (by decide)) (g := (mkF m 2 #[.val (.ref t), .val (.int (0 : Int32)), .val (.int (Int32.ofNat M)), .unset, .unset] [(.int (Int32.ofNat M)), (.int (0 : Int32))])) rfl (by rw [hml]; rfl) (argsL := [(.int (0 : Int32)), (.int (Int32.ofNat M))]) (rest := []) (lenOf pdo_16 rfl) rfl (Nat.le_of_eq rfl) (hb hby (own_d D_crb 2 rfl)) (fun _ _ => ⟨rfl, e0, (by decide : 0 + 0 ≤ _), (by decide : 0 + 0 ≤ _)⟩)
  dsimp only [Pt.U, Pt.locs, Pt.cells, Pt.slots] at X101 l101 y101 z101 st101 hQ101
  subst l101 y101 z101
  obtain ⟨rfl, Nq101, eq101⟩ := hQ101
  have N101 := Fr.app N0 Nq101
  have pq102 : own_go pP e below A0 (T101.setTop (mkF m 5 #[.val (.ref t), .val (.int (0 : Int32)), .val (.int (Int32.ofNat M)), .unset, .unset] [])) := by
    intro τ κ
    refine pre0 τ ?_
    refine XS.iloadN X0.here hx rfl (hb hby (own_d D_crb 0 rfl)) rfl ?_
    refine XS.iloadN X0.here hx rfl (hb hby (own_d D_crb 1 rfl)) rfl ?_
    refine st101 _ ?_
    exact κ
  have pq103 : own_go pP e below A0 (T101.setTop (mkF m 8 #[.val (.ref t), .val (.int (0 : Int32)), .val (.int (Int32.ofNat M)), .unset, .unset] [(.int ((Int32.ofNat M) - (0 : Int32)))])) := by
    intro τ κ
    refine pq102 τ ?_
    refine XS.iloadN X101.here hx rfl (hb hby (own_d D_crb 3 rfl)) rfl ?_
    refine XS.iloadN X101.here hx rfl (hb hby (own_d D_crb 4 rfl)) rfl ?_
    refine XS.isub X101.here hx rfl (hb hby (own_d D_crb 5 rfl)) rfl ?_
    exact κ
  have pq104 : own_go pP e below A0 (T101.setTop (mkF m 8 #[.val (.ref t), .val (.int (0 : Int32)), .val (.int (Int32.ofNat M)), .unset, .unset] [(.int (Int32.ofNat M))])) := by intro τ κ; refine pq103 τ ?_; rw [show ((Int32.ofNat M) - (0 : Int32)) = (Int32.ofNat M) from own_sub0 _]; exact κ
  obtain ⟨T105, h105, k105, X105, e105, E105, A105, st105⟩ := newP X101 hx hZ (W 25 rfl) eq101 (g := (mkF m 10 #[.val (.ref t), .val (.int (0 : Int32)), .val (.int (Int32.ofNat M)), .val (.int (Int32.ofNat M)), .unset] [(.int (Int32.ofNat M))])) rfl (hb hby (own_d D_crb 8 rfl)) rfl (own_nn (by omega)) (cap := 400) (by rw [own_ofn (by omega)]; omega) (by decide) (by decide) (by decide)
  obtain ⟨b105, g105⟩ : ∃ z, z = h0.size := ⟨_, rfl⟩
  rw [← g105] at A105 st105
  have pq106 : own_go pP e below A0 (T105.setTop (mkF m 12 #[.val (.ref t), .val (.int (0 : Int32)), .val (.int (Int32.ofNat M)), .val (.int (Int32.ofNat M)), .unset] [(.ref b105)])) := by
    intro τ κ
    refine pq104 τ ?_
    refine XS.istoreN X101.here hx rfl (hb hby (own_d D_crb 6 rfl)) rfl (l' := #[.val (.ref t), .val (.int (0 : Int32)), .val (.int (Int32.ofNat M)), .val (.int (Int32.ofNat M)), .unset]) rfl ?_
    refine XS.iloadN X101.here hx rfl (hb hby (own_d D_crb 7 rfl)) rfl ?_
    refine st105 _ ?_
    exact κ
  have KC105 := KC0.ext E105
  have V105 : Arv Z h105 b105 k105 .byte (Int32.ofNat M) [] (.int (0 : Int32)) := Arv.new A105 (own_nn (by omega))
  have f107 := (V_t.ext E105)
  obtain ⟨cl108, Ar108, q108, S108, M108, Hs108, G108⟩ := id f107
  have pq109 : own_go pP e below A0 (T105.setTop (mkF m 23 #[.val (.ref t), .val (.int (0 : Int32)), .val (.int (Int32.ofNat M)), .val (.int (Int32.ofNat M)), .val (.ref b105)] [(.int ((Int32.ofNat k) - (0 : Int32))), (.int (0 : Int32)), (.ref b105), (.int (0 : Int32)), (.ref t)])) := by
    intro τ κ
    refine pq106 τ ?_
    refine XS.astore X105.here hx rfl (hb hby (own_d D_crb 9 rfl)) rfl rfl (l' := #[.val (.ref t), .val (.int (0 : Int32)), .val (.int (Int32.ofNat M)), .val (.int (Int32.ofNat M)), .val (.ref b105)]) rfl ?_
    refine XS.aloadN X105.here hx rfl (hb hby (own_d D_crb 10 rfl)) rfl rfl ?_
    refine XS.iloadN X105.here hx rfl (hb hby (own_d D_crb 11 rfl)) rfl ?_
    refine XS.aload X105.here hx rfl (hb hby (own_d D_crb 12 rfl)) rfl rfl ?_
    refine XS.iconst X105.here hx rfl (hb hby (own_d D_crb 13 rfl)) ?_
    refine XS.aloadN X105.here hx rfl (hb hby (own_d D_crb 14 rfl)) rfl rfl ?_
    refine X105.arraylength hx (by rw [e105]; exact Ar108.1) (State.isArrayOf_alike hZ.alike Ar108.2.1) (g := (mkF m 20 #[.val (.ref t), .val (.int (0 : Int32)), .val (.int (Int32.ofNat M)), .val (.int (Int32.ofNat M)), .val (.ref b105)] [(.ref t), (.int (0 : Int32)), (.ref b105), (.int (0 : Int32)), (.ref t)])) rfl rfl (hb hby (own_d D_crb 15 rfl)) _ ?_
    rw [len_of S108 M108]
    refine XS.iloadN X105.here hx rfl (hb hby (own_d D_crb 16 rfl)) rfl ?_
    refine XS.isub X105.here hx rfl (hb hby (own_d D_crb 17 rfl)) rfl ?_
    exact κ
  have pq110 : own_go pP e below A0 (T105.setTop (mkF m 23 #[.val (.ref t), .val (.int (0 : Int32)), .val (.int (Int32.ofNat M)), .val (.int (Int32.ofNat M)), .val (.ref b105)] [(.int (Int32.ofNat k)), (.int (0 : Int32)), (.ref b105), (.int (0 : Int32)), (.ref t)])) := by intro τ κ; refine pq109 τ ?_; rw [show ((Int32.ofNat k) - (0 : Int32)) = (Int32.ofNat k) from own_sub0 _]; exact κ
  have f111 := (Nat.le_trans Z0 E105.1)
  obtain ⟨_, _, ⟨T112, L112, k112, n112⟩, -, X112, ⟨Lc112, hQ112, l112, y112, z112⟩, st112⟩ := Jvm.LawKit.callS X105 hx (y := y_26) hown (mvT hZ (W 154 rfl)) (mvT hZ (W 155 rfl)) (mvT hZ (W 156 rfl)) (mvT hZ (W 157 rfl)) (by decide) (backOf (W := 4) (rm_min l Z a0 hw [] (Int32.ofNat k) (Int32.ofNat M) h105 n0 f111 ((own_ltN (by omega) (by omega)).mpr hM)) hZ (W 157 rfl) (W 156 rfl) (by decide) (by decide)) (g := (mkF m 24 #[.val (.ref t), .val (.int (0 : Int32)), .val (.int (Int32.ofNat M)), .val (.int (Int32.ofNat M)), .val (.ref b105)] [(.int (Int32.ofNat M)), (.int (Int32.ofNat k)), (.int (0 : Int32)), (.ref b105), (.int (0 : Int32)), (.ref t)])) rfl (by rw [hml]; rfl) (argsL := [(.int (Int32.ofNat k)), (.int (Int32.ofNat M))]) (rest := [(.int (0 : Int32)), (.ref b105), (.int (0 : Int32)), (.ref t)]) (lenOf pdo_17 rfl) rfl (Nat.le_of_eq rfl) (hb hby (own_d D_crb 19 rfl)) (fun _ _ => ⟨rfl, e105, (by decide : 1 + 0 ≤ _), (by decide : 400 + 0 ≤ _)⟩)
  dsimp only [Pt.U, Pt.locs, Pt.cells, Pt.slots] at X112 l112 y112 z112 st112 hQ112
  subst l112 y112 z112
  obtain ⟨rfl, Nq112, eq112⟩ := hQ112
  have N112 := Fr.app N101 Nq112
  have pq113 : own_go pP e below A0 (T112.setTop (mkF m 27 #[.val (.ref t), .val (.int (0 : Int32)), .val (.int (Int32.ofNat M)), .val (.int (Int32.ofNat M)), .val (.ref b105)] [(.int (Int32.ofNat M)), (.int (0 : Int32)), (.ref b105), (.int (0 : Int32)), (.ref t)])) := by
    intro τ κ
    refine pq110 τ ?_
    refine XS.iloadN X105.here hx rfl (hb hby (own_d D_crb 18 rfl)) rfl ?_
    refine st112 _ ?_
    exact κ
  obtain ⟨T114, h114, L114, X114, e114, N114, K114, V114a, st114⟩ := cpA X112 hx hZ hown (W 158 rfl) (W 161 rfl) (W 159 rfl) (W 160 rfl) eq112 f107 (V105.pad (pad_rep [] (.int 0) (M))) (Or.inl ⟨rfl, rfl⟩) (by decide) (by decide) (own_nn (by omega)) (own_le0 (by omega) (by omega) (by omega)) (own_le0 (by omega) (by omega) (by omega)) rfl (own_le1 (by omega) (by omega)) N112 (Nat.le_trans Z0 (Nat.le_of_eq g105.symm)) (g := (mkF m 27 #[.val (.ref t), .val (.int (0 : Int32)), .val (.int (Int32.ofNat M)), .val (.int (Int32.ofNat M)), .val (.ref b105)] [(.int (Int32.ofNat M)), (.int (0 : Int32)), (.ref b105), (.int (0 : Int32)), (.ref t)])) rfl (by rw [hml]; rfl) rfl (hb hby (own_d D_crb 20 rfl)) (by decide) (W := 0) (Nat.le_of_eq rfl) (by decide)
  have pq115 : own_go pP e below A0 (T114.setTop (mkF m 30 #[.val (.ref t), .val (.int (0 : Int32)), .val (.int (Int32.ofNat M)), .val (.int (Int32.ofNat M)), .val (.ref b105)] [])) := by
    intro τ κ
    refine pq113 τ ?_
    refine st114 _ ?_
    exact κ
  have KC114 := KC105.trans K114 (allS (Or.inr (Nat.le_trans (Nat.le_refl _) (Nat.le_of_eq g105.symm))) all0)
  have V114 : Arv Z h114 b105 k105 .byte (Int32.ofNat M) (own_cp vs (M)) (.int 0) := own_cp0 (by omega) V114a
  obtain ⟨fs, hrE, hrun, hended, hW, hsame⟩ := X114.leave (v := some (.ref b105)) (fun h => by rw [Bd.returns] at h; cases h)
  have pqE := pq115
  rw [hA0] at pqE
  refine ⟨_, _, pqE _ ?_, hrun, hended, _, _, rfl, ?_, ⟨_, rfl⟩, hW, hsame.mono (by decide) (by decide)⟩
  · refine XS.aload X114.here hx rfl (hb hby (own_d D_crb 21 rfl)) rfl rfl ?_
    show Steps pP.tables e below (T114.setTop (mkF m 32 #[.val (.ref t), .val (.int (0 : Int32)), .val (.int (Int32.ofNat M)), .val (.int (Int32.ofNat M)), .val (.ref b105)] [(.ref b105)])) _
    exact retOut X114 hx Bd.returns rfl (Or.inr (Or.inr (Or.inr (Or.inr ⟨rfl, rfl, rfl⟩)))) (hb hby (own_d D_crb 22 rfl)) hrE
  · show Q_cor Z M M vs h0 n0 _ T114.heap _
    rw [e114]
    exact ⟨b105, _, rfl, N114, KC114, (Nat.le_trans (Nat.le_refl _) (Nat.le_of_eq g105.symm)), V114⟩
theorem D_cor : ∀ q ∈ ([(0, .iload_n 1, 1), (1, .ifCond .ne 9, 3), (4, .iload_n 2, 1), (5, .aload_n 0, 1), (6, .arraylength, 1), (7, .if_icmp .eq 10, 3), (10, .aload_n 0, 1), (11, .iload_n 1, 1), (12, .iload_n 2, 1), (13, .invokestatic 339, 3), (16, .areturn, 1)] : List (Nat × Instr × Nat)), decode jdk_65_method_132_code q.1 = .ok q.2 := by decide +kernel
theorem ef_rm_cor (m : MethodId) (x0 : Addr) (x1 : Int32) (x2 : Int32) : entryFrame m #[(.ref x0), (.int x1), (.int x2)] 3 = mkF m 0 #[.val (.ref x0), .val (.int x1), .val (.int x2)] [] := by first | (simp [entryFrame, mkF, argsToLocals, Value.category]; done) | rfl
theorem rm_cor (l : Launch) (Z : State) (a0 : Array Value) (hw : ∀ d ∈ tables_1, d.before a0 Z = true) (ws : List Jvm.Cond) (t : Addr) (kb : ClassId) (k M : Nat) (vs : List Value) (h0 : Heap) (n0 : Nat) (Z0 : n0 ≤ h0.size) (V_t : Arv Z h0 t kb .byte (Int32.ofNat k) vs (.int 0)) (hk : k < 400) (hM : M < k) :
    MetFree l y_28 (head1 (Jvm.Cond.code y_28 jdk_65_method_132_code 3 (some (.array .byte)) :: ws) r_17) (fun αs U => αs = #[(.ref t), (.int (0 : Int32)), (.int (Int32.ofNat M))] ∧ Z.Warmed39 U.vm ∧ U.heap = h0) (fun _ _ _ _ _ => True) (fun _ Us oS Us' => ∃ vR LR, oS = .returned vR ∧ Q_cor Z M M vs h0 n0 vR Us'.heap LR ∧ FrameEnd Us oS Us' LR r_17.cells r_17.slots) := by
  refine MetFree.of_bodySF (plainFor_of_name pno_5) hisR ?_
  intro pP e s m args below meth cC s₁ Bd hml0 hP hK
  obtain ⟨rfl, hZ, hh⟩ := hP
  have hx := Bd.exec
  have W := own_W hw
  have hby := Bd.bytes
  have hml : cC.maxLocals = 3 := hml0
  have hown : s.vm.findClass "java/util/Arrays" = some m.cls := findClass_of_methodNamed Bd.named
  have hnm := (name_of_methodNamed Bd.named Bd.method).1
  have X0 : Stand pP l e r_17 s m #[(.ref t), (.int (0 : Int32)), (.int (Int32.ofNat M))] below meth cC s₁ [] 0 0 := Stand.of_body Bd
  have e0 : s₁.heap = h0 := by rw [← hh, Bd.state]; rfl
  have N0 := Fr.nil n0
  have KC0 : Keep h0 h0 [] := Keep.refl h0 _
  obtain ⟨A0, hA0⟩ : ∃ ζ, ζ = s₁.setTop (entryFrame m #[(.ref t), (.int (0 : Int32)), (.int (Int32.ofNat M))] 3) := ⟨_, rfl⟩
  have pre0 : own_go pP e below A0 (s₁.setTop (mkF m 0 #[.val (.ref t), .val (.int (0 : Int32)), .val (.int (Int32.ofNat M))] [])) := fun τ κ => by rw [hA0]; exact castTop (ef_rm_cor m t (0 : Int32) (Int32.ofNat M)) κ
  obtain ⟨cl101, Ar101, q101, S101, M101, Hs101, G101⟩ := id V_t
  obtain ⟨_, _, ⟨T102, L102, k102, n102⟩, -, X102, ⟨Lc102, hQ102, l102, y102, z102⟩, st102⟩ := Jvm.LawKit.callS X0 hx (y := y_27) hown (mvT hZ (W 148 rfl)) (mvT hZ (W 149 rfl)) (mvT hZ (W 146 rfl)) (mvT hZ (W 150 rfl)) (by decide) (backOf (W := 0) (rm_crb l Z a0 hw [] t kb k M vs h0 n0 Z0 V_t hk hM) hZ (W 150 rfl) (W 146 rfl) (by decide) (by decide)) (g := (mkF m 13 #[.val (.ref t), .val (.int (0 : Int32)), .val (.int (Int32.ofNat M))] [(.int (Int32.ofNat M)), (.int (0 : Int32)), (.ref t)])) rfl (by rw [hml]; rfl) (argsL := [(.ref t), (.int (0 : Int32)), (.int (Int32.ofNat M))]) (rest := []) (lenOf pdo_18 rfl) rfl (Nat.le_of_eq rfl) (hb hby (own_d D_cor 9 rfl)) (fun _ _ => ⟨rfl, e0, (by decide : 0 + 1 ≤ _), (by decide : 0 + 400 ≤ _)⟩)
  dsimp only [Pt.U, Pt.locs, Pt.cells, Pt.slots] at X102 l102 y102 z102 st102 hQ102
  subst l102 y102 z102
  obtain ⟨b102, kb102, rfl, Nq102, K102, lb102, V102⟩ := hQ102
  have N102 := Fr.app N0 Nq102
  have pq103 : own_go pP e below A0 (T102.setTop (mkF m 16 #[.val (.ref t), .val (.int (0 : Int32)), .val (.int (Int32.ofNat M))] [(.ref b102)])) := by
    intro τ κ
    refine pre0 τ ?_
    refine XS.iloadN X0.here hx rfl (hb hby (own_d D_cor 0 rfl)) rfl ?_
    refine XS.ifNo X0.here hx rfl (hb hby (own_d D_cor 1 rfl)) rfl ((if0 _ _).trans (teq (by decide : ((0 : Int32) = (0 : Int32)))).2) ?_
    refine XS.iloadN X0.here hx rfl (hb hby (own_d D_cor 2 rfl)) rfl ?_
    refine XS.aloadN X0.here hx rfl (hb hby (own_d D_cor 3 rfl)) rfl rfl ?_
    refine X0.arraylength hx (by rw [e0]; exact Ar101.1) (State.isArrayOf_alike hZ.alike Ar101.2.1) (g := (mkF m 6 #[.val (.ref t), .val (.int (0 : Int32)), .val (.int (Int32.ofNat M))] [(.ref t), (.int (Int32.ofNat M))])) rfl rfl (hb hby (own_d D_cor 4 rfl)) _ ?_
    rw [len_of S101 M101]
    refine XS.icmpNo X0.here hx rfl (hb hby (own_d D_cor 5 rfl)) rfl (feq (own_nej hM (by omega))).1 ?_
    refine XS.aloadN X0.here hx rfl (hb hby (own_d D_cor 6 rfl)) rfl rfl ?_
    refine XS.iloadN X0.here hx rfl (hb hby (own_d D_cor 7 rfl)) rfl ?_
    refine XS.iloadN X0.here hx rfl (hb hby (own_d D_cor 8 rfl)) rfl ?_
    refine st102 _ ?_
    exact κ
  have KC102 := KC0.trans K102 all0
  obtain ⟨fs, hrE, hrun, hended, hW, hsame⟩ := X102.leave (v := some (.ref b102)) (fun h => by rw [Bd.returns] at h; cases h)
  have pqE := pq103
  rw [hA0] at pqE
  refine ⟨_, _, pqE _ ?_, hrun, hended, _, _, rfl, ?_, ⟨_, rfl⟩, hW, hsame.mono (by decide) (by decide)⟩
  · show Steps pP.tables e below (T102.setTop (mkF m 16 #[.val (.ref t), .val (.int (0 : Int32)), .val (.int (Int32.ofNat M))] [(.ref b102)])) _
    exact retOut X102 hx Bd.returns rfl (Or.inr (Or.inr (Or.inr (Or.inr ⟨rfl, rfl, rfl⟩)))) (hb hby (own_d D_cor 10 rfl)) hrE
  · show Q_cor Z M M vs h0 n0 _ T102.heap _
    exact ⟨b102, _, rfl, N102, KC102, (Nat.le_trans (Nat.le_refl _) lb102), V102⟩
theorem D_b3 : ∀ q ∈ ([(0, .iload_n 2, 1), (1, .newarray .byte, 2), (3, .astore_n 3, 1), (4, .aload_n 0, 1), (5, .iload_n 1, 1), (6, .aload_n 3, 1), (7, .iconst 0, 1), (8, .iload_n 2, 1), (9, .invokestatic 123, 3), (12, .istore 4, 2), (14, .iload 4, 2), (16, .iload_n 2, 1), (17, .if_icmp .eq 47, 3), (20, .aload_n 0, 1), (21, .iload_n 1, 1), (22, .iconst 1, 1), (23, .ishl, 1), (24, .iload_n 1, 1), (25, .iload_n 2, 1), (26, .iadd, 1), (27, .invokestatic 11, 3), (30, .invokestatic 126, 3), (33, .astore 5, 2), (35, .aload 5, 2), (37, .iload 4, 2), (39, .invokestatic 71, 3), (42, .sipush 255, 3), (45, .if_icmp .gt 16, 3), (61, .aload 5, 2), (63, .areturn, 1)] : List (Nat × Instr × Nat)), decode jdk_52_method_17_code q.1 = .ok q.2 := by decide +kernel
theorem ef_rm_b3 (m : MethodId) (x0 : Addr) (x1 : Int32) (x2 : Int32) : entryFrame m #[(.ref x0), (.int x1), (.int x2)] 6 = mkF m 0 #[.val (.ref x0), .val (.int x1), .val (.int x2), .unset, .unset, .unset] [] := by first | (simp [entryFrame, mkF, argsToLocals, Value.category]; done) | rfl
theorem rm_b3 (l : Launch) (Z : State) (a0 : Array Value) (hw : ∀ d ∈ tables_1, d.before a0 Z = true) (ws : List Jvm.Cond) (t : Addr) (kb : ClassId) (cs : List Int32) (vs : List Value) (G3 : Value) (h0 : Heap) (n0 : Nat) (Z0 : n0 ≤ h0.size) (O4 : Sta Z Z.heap "jdk/internal/util/Preconditions" "SIOOBE_FORMATTER" "Ljava/util/function/BiFunction;" G3) (rG3 : G3.isRef = true) (OA : Sta Z Z.heap "java/lang/StringUTF16" "$assertionsDisabled" "Z" (.int 1)) (OH : Sta Z Z.heap "java/lang/StringUTF16" "HI_BYTE_SHIFT" "I" (.int 0)) (OL : Sta Z Z.heap "java/lang/StringUTF16" "LO_BYTE_SHIFT" "I" (.int 8)) (X00 : Old Z n0 h0) (V_t : Arv Z h0 t kb .byte (Int32.ofNat (2 * (cs).length)) vs (.int 0)) (hu : own_u16 vs cs) (hp : ∀ c ∈ cs, ¬ c < 0 ∧ ¬ (65535 : Int32) < c) (hbad : ∃ j, j < 40 ∧ (255 : Int32) < cs.getD j 0) (hn : 40 < (cs).length) (hl : (cs).length ≤ 45) :
    MetFree l y_29 (head1 (Jvm.Cond.code y_29 jdk_52_method_17_code 6 (some (.array .byte)) :: ws) r_18) (fun αs U => αs = #[(.ref t), (.int (0 : Int32)), (.int (40 : Int32))] ∧ Z.Warmed39 U.vm ∧ U.heap = h0) (fun _ _ _ _ _ => True) (fun _ Us oS Us' => ∃ vR LR, oS = .returned vR ∧ Q_tb Z (cs.take 40) h0 n0 vR Us'.heap LR ∧ FrameEnd Us oS Us' LR r_18.cells r_18.slots) := by
  refine MetFree.of_bodySF (plainFor_of_name pno_2) hisR ?_
  intro pP e s m args below meth cC s₁ Bd hml0 hP hK
  obtain ⟨rfl, hZ, hh⟩ := hP
  have hx := Bd.exec
  have W := own_W hw
  have hby := Bd.bytes
  have hml : cC.maxLocals = 6 := hml0
  have hown : s.vm.findClass "java/lang/StringUTF16" = some m.cls := findClass_of_methodNamed Bd.named
  have hnm := (name_of_methodNamed Bd.named Bd.method).1
  have X0 : Stand pP l e r_18 s m #[(.ref t), (.int (0 : Int32)), (.int (40 : Int32))] below meth cC s₁ [] 0 0 := Stand.of_body Bd
  have e0 : s₁.heap = h0 := by rw [← hh, Bd.state]; rfl
  have N0 := Fr.nil n0
  have KC0 : Keep h0 h0 [] := Keep.refl h0 _
  obtain ⟨A0, hA0⟩ : ∃ ζ, ζ = s₁.setTop (entryFrame m #[(.ref t), (.int (0 : Int32)), (.int (40 : Int32))] 6) := ⟨_, rfl⟩
  have pre0 : own_go pP e below A0 (s₁.setTop (mkF m 0 #[.val (.ref t), .val (.int (0 : Int32)), .val (.int (40 : Int32)), .unset, .unset, .unset] [])) := fun τ κ => by rw [hA0]; exact castTop (ef_rm_b3 m t (0 : Int32) (40 : Int32)) κ
  obtain ⟨T101, h101, k101, X101, e101, E101, A101, st101⟩ := newP X0 hx hZ (W 25 rfl) e0 (g := (mkF m 1 #[.val (.ref t), .val (.int (0 : Int32)), .val (.int (40 : Int32)), .unset, .unset, .unset] [(.int (40 : Int32))])) rfl (hb hby (own_d D_b3 1 rfl)) rfl (by decide) (cap := 40) (by decide) (by decide) (by decide) (by decide)
  obtain ⟨b101, g101⟩ : ∃ z, z = h0.size := ⟨_, rfl⟩
  rw [← g101] at A101 st101
  have pq102 : own_go pP e below A0 (T101.setTop (mkF m 3 #[.val (.ref t), .val (.int (0 : Int32)), .val (.int (40 : Int32)), .unset, .unset, .unset] [(.ref b101)])) := by
    intro τ κ
    refine pre0 τ ?_
    refine XS.iloadN X0.here hx rfl (hb hby (own_d D_b3 0 rfl)) rfl ?_
    refine st101 _ ?_
    exact κ
  have KC101 := KC0.ext E101
  have V101 : Arv Z h101 b101 k101 .byte (40 : Int32) [] (.int (0 : Int32)) := Arv.new A101 (by decide)
  have f103 := (X00.ext E101)
  have f104 := (V_t.ext E101)
  have f105 := (Nat.le_trans Z0 E101.1)
  obtain ⟨_, _, ⟨T106, L106, k106, n106⟩, -, X106, ⟨Lc106, hQ106, l106, y106, z106⟩, st106⟩ := Jvm.LawKit.callS X101 hx (y := y_24) hown (mvT hZ (W 129 rfl)) (mvT hZ (W 130 rfl)) (mvT hZ (W 39 rfl)) (mvT hZ (W 131 rfl)) (by decide) (backOf (W := 0) (rm_b5 l Z a0 hw [] t b101 kb k101 cs vs G3 h101 n0 f105 O4 rG3 OA OH OL f103 f104 hu hp V101 (Nat.le_trans Z0 (Nat.le_of_eq g101.symm)) (Nat.ne_of_lt (Nat.lt_of_lt_of_le V_t.lt (Nat.le_of_eq g101.symm))) hbad hn hl) hZ (W 131 rfl) (W 39 rfl) (by decide) (by decide)) (g := (mkF m 9 #[.val (.ref t), .val (.int (0 : Int32)), .val (.int (40 : Int32)), .val (.ref b101), .unset, .unset] [(.int (40 : Int32)), (.int (0 : Int32)), (.ref b101), (.int (0 : Int32)), (.ref t)])) rfl (by rw [hml]; rfl) (argsL := [(.ref t), (.int (0 : Int32)), (.ref b101), (.int (0 : Int32)), (.int (40 : Int32))]) (rest := []) (lenOf pdo_19 rfl) rfl (Nat.le_of_eq rfl) (hb hby (own_d D_b3 8 rfl)) (fun _ _ => ⟨rfl, e101, (by decide : 1 + 0 ≤ _), (by decide : 40 + 0 ≤ _)⟩)
  dsimp only [Pt.U, Pt.locs, Pt.cells, Pt.slots] at X106 l106 y106 z106 st106 hQ106
  subst l106 y106 z106
  obtain ⟨j106, rfl, hj106, gj106, Nq106, K106⟩ := hQ106
  have N106 := Fr.app N0 Nq106
  have pq107 : own_go pP e below A0 (T106.setTop (mkF m 12 #[.val (.ref t), .val (.int (0 : Int32)), .val (.int (40 : Int32)), .val (.ref b101), .unset, .unset] [(.int (Int32.ofNat j106))])) := by
    intro τ κ
    refine pq102 τ ?_
    refine XS.astoreN X101.here hx rfl (hb hby (own_d D_b3 2 rfl)) rfl rfl (l' := #[.val (.ref t), .val (.int (0 : Int32)), .val (.int (40 : Int32)), .val (.ref b101), .unset, .unset]) rfl ?_
    refine XS.aloadN X101.here hx rfl (hb hby (own_d D_b3 3 rfl)) rfl rfl ?_
    refine XS.iloadN X101.here hx rfl (hb hby (own_d D_b3 4 rfl)) rfl ?_
    refine XS.aloadN X101.here hx rfl (hb hby (own_d D_b3 5 rfl)) rfl rfl ?_
    refine XS.iconst X101.here hx rfl (hb hby (own_d D_b3 6 rfl)) ?_
    refine XS.iloadN X101.here hx rfl (hb hby (own_d D_b3 7 rfl)) rfl ?_
    refine st106 _ ?_
    exact κ
  have KC106 := KC101.trans K106 (allS (Or.inr (Nat.le_trans (Nat.le_refl _) (Nat.le_of_eq g101.symm))) all0)
  have pq108 : own_go pP e below A0 (T106.setTop (mkF m 24 #[.val (.ref t), .val (.int (0 : Int32)), .val (.int (40 : Int32)), .val (.ref b101), .val (.int (Int32.ofNat j106)), .unset] [(.int ((0 : Int32) <<< ((1 : Int32) &&& 31))), (.ref t)])) := by
    intro τ κ
    refine pq107 τ ?_
    refine XS.istore X106.here hx rfl (hb hby (own_d D_b3 9 rfl)) rfl (l' := #[.val (.ref t), .val (.int (0 : Int32)), .val (.int (40 : Int32)), .val (.ref b101), .val (.int (Int32.ofNat j106)), .unset]) rfl ?_
    refine XS.iload X106.here hx rfl (hb hby (own_d D_b3 10 rfl)) rfl ?_
    refine XS.iloadN X106.here hx rfl (hb hby (own_d D_b3 11 rfl)) rfl ?_
    refine XS.icmpNo X106.here hx rfl (hb hby (own_d D_b3 12 rfl)) rfl (feq (own_nej (n := 40) hj106 (by omega))).1 ?_
    refine XS.aloadN X106.here hx rfl (hb hby (own_d D_b3 13 rfl)) rfl rfl ?_
    refine XS.iloadN X106.here hx rfl (hb hby (own_d D_b3 14 rfl)) rfl ?_
    refine XS.iconst X106.here hx rfl (hb hby (own_d D_b3 15 rfl)) ?_
    refine XS.ishl X106.here hx rfl (hb hby (own_d D_b3 16 rfl)) rfl ?_
    exact κ
  have pq109 : own_go pP e below A0 (T106.setTop (mkF m 24 #[.val (.ref t), .val (.int (0 : Int32)), .val (.int (40 : Int32)), .val (.ref b101), .val (.int (Int32.ofNat j106)), .unset] [(.int (0 : Int32)), (.ref t)])) := by intro τ κ; refine pq108 τ ?_; rw [show ((0 : Int32) <<< ((1 : Int32) &&& 31)) = (0 : Int32) from (by decide)]; exact κ
  have f110 := (Nat.le_trans f105 K106.1)
  obtain ⟨_, _, ⟨T111, L111, k111, n111⟩, -, X111, ⟨Lc111, hQ111, l111, y111, z111⟩, st111⟩ := Jvm.LawKit.callS X106 hx (y := y_10) hown (mvT hZ (W 50 rfl)) (mvT hZ (W 51 rfl)) (mvT hZ (W 39 rfl)) (mvT hZ (W 52 rfl)) (by decide) (backOf (W := 2) (rm_nbl l Z a0 hw [] 40 T106.heap n0 f110 (by decide)) hZ (W 52 rfl) (W 39 rfl) (by decide) (by decide)) (g := (mkF m 27 #[.val (.ref t), .val (.int (0 : Int32)), .val (.int (40 : Int32)), .val (.ref b101), .val (.int (Int32.ofNat j106)), .unset] [(.int (40 : Int32)), (.int (0 : Int32)), (.ref t)])) rfl (by rw [hml]; rfl) (argsL := [(.int (40 : Int32))]) (rest := [(.int (0 : Int32)), (.ref t)]) (lenOf pdo_3 rfl) rfl (Nat.le_of_eq rfl) (hb hby (own_d D_b3 20 rfl)) (fun _ _ => ⟨rfl, rfl, (by decide : 1 + 0 ≤ _), (by decide : 40 + 0 ≤ _)⟩)
  dsimp only [Pt.U, Pt.locs, Pt.cells, Pt.slots] at X111 l111 y111 z111 st111 hQ111
  subst l111 y111 z111
  obtain ⟨rfl, Nq111, eq111⟩ := hQ111
  have N111 := Fr.app N106 Nq111
  have pq112 : own_go pP e below A0 (T111.setTop (mkF m 30 #[.val (.ref t), .val (.int (0 : Int32)), .val (.int (40 : Int32)), .val (.ref b101), .val (.int (Int32.ofNat j106)), .unset] [(.int (Int32.ofNat (2 * 40))), (.int (0 : Int32)), (.ref t)])) := by
    intro τ κ
    refine pq109 τ ?_
    refine XS.iloadN X106.here hx rfl (hb hby (own_d D_b3 17 rfl)) rfl ?_
    refine XS.iloadN X106.here hx rfl (hb hby (own_d D_b3 18 rfl)) rfl ?_
    refine XS.iadd X106.here hx rfl (hb hby (own_d D_b3 19 rfl)) rfl ?_
    refine st111 _ ?_
    exact κ
  have f113 := (f104.keep K106 (ninS (Nat.ne_of_lt (Nat.lt_of_lt_of_le V_t.lt (Nat.le_of_eq g101.symm))) nin0))
  obtain ⟨_, _, ⟨T114, L114, k114, n114⟩, -, X114, ⟨Lc114, hQ114, l114, y114, z114⟩, st114⟩ := Jvm.LawKit.callS X111 hx (y := y_28) hown (mvT hZ (W 144 rfl)) (mvT hZ (W 145 rfl)) (mvT hZ (W 146 rfl)) (mvT hZ (W 147 rfl)) (by decide) (backOf (W := 0) (rm_cor l Z a0 hw [] t kb (2 * (cs).length) (2 * 40) vs T106.heap n0 f110 f113 (by omega) (by omega)) hZ (W 147 rfl) (W 146 rfl) (by decide) (by decide)) (g := (mkF m 30 #[.val (.ref t), .val (.int (0 : Int32)), .val (.int (40 : Int32)), .val (.ref b101), .val (.int (Int32.ofNat j106)), .unset] [(.int (Int32.ofNat (2 * 40))), (.int (0 : Int32)), (.ref t)])) rfl (by rw [hml]; rfl) (argsL := [(.ref t), (.int (0 : Int32)), (.int (Int32.ofNat (2 * 40)))]) (rest := []) (lenOf pdo_18 rfl) rfl (Nat.le_of_eq rfl) (hb hby (own_d D_b3 21 rfl)) (fun _ _ => ⟨rfl, eq111, (by decide : 1 + 1 ≤ _), (by decide : 40 + 400 ≤ _)⟩)
  dsimp only [Pt.U, Pt.locs, Pt.cells, Pt.slots] at X114 l114 y114 z114 st114 hQ114
  subst l114 y114 z114
  obtain ⟨b114, kb114, rfl, Nq114, K114, lb114, V114⟩ := hQ114
  have N114 := Fr.app N111 Nq114
  have pq115 : own_go pP e below A0 (T114.setTop (mkF m 33 #[.val (.ref t), .val (.int (0 : Int32)), .val (.int (40 : Int32)), .val (.ref b101), .val (.int (Int32.ofNat j106)), .unset] [(.ref b114)])) := by
    intro τ κ
    refine pq112 τ ?_
    refine st114 _ ?_
    exact κ
  have KC114 := KC106.trans K114 all0
  have V116 : Arv Z T114.heap b114 kb114 .byte (Int32.ofNat (2 * (cs.take 40).length)) (own_cp vs (2 * 40)) (.int 0) := by rw [own_tk hn]; exact V114
  have hu116 : own_u16 (own_cp vs (2 * 40)) (cs.take 40) := fun j hj => by rw [own_tk hn] at hj; exact own_pre_tk (own_pre_cp (k := 40) (fun i hi => hu i (by omega)) (Nat.le_refl _)) (Nat.le_refl _) j hj
  have hp116 : ∀ c ∈ cs.take 40, ¬ c < 0 ∧ ¬ (65535 : Int32) < c := fun c hc => hp c (List.mem_of_mem_take hc)
  have f117 := ((f103.keep K106 (allS (Nat.le_trans Z0 (Nat.le_of_eq g101.symm)) all0)).keep K114 all0)
  have f118 := (Nat.le_trans f110 K114.1)
  obtain ⟨_, _, ⟨T119, L119, k119, n119⟩, -, X119, ⟨Lc119, hQ119, l119, y119, z119⟩, st119⟩ := Jvm.LawKit.callS X114 hx (y := y_9) hown (mvT hZ (W 60 rfl)) (mvT hZ (W 61 rfl)) (mvT hZ (W 39 rfl)) (mvT hZ (W 62 rfl)) (by decide) (backOf (W := 0) (rm_uget l Z a0 hw [] b114 kb114 (cs.take 40) (own_cp vs (2 * 40)) j106 T114.heap n0 f118 OA OH OL f117 V116 hu116 hp116 (by rw [own_tk hn]; decide) (by rw [own_tk hn]; exact hj106)) hZ (W 62 rfl) (W 39 rfl) (by decide) (by decide)) (g := (mkF m 39 #[.val (.ref t), .val (.int (0 : Int32)), .val (.int (40 : Int32)), .val (.ref b101), .val (.int (Int32.ofNat j106)), .val (.ref b114)] [(.int (Int32.ofNat j106)), (.ref b114)])) rfl (by rw [hml]; rfl) (argsL := [(.ref b114), (.int (Int32.ofNat j106))]) (rest := []) (lenOf pdo_8 rfl) rfl (Nat.le_of_eq rfl) (hb hby (own_d D_b3 25 rfl)) (fun _ _ => ⟨rfl, rfl, (by decide : 2 + 0 ≤ _), (by decide : 440 + 0 ≤ _)⟩)
  dsimp only [Pt.U, Pt.locs, Pt.cells, Pt.slots] at X119 l119 y119 z119 st119 hQ119
  subst l119 y119 z119
  obtain ⟨rfl, Nq119, eq119⟩ := hQ119
  have N119 := Fr.app N114 Nq119
  have pq120 : own_go pP e below A0 (T119.setTop (mkF m 42 #[.val (.ref t), .val (.int (0 : Int32)), .val (.int (40 : Int32)), .val (.ref b101), .val (.int (Int32.ofNat j106)), .val (.ref b114)] [(.int ((cs.take 40).getD j106 0))])) := by
    intro τ κ
    refine pq115 τ ?_
    refine XS.astore X114.here hx rfl (hb hby (own_d D_b3 22 rfl)) rfl rfl (l' := #[.val (.ref t), .val (.int (0 : Int32)), .val (.int (40 : Int32)), .val (.ref b101), .val (.int (Int32.ofNat j106)), .val (.ref b114)]) rfl ?_
    refine XS.aload X114.here hx rfl (hb hby (own_d D_b3 23 rfl)) rfl rfl ?_
    refine XS.iload X114.here hx rfl (hb hby (own_d D_b3 24 rfl)) rfl ?_
    refine st119 _ ?_
    exact κ
  obtain ⟨fs, hrE, hrun, hended, hW, hsame⟩ := X119.leave (v := some (.ref b114)) (fun h => by rw [Bd.returns] at h; cases h)
  have pqE := pq120
  rw [hA0] at pqE
  refine ⟨_, _, pqE _ ?_, hrun, hended, _, _, rfl, ?_, ⟨_, rfl⟩, hW, hsame.mono (by decide) (by decide)⟩
  · refine XS.sipush X119.here hx rfl (hb hby (own_d D_b3 26 rfl)) ?_
    refine XS.icmpYes X119.here hx rfl (pc0 := 45) (pc' := 61) rfl (hb hby (own_d D_b3 27 rfl)) rfl (tlt (by rw [own_tkget hj106]; exact gj106)).2.2.1 (by decide) (by decide) ?_
    refine XS.aload X119.here hx rfl (hb hby (own_d D_b3 28 rfl)) rfl rfl ?_
    show Steps pP.tables e below (T119.setTop (mkF m 63 #[.val (.ref t), .val (.int (0 : Int32)), .val (.int (40 : Int32)), .val (.ref b101), .val (.int (Int32.ofNat j106)), .val (.ref b114)] [(.ref b114)])) _
    exact retOut X119 hx Bd.returns rfl (Or.inr (Or.inr (Or.inr (Or.inr ⟨rfl, rfl, rfl⟩)))) (hb hby (own_d D_b3 29 rfl)) hrE
  · show Q_tb Z (cs.take 40) h0 n0 _ T119.heap _
    rw [eq119]
    exact ⟨b114, _, _, rfl, N119, KC114, (Nat.le_trans (Nat.le_trans (Nat.le_trans (Nat.le_refl _) E101.1) K106.1) lb114), V116, hu116⟩
def Q_sbb (Z : State) (a u : Addr) (h0 : Heap) (n0 : Nat) (v : Option Value) (h : Heap) (L : List Loc) : Prop := v = none ∧ Fr n0 L ∧ Keep h0 h [a] ∧ Exa Z h a "java/lang/String" ∧ Fld Z h a "java/lang/String" "coder" "B" (.int 1) ∧ Fld Z h a "java/lang/String" "value" "[B" (.ref u)
theorem D_sbb : ∀ q ∈ ([(0, .aload_n 0, 1), (1, .invokespecial 1, 3), (4, .aload_n 0, 1), (5, .aload_n 1, 1), (6, .putfield 9, 3), (9, .aload_n 0, 1), (10, .iload_n 2, 1), (11, .putfield 15, 3), (14, .return_, 1)] : List (Nat × Instr × Nat)), decode jdk_42_method_151_code q.1 = .ok q.2 := by decide +kernel
theorem ef_rm_sbb (m : MethodId) (x0 : Addr) (x1 : Addr) (x2 : Int32) : entryFrame m #[(.ref x0), (.ref x1), (.int x2)] 3 = mkF m 0 #[.val (.ref x0), .val (.ref x1), .val (.int x2)] [] := by first | (simp [entryFrame, mkF, argsToLocals, Value.category]; done) | rfl
theorem rm_sbb (l : Launch) (Z : State) (a0 : Array Value) (hw : ∀ d ∈ tables_1, d.before a0 Z = true) (ws : List Jvm.Cond) (a u : Addr) (h0 : Heap) (n0 : Nat) (Z0 : n0 ≤ h0.size) (E_a : Exa Z h0 a "java/lang/String") (ga : n0 ≤ a) (F_value : Fld Z h0 a "java/lang/String" "value" "[B" .null) (F_coder : Fld Z h0 a "java/lang/String" "coder" "B" (.int (0 : Int32))) :
    MetFree l y_30 (head1 (Jvm.Cond.code y_30 jdk_42_method_151_code 3 none :: ws) r_19) (fun αs U => αs = #[(.ref a), (.ref u), (.int (1 : Int32))] ∧ Z.Warmed39 U.vm ∧ U.heap = h0) (fun _ _ _ _ _ => True) (fun _ Us oS Us' => ∃ vR LR, oS = .returned vR ∧ Q_sbb Z a u h0 n0 vR Us'.heap LR ∧ FrameEnd Us oS Us' LR r_19.cells r_19.slots) := by
  refine MetFree.of_bodySF (plainFor_of_name pno_1) hisR ?_
  intro pP e s m args below meth cC s₁ Bd hml0 hP hK
  obtain ⟨rfl, hZ, hh⟩ := hP
  have hx := Bd.exec
  have W := own_W hw
  have hby := Bd.bytes
  have hml : cC.maxLocals = 3 := hml0
  have hown : s.vm.findClass "java/lang/String" = some m.cls := findClass_of_methodNamed Bd.named
  have hnm := (name_of_methodNamed Bd.named Bd.method).1
  have X0 : Stand pP l e r_19 s m #[(.ref a), (.ref u), (.int (1 : Int32))] below meth cC s₁ [] 0 0 := Stand.of_body Bd
  have e0 : s₁.heap = h0 := by rw [← hh, Bd.state]; rfl
  have N0 := Fr.nil n0
  have KC0 : Keep h0 h0 [a] := Keep.refl h0 _
  obtain ⟨A0, hA0⟩ : ∃ ζ, ζ = s₁.setTop (entryFrame m #[(.ref a), (.ref u), (.int (1 : Int32))] 3) := ⟨_, rfl⟩
  have pre0 : own_go pP e below A0 (s₁.setTop (mkF m 0 #[.val (.ref a), .val (.ref u), .val (.int (1 : Int32))] [])) := fun τ κ => by rw [hA0]; exact castTop (ef_rm_sbb m a u (1 : Int32)) κ
  obtain ⟨T101, X101, e101, st101⟩ := initO X0 hx hZ hown (W 21 rfl) (W 22 rfl) (W 23 rfl) e0 (g := (mkF m 1 #[.val (.ref a), .val (.ref u), .val (.int (1 : Int32))] [(.ref a)])) rfl (by rw [hml]; rfl) rfl (hb hby (own_d D_sbb 1 rfl)) (by decide) (W := 0) (Nat.le_of_eq rfl) (by decide)
  have pq102 : own_go pP e below A0 (T101.setTop (mkF m 4 #[.val (.ref a), .val (.ref u), .val (.int (1 : Int32))] [])) := by
    intro τ κ
    refine pre0 τ ?_
    refine XS.aloadN X0.here hx rfl (hb hby (own_d D_sbb 0 rfl)) rfl rfl ?_
    refine st101 _ ?_
    exact κ
  obtain ⟨T103, h103, X103, e103, W103, st103⟩ := putF X101 hx hZ hown (host := "") (Or.inl (W 30 rfl)) Via.refl e101 F_value E_a (Or.inr ⟨(W 26 rfl), rfl, hnm⟩) (W 12 rfl) (ty := (.array .byte)) (by decide) rfl rfl (g := (mkF m 6 #[.val (.ref a), .val (.ref u), .val (.int (1 : Int32))] [(.ref u), (.ref a)])) rfl rfl (hb hby (own_d D_sbb 4 rfl))
  have pq104 : own_go pP e below A0 (T103.setTop (mkF m 9 #[.val (.ref a), .val (.ref u), .val (.int (1 : Int32))] [])) := by
    intro τ κ
    refine pq102 τ ?_
    refine XS.aloadN X101.here hx rfl (hb hby (own_d D_sbb 2 rfl)) rfl rfl ?_
    refine XS.aloadN X101.here hx rfl (hb hby (own_d D_sbb 3 rfl)) rfl rfl ?_
    refine st103 _ ?_
    exact κ
  have KC103 := KC0.wr W103 (Or.inl (List.mem_of_getElem? (i := 0) rfl))
  have Fw103 := F_value.same W103
  have N103 := Fr.snoc X103 N0 ga
  have f105 := (E_a.wr W103)
  have f106 := (F_coder.other W103 (Or.inr (slot_ne (Or.inr (W 27 rfl)) (Or.inr (W 26 rfl)) (by decide) (t := .byte) (t' := (.array .byte)) (by decide) (by decide))))
  obtain ⟨T107, h107, X107, e107, W107, st107⟩ := putFN X103 hx hZ hown (W 31 rfl) Via.refl e103 f106 f105 (Or.inr ⟨(W 27 rfl), rfl, hnm⟩) (W 12 rfl) (ty := .byte) (v' := (.int (1 : Int32))) (by decide) rfl (by decide) (g := (mkF m 11 #[.val (.ref a), .val (.ref u), .val (.int (1 : Int32))] [(.int (1 : Int32)), (.ref a)])) rfl rfl (hb hby (own_d D_sbb 7 rfl))
  have pq108 : own_go pP e below A0 (T107.setTop (mkF m 14 #[.val (.ref a), .val (.ref u), .val (.int (1 : Int32))] [])) := by
    intro τ κ
    refine pq104 τ ?_
    refine XS.aloadN X103.here hx rfl (hb hby (own_d D_sbb 5 rfl)) rfl rfl ?_
    refine XS.iloadN X103.here hx rfl (hb hby (own_d D_sbb 6 rfl)) rfl ?_
    refine st107 _ ?_
    exact κ
  have KC107 := KC103.wr W107 (Or.inl (List.mem_of_getElem? (i := 0) rfl))
  have Fw107 := f106.same W107
  have N107 := Fr.snoc X107 N103 ga
  have f109 := (f105.wr W107)
  have f110 := (Fw103.other W107 (Or.inr (slot_ne (Or.inr (W 26 rfl)) (Or.inr (W 27 rfl)) (by decide) (t := (.array .byte)) (t' := .byte) (by decide) (by decide))))
  obtain ⟨fs, hrE, hrun, hended, hW, hsame⟩ := X107.leave (v := none) (fun _ => rfl)
  have pqE := pq108
  rw [hA0] at pqE
  refine ⟨_, _, pqE _ ?_, hrun, hended, _, _, rfl, ?_, ⟨_, rfl⟩, hW, hsame.mono (by decide) (by decide)⟩
  · show Steps pP.tables e below (T107.setTop (mkF m 14 #[.val (.ref a), .val (.ref u), .val (.int (1 : Int32))] [])) _
    exact X107.returnOut hx Bd.returns (hb hby (own_d D_sbb 8 rfl)) hrE
  · show Q_sbb Z a u h0 n0 _ T107.heap _
    rw [e107]
    exact ⟨rfl, N107, KC107, f109, Fw107, f110⟩
def Q_sub (Z : State) (cs : List Int32) (h0 : Heap) (n0 : Nat) (v : Option Value) (h : Heap) (L : List Loc) : Prop := ∃ a, v = some (.ref a) ∧ Fr n0 L ∧ Keep h0 h [] ∧ h0.size ≤ a ∧ USt Z h a (cs.take 40)
theorem D_ns : ∀ q ∈ ([(0, .iload_n 2, 1), (1, .ifCond .ne 7, 3), (8, .getstatic 251, 3), (11, .ifCond .eq 28, 3), (14, .aload_n 0, 1), (15, .iload_n 1, 1), (16, .iload_n 2, 1), (17, .invokestatic 257, 3), (20, .astore_n 3, 1), (21, .aload_n 3, 1), (22, .iload_n 2, 1), (23, .invokestatic 259, 3), (26, .istore 4, 2), (28, .new 3, 3), (31, .dup, 1), (32, .aload_n 3, 1), (33, .iload 4, 2), (35, .invokespecial 263, 3), (38, .areturn, 1)] : List (Nat × Instr × Nat)), decode jdk_52_method_69_code q.1 = .ok q.2 := by decide +kernel
theorem ef_rm_ns (m : MethodId) (x0 : Addr) (x1 : Int32) (x2 : Int32) : entryFrame m #[(.ref x0), (.int x1), (.int x2)] 5 = mkF m 0 #[.val (.ref x0), .val (.int x1), .val (.int x2), .unset, .unset] [] := by first | (simp [entryFrame, mkF, argsToLocals, Value.category]; done) | rfl
theorem rm_ns (l : Launch) (Z : State) (a0 : Array Value) (hw : ∀ d ∈ tables_1, d.before a0 Z = true) (ws : List Jvm.Cond) (t : Addr) (kb : ClassId) (cs : List Int32) (vs : List Value) (G1 : Int32) (G3 : Value) (h0 : Heap) (n0 : Nat) (Z0 : n0 ≤ h0.size) (O2 : Sta Z Z.heap "java/lang/String" "COMPACT_STRINGS" "Z" (.int G1)) (P5 : ¬ (G1 = (0 : Int32))) (X00 : Old Z n0 h0) (O4 : Sta Z Z.heap "jdk/internal/util/Preconditions" "SIOOBE_FORMATTER" "Ljava/util/function/BiFunction;" G3) (rG3 : G3.isRef = true) (OA : Sta Z Z.heap "java/lang/StringUTF16" "$assertionsDisabled" "Z" (.int 1)) (OH : Sta Z Z.heap "java/lang/StringUTF16" "HI_BYTE_SHIFT" "I" (.int 0)) (OL : Sta Z Z.heap "java/lang/StringUTF16" "LO_BYTE_SHIFT" "I" (.int 8)) (V_t : Arv Z h0 t kb .byte (Int32.ofNat (2 * (cs).length)) vs (.int 0)) (hu : own_u16 vs cs) (hp : ∀ c ∈ cs, ¬ c < 0 ∧ ¬ (65535 : Int32) < c) (hbad : ∃ j, j < 40 ∧ (255 : Int32) < cs.getD j 0) (hn : 40 < (cs).length) (hl : (cs).length ≤ 45) :
    MetFree l y_31 (head1 (Jvm.Cond.code y_31 jdk_52_method_69_code 5 (some (.object "java/lang/String")) :: ws) r_20) (fun αs U => αs = #[(.ref t), (.int (0 : Int32)), (.int (40 : Int32))] ∧ Z.Warmed39 U.vm ∧ U.heap = h0) (fun _ _ _ _ _ => True) (fun _ Us oS Us' => ∃ vR LR, oS = .returned vR ∧ Q_sub Z cs h0 n0 vR Us'.heap LR ∧ FrameEnd Us oS Us' LR r_20.cells r_20.slots) := by
  refine MetFree.of_bodySF (plainFor_of_name pno_2) hisR ?_
  intro pP e s m args below meth cC s₁ Bd hml0 hP hK
  obtain ⟨rfl, hZ, hh⟩ := hP
  have hx := Bd.exec
  have W := own_W hw
  have hby := Bd.bytes
  have hml : cC.maxLocals = 5 := hml0
  have hown : s.vm.findClass "java/lang/StringUTF16" = some m.cls := findClass_of_methodNamed Bd.named
  have hnm := (name_of_methodNamed Bd.named Bd.method).1
  have X0 : Stand pP l e r_20 s m #[(.ref t), (.int (0 : Int32)), (.int (40 : Int32))] below meth cC s₁ [] 0 0 := Stand.of_body Bd
  have e0 : s₁.heap = h0 := by rw [← hh, Bd.state]; rfl
  have N0 := Fr.nil n0
  have KC0 : Keep h0 h0 [] := Keep.refl h0 _
  obtain ⟨A0, hA0⟩ : ∃ ζ, ζ = s₁.setTop (entryFrame m #[(.ref t), (.int (0 : Int32)), (.int (40 : Int32))] 5) := ⟨_, rfl⟩
  have pre0 : own_go pP e below A0 (s₁.setTop (mkF m 0 #[.val (.ref t), .val (.int (0 : Int32)), .val (.int (40 : Int32)), .unset, .unset] [])) := fun τ κ => by rw [hA0]; exact castTop (ef_rm_ns m t (0 : Int32) (40 : Int32)) κ
  obtain ⟨T101, X101, e101, st101⟩ := getS2 X0 hx hZ hown (host := "") (Or.inl (W 125 rfl)) Via.refl e0 (O2.ext X00.2) (g := (mkF m 8 #[.val (.ref t), .val (.int (0 : Int32)), .val (.int (40 : Int32)), .unset, .unset] [])) rfl (hb hby (own_d D_ns 2 rfl))
  have pq102 : own_go pP e below A0 (T101.setTop (mkF m 11 #[.val (.ref t), .val (.int (0 : Int32)), .val (.int (40 : Int32)), .unset, .unset] [(.int G1)])) := by
    intro τ κ
    refine pre0 τ ?_
    refine XS.iloadN X0.here hx rfl (hb hby (own_d D_ns 0 rfl)) rfl ?_
    refine XS.ifYes X0.here hx rfl (pc0 := 1) (pc' := 8) rfl (hb hby (own_d D_ns 1 rfl)) rfl ((if0 _ _).trans (feq (by decide : ¬ ((40 : Int32) = (0 : Int32)))).2) (by decide) (by decide) ?_
    refine st101 _ ?_
    exact κ
  obtain ⟨_, _, ⟨T103, L103, k103, n103⟩, -, X103, ⟨Lc103, hQ103, l103, y103, z103⟩, st103⟩ := Jvm.LawKit.callS X101 hx (y := y_29) hown (mvT hZ (W 126 rfl)) (mvT hZ (W 127 rfl)) (mvT hZ (W 39 rfl)) (mvT hZ (W 128 rfl)) (by decide) (backOf (W := 0) (rm_b3 l Z a0 hw [] t kb cs vs G3 h0 n0 Z0 O4 rG3 OA OH OL X00 V_t hu hp hbad hn hl) hZ (W 128 rfl) (W 39 rfl) (by decide) (by decide)) (g := (mkF m 17 #[.val (.ref t), .val (.int (0 : Int32)), .val (.int (40 : Int32)), .unset, .unset] [(.int (40 : Int32)), (.int (0 : Int32)), (.ref t)])) rfl (by rw [hml]; rfl) (argsL := [(.ref t), (.int (0 : Int32)), (.int (40 : Int32))]) (rest := []) (lenOf pdo_18 rfl) rfl (Nat.le_of_eq rfl) (hb hby (own_d D_ns 7 rfl)) (fun _ _ => ⟨rfl, e101, (by decide : 0 + 2 ≤ _), (by decide : 0 + 440 ≤ _)⟩)
  dsimp only [Pt.U, Pt.locs, Pt.cells, Pt.slots] at X103 l103 y103 z103 st103 hQ103
  subst l103 y103 z103
  obtain ⟨u103, ku103, vs103, rfl, Nq103, K103, lb103, V103, hu103⟩ := hQ103
  have N103 := Fr.app N0 Nq103
  have pq104 : own_go pP e below A0 (T103.setTop (mkF m 20 #[.val (.ref t), .val (.int (0 : Int32)), .val (.int (40 : Int32)), .unset, .unset] [(.ref u103)])) := by
    intro τ κ
    refine pq102 τ ?_
    refine XS.ifNo X101.here hx rfl (hb hby (own_d D_ns 3 rfl)) rfl ((if0 _ _).trans (feq P5).1) ?_
    refine XS.aloadN X101.here hx rfl (hb hby (own_d D_ns 4 rfl)) rfl rfl ?_
    refine XS.iloadN X101.here hx rfl (hb hby (own_d D_ns 5 rfl)) rfl ?_
    refine XS.iloadN X101.here hx rfl (hb hby (own_d D_ns 6 rfl)) rfl ?_
    refine st103 _ ?_
    exact κ
  have KC103 := KC0.trans K103 all0
  have f105 := (Nat.le_trans Z0 K103.1)
  obtain ⟨_, _, ⟨T106, L106, k106, n106⟩, -, X106, ⟨Lc106, hQ106, l106, y106, z106⟩, st106⟩ := Jvm.LawKit.callS X103 hx (y := y_16) hown (mvT hZ (W 162 rfl)) (mvT hZ (W 64 rfl)) (mvT hZ (W 39 rfl)) (mvT hZ (W 65 rfl)) (by decide) (backOf (W := 0) (rm_cfl l Z a0 hw [] u103 ku103 40 vs103 T103.heap n0 f105 (by have q := V103; rw [own_tk hn] at q; exact q) (by decide) (by decide)) hZ (W 65 rfl) (W 39 rfl) (by decide) (by decide)) (g := (mkF m 23 #[.val (.ref t), .val (.int (0 : Int32)), .val (.int (40 : Int32)), .val (.ref u103), .unset] [(.int (40 : Int32)), (.ref u103)])) rfl (by rw [hml]; rfl) (argsL := [(.ref u103), (.int (40 : Int32))]) (rest := []) (lenOf pdo_9 rfl) rfl (Nat.le_of_eq rfl) (hb hby (own_d D_ns 11 rfl)) (fun _ _ => ⟨rfl, rfl, (by decide : 2 + 0 ≤ _), (by decide : 440 + 0 ≤ _)⟩)
  dsimp only [Pt.U, Pt.locs, Pt.cells, Pt.slots] at X106 l106 y106 z106 st106 hQ106
  subst l106 y106 z106
  obtain ⟨rfl, Nq106, eq106⟩ := hQ106
  have N106 := Fr.app N103 Nq106
  have pq107 : own_go pP e below A0 (T106.setTop (mkF m 26 #[.val (.ref t), .val (.int (0 : Int32)), .val (.int (40 : Int32)), .val (.ref u103), .unset] [(.int (1 : Int32))])) := by
    intro τ κ
    refine pq104 τ ?_
    refine XS.astoreN X103.here hx rfl (hb hby (own_d D_ns 8 rfl)) rfl rfl (l' := #[.val (.ref t), .val (.int (0 : Int32)), .val (.int (40 : Int32)), .val (.ref u103), .unset]) rfl ?_
    refine XS.aloadN X103.here hx rfl (hb hby (own_d D_ns 9 rfl)) rfl rfl ?_
    refine XS.iloadN X103.here hx rfl (hb hby (own_d D_ns 10 rfl)) rfl ?_
    refine st106 _ ?_
    exact κ
  obtain ⟨T108, h108, X108, e108, E108, A108, D108, -, st108⟩ := newO X106 hx hZ hown (W 163 rfl) (W 12 rfl) (W 13 rfl) eq106 (g := (mkF m 28 #[.val (.ref t), .val (.int (0 : Int32)), .val (.int (40 : Int32)), .val (.ref u103), .val (.int (1 : Int32))] [])) rfl (hb hby (own_d D_ns 13 rfl)) (by decide) (by decide)
  obtain ⟨b108, g108⟩ : ∃ z, z = T103.heap.size := ⟨_, rfl⟩
  rw [← g108] at A108 D108 st108
  have pq109 : own_go pP e below A0 (T108.setTop (mkF m 31 #[.val (.ref t), .val (.int (0 : Int32)), .val (.int (40 : Int32)), .val (.ref u103), .val (.int (1 : Int32))] [(.ref b108)])) := by
    intro τ κ
    refine pq107 τ ?_
    refine XS.istore X106.here hx rfl (hb hby (own_d D_ns 12 rfl)) rfl (l' := #[.val (.ref t), .val (.int (0 : Int32)), .val (.int (40 : Int32)), .val (.ref u103), .val (.int (1 : Int32))]) rfl ?_
    refine st108 _ ?_
    exact κ
  have KC108 := KC103.ext E108
  have F_value_b108 : Fld Z h108 b108 "java/lang/String" "value" "[B" .null := D108 (Or.inr (W 26 rfl)) (ty := (.array .byte)) (by decide)
  have F_coder_b108 : Fld Z h108 b108 "java/lang/String" "coder" "B" (.int (0 : Int32)) := D108 (Or.inr (W 27 rfl)) (ty := .byte) (by decide)
  have f110 := (Nat.le_trans f105 E108.1)
  obtain ⟨_, _, ⟨T111, L111, k111, n111⟩, -, X111, ⟨Lc111, hQ111, l111, y111, z111⟩, st111⟩ := X108.specialBack hx (y := y_30) rfl hown (mvT hZ (W 164 rfl)) (mvT hZ (W 165 rfl)) (mvT hZ (W 166 rfl)) (by decide) (backOf (W := 1) (rm_sbb l Z a0 hw [] b108 u103 h108 n0 f110 A108 (Nat.le_trans f105 (Nat.le_of_eq g108.symm)) F_value_b108 F_coder_b108) hZ (W 166 rfl) (W 13 rfl) (by decide) (by decide)) (g := (mkF m 35 #[.val (.ref t), .val (.int (0 : Int32)), .val (.int (40 : Int32)), .val (.ref u103), .val (.int (1 : Int32))] [(.int (1 : Int32)), (.ref u103), (.ref b108), (.ref b108)])) rfl (by rw [hml]; rfl) (Steps.refl _) (a := b108) (argsL := [(.ref u103), (.int (1 : Int32))]) (rest := [(.ref b108)]) (lenOf pdo_20 rfl) rfl (Nat.le_of_eq rfl) (hb hby (own_d D_ns 17 rfl)) (fun _ _ => ⟨rfl, e108, (by decide : 3 + 0 ≤ _), (by decide : 444 + 0 ≤ _)⟩)
  dsimp only [Pt.U, Pt.locs, Pt.cells, Pt.slots] at X111 l111 y111 z111 st111 hQ111
  subst l111 y111 z111
  obtain ⟨rfl, Nq111, K111, Ex111, Fc111, Fv111⟩ := hQ111
  have N111 := Fr.app N106 Nq111
  have pq112 : own_go pP e below A0 (T111.setTop (mkF m 38 #[.val (.ref t), .val (.int (0 : Int32)), .val (.int (40 : Int32)), .val (.ref u103), .val (.int (1 : Int32))] [(.ref b108)])) := by
    intro τ κ
    refine pq109 τ ?_
    refine XS.dup X108.here hx rfl (hb hby (own_d D_ns 14 rfl)) rfl rfl ?_
    refine XS.aloadN X108.here hx rfl (hb hby (own_d D_ns 15 rfl)) rfl rfl ?_
    refine XS.iload X108.here hx rfl (hb hby (own_d D_ns 16 rfl)) rfl ?_
    refine st111.trans ?_
    exact κ
  have KC111 := KC108.trans K111 (allS (Or.inr (Nat.le_trans (Nat.le_trans (Nat.le_refl _) K103.1) (Nat.le_of_eq g108.symm))) all0)
  have f113 := ((V103.ext E108).keep K111 (ninS (Nat.ne_of_lt (Nat.lt_of_lt_of_le V103.lt (Nat.le_of_eq g108.symm))) nin0))
  obtain ⟨fs, hrE, hrun, hended, hW, hsame⟩ := X111.leave (v := some (.ref b108)) (fun h => by rw [Bd.returns] at h; cases h)
  have pqE := pq112
  rw [hA0] at pqE
  refine ⟨_, _, pqE _ ?_, hrun, hended, _, _, rfl, ?_, ⟨_, rfl⟩, hW, hsame.mono (by decide) (by decide)⟩
  · show Steps pP.tables e below (T111.setTop (mkF m 38 #[.val (.ref t), .val (.int (0 : Int32)), .val (.int (40 : Int32)), .val (.ref u103), .val (.int (1 : Int32))] [(.ref b108)])) _
    exact retOut X111 hx Bd.returns rfl (Or.inr (Or.inr (Or.inr (Or.inr ⟨rfl, rfl, rfl⟩)))) (hb hby (own_d D_ns 18 rfl)) hrE
  · show Q_sub Z cs h0 n0 _ T111.heap _
    exact ⟨b108, rfl, N111, KC111, (Nat.le_trans (Nat.le_trans (Nat.le_refl _) K103.1) (Nat.le_of_eq g108.symm)), u103, _, Ex111, Fv111, Fc111, _, f113, hu103, fun c hc => hp c (List.mem_of_mem_take hc)⟩
theorem D_sub : ∀ q ∈ ([(0, .aload_n 0, 1), (1, .invokevirtual 505, 3), (4, .istore_n 3, 1), (5, .iload_n 1, 1), (6, .iload_n 2, 1), (7, .iload_n 3, 1), (8, .invokestatic 521, 3), (11, .iload_n 1, 1), (12, .ifCond .ne 10, 3), (15, .iload_n 2, 1), (16, .iload_n 3, 1), (17, .if_icmp .ne 5, 3), (22, .iload_n 2, 1), (23, .iload_n 1, 1), (24, .isub, 1), (25, .istore 4, 2), (27, .aload_n 0, 1), (28, .invokevirtual 492, 3), (31, .ifCond .eq 16, 3), (47, .aload_n 0, 1), (48, .getfield 9, 3), (51, .iload_n 1, 1), (52, .iload 4, 2), (54, .invokestatic 689, 3), (57, .areturn, 1)] : List (Nat × Instr × Nat)), decode jdk_42_method_92_code q.1 = .ok q.2 := by decide +kernel
theorem ef_rm_sub (m : MethodId) (x0 : Addr) (x1 : Int32) (x2 : Int32) : entryFrame m #[(.ref x0), (.int x1), (.int x2)] 5 = mkF m 0 #[.val (.ref x0), .val (.int x1), .val (.int x2), .unset, .unset] [] := by first | (simp [entryFrame, mkF, argsToLocals, Value.category]; done) | rfl
theorem rm_sub (l : Launch) (Z : State) (a0 : Array Value) (hw : ∀ d ∈ tables_1, d.before a0 Z = true) (ws : List Jvm.Cond) (x t : Addr) (kb : ClassId) (cs : List Int32) (vs : List Value) (G1 : Int32) (G3 : Value) (h0 : Heap) (n0 : Nat) (Z0 : n0 ≤ h0.size) (O2 : Sta Z Z.heap "java/lang/String" "COMPACT_STRINGS" "Z" (.int G1)) (P5 : ¬ (G1 = (0 : Int32))) (X00 : Old Z n0 h0) (O4 : Sta Z Z.heap "jdk/internal/util/Preconditions" "SIOOBE_FORMATTER" "Ljava/util/function/BiFunction;" G3) (rG3 : G3.isRef = true) (OA : Sta Z Z.heap "java/lang/StringUTF16" "$assertionsDisabled" "Z" (.int 1)) (OH : Sta Z Z.heap "java/lang/StringUTF16" "HI_BYTE_SHIFT" "I" (.int 0)) (OL : Sta Z Z.heap "java/lang/StringUTF16" "LO_BYTE_SHIFT" "I" (.int 8)) (E_x : Exa Z h0 x "java/lang/String") (F_c : Fld Z h0 x "java/lang/String" "coder" "B" (.int 1)) (F_v : Fld Z h0 x "java/lang/String" "value" "[B" (.ref t)) (V_t : Arv Z h0 t kb .byte (Int32.ofNat (2 * (cs).length)) vs (.int 0)) (hu : own_u16 vs cs) (hp : ∀ c ∈ cs, ¬ c < 0 ∧ ¬ (65535 : Int32) < c) (hbad : ∃ j, j < 40 ∧ (255 : Int32) < cs.getD j 0) (hn : 40 < (cs).length) (hl : (cs).length ≤ 45) :
    MetFree l y_32 (head1 (Jvm.Cond.code y_32 jdk_42_method_92_code 5 (some (.object "java/lang/String")) :: ws) r_21) (fun αs U => αs = #[(.ref x), (.int (0 : Int32)), (.int (40 : Int32))] ∧ Z.Warmed39 U.vm ∧ U.heap = h0) (fun _ _ _ _ _ => True) (fun _ Us oS Us' => ∃ vR LR, oS = .returned vR ∧ Q_sub Z cs h0 n0 vR Us'.heap LR ∧ FrameEnd Us oS Us' LR r_21.cells r_21.slots) := by
  refine MetFree.of_bodySF (plainFor_of_name pno_1) hisR ?_
  intro pP e s m args below meth cC s₁ Bd hml0 hP hK
  obtain ⟨rfl, hZ, hh⟩ := hP
  have hx := Bd.exec
  have W := own_W hw
  have hby := Bd.bytes
  have hml : cC.maxLocals = 5 := hml0
  have hown : s.vm.findClass "java/lang/String" = some m.cls := findClass_of_methodNamed Bd.named
  have hnm := (name_of_methodNamed Bd.named Bd.method).1
  have X0 : Stand pP l e r_21 s m #[(.ref x), (.int (0 : Int32)), (.int (40 : Int32))] below meth cC s₁ [] 0 0 := Stand.of_body Bd
  have e0 : s₁.heap = h0 := by rw [← hh, Bd.state]; rfl
  have N0 := Fr.nil n0
  have KC0 : Keep h0 h0 [] := Keep.refl h0 _
  obtain ⟨A0, hA0⟩ : ∃ ζ, ζ = s₁.setTop (entryFrame m #[(.ref x), (.int (0 : Int32)), (.int (40 : Int32))] 5) := ⟨_, rfl⟩
  have pre0 : own_go pP e below A0 (s₁.setTop (mkF m 0 #[.val (.ref x), .val (.int (0 : Int32)), .val (.int (40 : Int32)), .unset, .unset] [])) := fun τ κ => by rw [hA0]; exact castTop (ef_rm_sub m x (0 : Int32) (40 : Int32)) κ
  obtain ⟨cq102, kq102, q102a, q102b, q102c⟩ := isOf hZ e0 E_x
  obtain ⟨_, _, ⟨T101, L101, k101, n101⟩, -, X101, ⟨Lc101, hQ101, l101, y101, z101⟩, st101⟩ := X0.virtualBack hx (y := y_8) (z := y_8) hown (mvT hZ (W 108 rfl)) (mvT hZ (W 71 rfl)) (notFace_of_selects (args := #[]) (mvT hZ (W 73 rfl))) (mvT hZ (W 73 rfl)) (mvT hZ (W 72 rfl)) (by decide) (backOf (W := 0) (rm_lenU l Z a0 hw [] x t kb cs vs G1 h0 n0 Z0 O2 P5 X00 E_x F_c F_v V_t hu hl) hZ (W 74 rfl) (W 13 rfl) (by decide) (by decide)) q102a q102c (g := (mkF m 1 #[.val (.ref x), .val (.int (0 : Int32)), .val (.int (40 : Int32)), .unset, .unset] [(.ref x)])) rfl (by rw [hml]; rfl) (Steps.refl _) (argsL := []) (rest := []) (lenOf pdo_11 rfl) rfl (Nat.le_of_eq rfl) (hb hby (own_d D_sub 1 rfl)) (fun _ _ => ⟨rfl, e0, (by decide : 0 + 0 ≤ _), (by decide : 0 + 0 ≤ _)⟩)
  dsimp only [Pt.U, Pt.locs, Pt.cells, Pt.slots] at X101 l101 y101 z101 st101 hQ101
  subst l101 y101 z101
  obtain ⟨rfl, Nq101, eq101⟩ := hQ101
  have N101 := Fr.app N0 Nq101
  have pq103 : own_go pP e below A0 (T101.setTop (mkF m 4 #[.val (.ref x), .val (.int (0 : Int32)), .val (.int (40 : Int32)), .unset, .unset] [(.int (Int32.ofNat (cs).length))])) := by
    intro τ κ
    refine pre0 τ ?_
    refine XS.aloadN X0.here hx rfl (hb hby (own_d D_sub 0 rfl)) rfl rfl ?_
    refine st101.trans ?_
    exact κ
  obtain ⟨_, _, ⟨T104, L104, k104, n104⟩, -, X104, ⟨Lc104, hQ104, l104, y104, z104⟩, st104⟩ := Jvm.LawKit.callS X101 hx (y := y_19) hown (mvT hZ (W 109 rfl)) (mvT hZ (W 110 rfl)) (mvT hZ (W 13 rfl)) (mvT hZ (W 111 rfl)) (by decide) (backOf (W := 0) (rm_cbe l Z a0 hw [] (Int32.ofNat (cs).length) G3 h0 n0 Z0 O4 rG3 X00 (own_nlt40 (by omega) hn)) hZ (W 111 rfl) (W 13 rfl) (by decide) (by decide)) (g := (mkF m 8 #[.val (.ref x), .val (.int (0 : Int32)), .val (.int (40 : Int32)), .val (.int (Int32.ofNat (cs).length)), .unset] [(.int (Int32.ofNat (cs).length)), (.int (40 : Int32)), (.int (0 : Int32))])) rfl (by rw [hml]; rfl) (argsL := [(.int (0 : Int32)), (.int (40 : Int32)), (.int (Int32.ofNat (cs).length))]) (rest := []) (lenOf pdo_21 rfl) rfl (Nat.le_of_eq rfl) (hb hby (own_d D_sub 6 rfl)) (fun _ _ => ⟨rfl, eq101, (by decide : 0 + 0 ≤ _), (by decide : 0 + 0 ≤ _)⟩)
  dsimp only [Pt.U, Pt.locs, Pt.cells, Pt.slots] at X104 l104 y104 z104 st104 hQ104
  subst l104 y104 z104
  obtain ⟨rfl, Nq104, eq104⟩ := hQ104
  have N104 := Fr.app N101 Nq104
  have pq105 : own_go pP e below A0 (T104.setTop (mkF m 11 #[.val (.ref x), .val (.int (0 : Int32)), .val (.int (40 : Int32)), .val (.int (Int32.ofNat (cs).length)), .unset] [])) := by
    intro τ κ
    refine pq103 τ ?_
    refine XS.istoreN X101.here hx rfl (hb hby (own_d D_sub 2 rfl)) rfl (l' := #[.val (.ref x), .val (.int (0 : Int32)), .val (.int (40 : Int32)), .val (.int (Int32.ofNat (cs).length)), .unset]) rfl ?_
    refine XS.iloadN X101.here hx rfl (hb hby (own_d D_sub 3 rfl)) rfl ?_
    refine XS.iloadN X101.here hx rfl (hb hby (own_d D_sub 4 rfl)) rfl ?_
    refine XS.iloadN X101.here hx rfl (hb hby (own_d D_sub 5 rfl)) rfl ?_
    refine st104 _ ?_
    exact κ
  obtain ⟨cq107, kq107, q107a, q107b, q107c⟩ := isOf hZ eq104 E_x
  obtain ⟨_, _, ⟨T106, L106, k106, n106⟩, -, X106, ⟨Lc106, hQ106, l106, y106, z106⟩, st106⟩ := X104.virtualBack hx (y := y_7) (z := y_7) hown (mvT hZ (W 117 rfl)) (mvT hZ (W 118 rfl)) (notFace_of_selects (args := #[]) (mvT hZ (W 120 rfl))) (mvT hZ (W 120 rfl)) (mvT hZ (W 119 rfl)) (by decide) (backOf (W := 0) (rm_isl1 l Z a0 hw [] x G1 h0 n0 Z0 O2 P5 X00 F_c) hZ (W 121 rfl) (W 13 rfl) (by decide) (by decide)) q107a q107c (g := (mkF m 28 #[.val (.ref x), .val (.int (0 : Int32)), .val (.int (40 : Int32)), .val (.int (Int32.ofNat (cs).length)), .val (.int (40 : Int32))] [(.ref x)])) rfl (by rw [hml]; rfl) (Steps.refl _) (argsL := []) (rest := []) (lenOf pdo_22 rfl) rfl (Nat.le_of_eq rfl) (hb hby (own_d D_sub 17 rfl)) (fun _ _ => ⟨rfl, eq104, (by decide : 0 + 0 ≤ _), (by decide : 0 + 0 ≤ _)⟩)
  dsimp only [Pt.U, Pt.locs, Pt.cells, Pt.slots] at X106 l106 y106 z106 st106 hQ106
  subst l106 y106 z106
  obtain ⟨rfl, Nq106, eq106⟩ := hQ106
  have N106 := Fr.app N104 Nq106
  have pq108 : own_go pP e below A0 (T106.setTop (mkF m 31 #[.val (.ref x), .val (.int (0 : Int32)), .val (.int (40 : Int32)), .val (.int (Int32.ofNat (cs).length)), .val (.int (40 : Int32))] [(.int (0 : Int32))])) := by
    intro τ κ
    refine pq105 τ ?_
    refine XS.iloadN X104.here hx rfl (hb hby (own_d D_sub 7 rfl)) rfl ?_
    refine XS.ifNo X104.here hx rfl (hb hby (own_d D_sub 8 rfl)) rfl ((if0 _ _).trans (teq (by decide : ((0 : Int32) = (0 : Int32)))).2) ?_
    refine XS.iloadN X104.here hx rfl (hb hby (own_d D_sub 9 rfl)) rfl ?_
    refine XS.iloadN X104.here hx rfl (hb hby (own_d D_sub 10 rfl)) rfl ?_
    refine XS.icmpYes X104.here hx rfl (pc0 := 17) (pc' := 22) rfl (hb hby (own_d D_sub 11 rfl)) rfl (feq (own_ne40 (by omega) hn)).2 (by decide) (by decide) ?_
    refine XS.iloadN X104.here hx rfl (hb hby (own_d D_sub 12 rfl)) rfl ?_
    refine XS.iloadN X104.here hx rfl (hb hby (own_d D_sub 13 rfl)) rfl ?_
    refine XS.isub X104.here hx rfl (hb hby (own_d D_sub 14 rfl)) rfl ?_
    refine XS.istore X104.here hx rfl (hb hby (own_d D_sub 15 rfl)) rfl (l' := #[.val (.ref x), .val (.int (0 : Int32)), .val (.int (40 : Int32)), .val (.int (Int32.ofNat (cs).length)), .val (.int (40 : Int32))]) rfl ?_
    refine XS.aloadN X104.here hx rfl (hb hby (own_d D_sub 16 rfl)) rfl rfl ?_
    refine st106.trans ?_
    exact κ
  obtain ⟨T109, X109, e109, st109⟩ := getF X106 hx hZ hown (host := "") (Or.inl (W 30 rfl)) Via.refl eq106 F_v (g := (mkF m 48 #[.val (.ref x), .val (.int (0 : Int32)), .val (.int (40 : Int32)), .val (.int (Int32.ofNat (cs).length)), .val (.int (40 : Int32))] [(.ref x)])) rfl rfl (hb hby (own_d D_sub 20 rfl))
  have pq110 : own_go pP e below A0 (T109.setTop (mkF m 51 #[.val (.ref x), .val (.int (0 : Int32)), .val (.int (40 : Int32)), .val (.int (Int32.ofNat (cs).length)), .val (.int (40 : Int32))] [(.ref t)])) := by
    intro τ κ
    refine pq108 τ ?_
    refine XS.ifYes X106.here hx rfl (pc0 := 31) (pc' := 47) rfl (hb hby (own_d D_sub 18 rfl)) rfl ((if0 _ _).trans (teq (by decide : ((0 : Int32) = (0 : Int32)))).1) (by decide) (by decide) ?_
    refine XS.aloadN X106.here hx rfl (hb hby (own_d D_sub 19 rfl)) rfl rfl ?_
    refine st109 _ ?_
    exact κ
  obtain ⟨_, _, ⟨T111, L111, k111, n111⟩, -, X111, ⟨Lc111, hQ111, l111, y111, z111⟩, st111⟩ := Jvm.LawKit.callS X109 hx (y := y_31) hown (mvT hZ (W 122 rfl)) (mvT hZ (W 123 rfl)) (mvT hZ (W 39 rfl)) (mvT hZ (W 124 rfl)) (by decide) (backOf (W := 0) (rm_ns l Z a0 hw [] t kb cs vs G1 G3 h0 n0 Z0 O2 P5 X00 O4 rG3 OA OH OL V_t hu hp hbad hn hl) hZ (W 124 rfl) (W 39 rfl) (by decide) (by decide)) (g := (mkF m 54 #[.val (.ref x), .val (.int (0 : Int32)), .val (.int (40 : Int32)), .val (.int (Int32.ofNat (cs).length)), .val (.int (40 : Int32))] [(.int (40 : Int32)), (.int (0 : Int32)), (.ref t)])) rfl (by rw [hml]; rfl) (argsL := [(.ref t), (.int (0 : Int32)), (.int (40 : Int32))]) (rest := []) (lenOf pdo_23 rfl) rfl (Nat.le_of_eq rfl) (hb hby (own_d D_sub 23 rfl)) (fun _ _ => ⟨rfl, e109, (by decide : 0 + 3 ≤ _), (by decide : 0 + 444 ≤ _)⟩)
  dsimp only [Pt.U, Pt.locs, Pt.cells, Pt.slots] at X111 l111 y111 z111 st111 hQ111
  subst l111 y111 z111
  obtain ⟨a111, rfl, Nq111, K111, lb111, U111⟩ := hQ111
  have N111 := Fr.app N106 Nq111
  have pq112 : own_go pP e below A0 (T111.setTop (mkF m 57 #[.val (.ref x), .val (.int (0 : Int32)), .val (.int (40 : Int32)), .val (.int (Int32.ofNat (cs).length)), .val (.int (40 : Int32))] [(.ref a111)])) := by
    intro τ κ
    refine pq110 τ ?_
    refine XS.iloadN X109.here hx rfl (hb hby (own_d D_sub 21 rfl)) rfl ?_
    refine XS.iload X109.here hx rfl (hb hby (own_d D_sub 22 rfl)) rfl ?_
    refine st111 _ ?_
    exact κ
  have KC111 := KC0.trans K111 all0
  obtain ⟨fs, hrE, hrun, hended, hW, hsame⟩ := X111.leave (v := some (.ref a111)) (fun h => by rw [Bd.returns] at h; cases h)
  have pqE := pq112
  rw [hA0] at pqE
  refine ⟨_, _, pqE _ ?_, hrun, hended, _, _, rfl, ?_, ⟨_, rfl⟩, hW, hsame.mono (by decide) (by decide)⟩
  · show Steps pP.tables e below (T111.setTop (mkF m 57 #[.val (.ref x), .val (.int (0 : Int32)), .val (.int (40 : Int32)), .val (.int (Int32.ofNat (cs).length)), .val (.int (40 : Int32))] [(.ref a111)])) _
    exact retOut X111 hx Bd.returns rfl (Or.inr (Or.inr (Or.inr (Or.inr ⟨rfl, rfl, rfl⟩)))) (hb hby (own_d D_sub 24 rfl)) hrE
  · show Q_sub Z cs h0 n0 _ T111.heap _
    exact ⟨a111, rfl, N111, KC111, (Nat.le_trans (Nat.le_refl _) lb111), U111⟩
def Q_sb4 (Z : State) (a : Addr) (h0 : Heap) (n0 : Nat) (v : Option Value) (h : Heap) (L : List Loc) : Prop := ∃ (vb : Addr) (kv : ClassId), v = none ∧ Fr n0 L ∧ Keep h0 h [a] ∧ h0.size ≤ vb ∧ Exa Z h a "java/lang/StringBuilder" ∧ Fld Z h a "java/lang/AbstractStringBuilder" "value" "[B" (.ref vb) ∧ Fld Z h a "java/lang/AbstractStringBuilder" "coder" "B" (.int 0) ∧ Fld Z h a "java/lang/AbstractStringBuilder" "count" "I" (.int 0) ∧ Fld Z h a "java/lang/AbstractStringBuilder" "maybeLatin1" "Z" (.int 0) ∧ Arv Z h vb kv .byte (Int32.ofNat 16) [] (.int 0)
theorem D_abi : ∀ q ∈ ([(0, .aload_n 0, 1), (1, .invokespecial 3, 3), (4, .getstatic 18, 3), (7, .ifCond .eq 18, 3), (10, .aload_n 0, 1), (11, .iload_n 1, 1), (12, .newarray .byte, 2), (14, .putfield 15, 3), (17, .aload_n 0, 1), (18, .iconst 0, 1), (19, .putfield 22, 3), (22, .goto 16, 3), (38, .return_, 1)] : List (Nat × Instr × Nat)), decode jdk_68_method_2_code q.1 = .ok q.2 := by decide +kernel
theorem ef_rm_abi (m : MethodId) (x0 : Addr) (x1 : Int32) : entryFrame m #[(.ref x0), (.int x1)] 2 = mkF m 0 #[.val (.ref x0), .val (.int x1)] [] := by first | (simp [entryFrame, mkF, argsToLocals, Value.category]; done) | rfl
theorem rm_abi (l : Launch) (Z : State) (a0 : Array Value) (hw : ∀ d ∈ tables_1, d.before a0 Z = true) (ws : List Jvm.Cond) (a : Addr) (G1 : Int32) (h0 : Heap) (n0 : Nat) (Z0 : n0 ≤ h0.size) (O2 : Sta Z Z.heap "java/lang/String" "COMPACT_STRINGS" "Z" (.int G1)) (P5 : ¬ (G1 = (0 : Int32))) (X00 : Old Z n0 h0) (E_a : Exa Z h0 a "java/lang/StringBuilder") (ga : n0 ≤ a) (F_value : Fld Z h0 a "java/lang/AbstractStringBuilder" "value" "[B" .null) (F_coder : Fld Z h0 a "java/lang/AbstractStringBuilder" "coder" "B" (.int (0 : Int32))) (F_count : Fld Z h0 a "java/lang/AbstractStringBuilder" "count" "I" (.int (0 : Int32))) (F_maybeLatin1 : Fld Z h0 a "java/lang/AbstractStringBuilder" "maybeLatin1" "Z" (.int (0 : Int32))) :
    MetFree l y_33 (head1 (Jvm.Cond.code y_33 jdk_68_method_2_code 2 none :: ws) r_22) (fun αs U => αs = #[(.ref a), (.int (16 : Int32))] ∧ Z.Warmed39 U.vm ∧ U.heap = h0) (fun _ _ _ _ _ => True) (fun _ Us oS Us' => ∃ vR LR, oS = .returned vR ∧ Q_sb4 Z a h0 n0 vR Us'.heap LR ∧ FrameEnd Us oS Us' LR r_22.cells r_22.slots) := by
  refine MetFree.of_bodySF (plainFor_of_name pno_6) hisR ?_
  intro pP e s m args below meth cC s₁ Bd hml0 hP hK
  obtain ⟨rfl, hZ, hh⟩ := hP
  have hx := Bd.exec
  have W := own_W hw
  have hby := Bd.bytes
  have hml : cC.maxLocals = 2 := hml0
  have hown : s.vm.findClass "java/lang/AbstractStringBuilder" = some m.cls := findClass_of_methodNamed Bd.named
  have hnm := (name_of_methodNamed Bd.named Bd.method).1
  have X0 : Stand pP l e r_22 s m #[(.ref a), (.int (16 : Int32))] below meth cC s₁ [] 0 0 := Stand.of_body Bd
  have e0 : s₁.heap = h0 := by rw [← hh, Bd.state]; rfl
  have N0 := Fr.nil n0
  have KC0 : Keep h0 h0 [a] := Keep.refl h0 _
  obtain ⟨A0, hA0⟩ : ∃ ζ, ζ = s₁.setTop (entryFrame m #[(.ref a), (.int (16 : Int32))] 2) := ⟨_, rfl⟩
  have pre0 : own_go pP e below A0 (s₁.setTop (mkF m 0 #[.val (.ref a), .val (.int (16 : Int32))] [])) := fun τ κ => by rw [hA0]; exact castTop (ef_rm_abi m a (16 : Int32)) κ
  obtain ⟨T101, X101, e101, st101⟩ := initO X0 hx hZ hown (W 97 rfl) (W 22 rfl) (W 23 rfl) e0 (g := (mkF m 1 #[.val (.ref a), .val (.int (16 : Int32))] [(.ref a)])) rfl (by rw [hml]; rfl) rfl (hb hby (own_d D_abi 1 rfl)) (by decide) (W := 0) (Nat.le_of_eq rfl) (by decide)
  have pq102 : own_go pP e below A0 (T101.setTop (mkF m 4 #[.val (.ref a), .val (.int (16 : Int32))] [])) := by
    intro τ κ
    refine pre0 τ ?_
    refine XS.aloadN X0.here hx rfl (hb hby (own_d D_abi 0 rfl)) rfl rfl ?_
    refine st101 _ ?_
    exact κ
  obtain ⟨T103, X103, e103, st103⟩ := getS2 X101 hx hZ hown (host := "") (Or.inl (W 98 rfl)) Via.refl e101 (O2.ext X00.2) (g := (mkF m 4 #[.val (.ref a), .val (.int (16 : Int32))] [])) rfl (hb hby (own_d D_abi 2 rfl))
  have pq104 : own_go pP e below A0 (T103.setTop (mkF m 7 #[.val (.ref a), .val (.int (16 : Int32))] [(.int G1)])) := by
    intro τ κ
    refine pq102 τ ?_
    refine st103 _ ?_
    exact κ
  obtain ⟨T105, h105, k105, X105, e105, E105, A105, st105⟩ := newP X103 hx hZ (W 25 rfl) e103 (g := (mkF m 12 #[.val (.ref a), .val (.int (16 : Int32))] [(.int (16 : Int32)), (.ref a)])) rfl (hb hby (own_d D_abi 6 rfl)) rfl (by decide) (cap := 16) (by decide) (by decide) (by decide) (by decide)
  obtain ⟨b105, g105⟩ : ∃ z, z = h0.size := ⟨_, rfl⟩
  rw [← g105] at A105 st105
  have pq106 : own_go pP e below A0 (T105.setTop (mkF m 14 #[.val (.ref a), .val (.int (16 : Int32))] [(.ref b105), (.ref a)])) := by
    intro τ κ
    refine pq104 τ ?_
    refine XS.ifNo X103.here hx rfl (hb hby (own_d D_abi 3 rfl)) rfl ((if0 _ _).trans (feq P5).1) ?_
    refine XS.aloadN X103.here hx rfl (hb hby (own_d D_abi 4 rfl)) rfl rfl ?_
    refine XS.iloadN X103.here hx rfl (hb hby (own_d D_abi 5 rfl)) rfl ?_
    refine st105 _ ?_
    exact κ
  have KC105 := KC0.ext E105
  have V105 : Arv Z h105 b105 k105 .byte (16 : Int32) [] (.int (0 : Int32)) := Arv.new A105 (by decide)
  have f107 := (E_a.ext E105)
  have f108 := (F_value.ext E105)
  obtain ⟨T109, h109, X109, e109, W109, st109⟩ := putF X105 hx hZ hown (host := "") (Or.inl (W 99 rfl)) Via.refl e105 f108 f107 (Or.inl (W 100 rfl)) (W 86 rfl) (ty := (.array .byte)) (by decide) rfl rfl (g := (mkF m 14 #[.val (.ref a), .val (.int (16 : Int32))] [(.ref b105), (.ref a)])) rfl rfl (hb hby (own_d D_abi 7 rfl))
  have pq110 : own_go pP e below A0 (T109.setTop (mkF m 17 #[.val (.ref a), .val (.int (16 : Int32))] [])) := by
    intro τ κ
    refine pq106 τ ?_
    refine st109 _ ?_
    exact κ
  have KC109 := KC105.wr W109 (Or.inl (List.mem_of_getElem? (i := 0) rfl))
  have Fw109 := f108.same W109
  have N109 := Fr.snoc X109 N0 ga
  have f111 := (f107.wr W109)
  have f112 := ((F_coder.ext E105).other W109 (Or.inr (slot_ne (Or.inl (W 102 rfl)) (Or.inl (W 100 rfl)) (by decide) (t := .byte) (t' := (.array .byte)) (by decide) (by decide))))
  obtain ⟨T113, h113, X113, e113, W113, st113⟩ := putFN X109 hx hZ hown (W 101 rfl) Via.refl e109 f112 f111 (Or.inl (W 102 rfl)) (W 86 rfl) (ty := .byte) (v' := (.int (0 : Int32))) (by decide) rfl (by decide) (g := (mkF m 19 #[.val (.ref a), .val (.int (16 : Int32))] [(.int (0 : Int32)), (.ref a)])) rfl rfl (hb hby (own_d D_abi 10 rfl))
  have pq114 : own_go pP e below A0 (T113.setTop (mkF m 22 #[.val (.ref a), .val (.int (16 : Int32))] [])) := by
    intro τ κ
    refine pq110 τ ?_
    refine XS.aloadN X109.here hx rfl (hb hby (own_d D_abi 8 rfl)) rfl rfl ?_
    refine XS.iconst X109.here hx rfl (hb hby (own_d D_abi 9 rfl)) ?_
    refine st113 _ ?_
    exact κ
  have KC113 := KC109.wr W113 (Or.inl (List.mem_of_getElem? (i := 0) rfl))
  have Fw113 := f112.same W113
  have N113 := Fr.snoc X113 N109 ga
  have f115 := (f111.wr W113)
  have f116 := (Fw109.other W113 (Or.inr (slot_ne (Or.inl (W 100 rfl)) (Or.inl (W 102 rfl)) (by decide) (t := (.array .byte)) (t' := .byte) (by decide) (by decide))))
  have f117 := (((F_count.ext E105).other W109 (Or.inr (slot_ne (Or.inl (W 179 rfl)) (Or.inl (W 100 rfl)) (by decide) (t := .int) (t' := (.array .byte)) (by decide) (by decide)))).other W113 (Or.inr (slot_ne (Or.inl (W 179 rfl)) (Or.inl (W 102 rfl)) (by decide) (t := .int) (t' := .byte) (by decide) (by decide))))
  have f118 := (((F_maybeLatin1.ext E105).other W109 (Or.inr (slot_ne (Or.inl (W 266 rfl)) (Or.inl (W 100 rfl)) (by decide) (t := .boolean) (t' := (.array .byte)) (by decide) (by decide)))).other W113 (Or.inr (slot_ne (Or.inl (W 266 rfl)) (Or.inl (W 102 rfl)) (by decide) (t := .boolean) (t' := .byte) (by decide) (by decide))))
  have f119 := ((V105.other W109 (Ne.symm (Nat.ne_of_lt (Nat.lt_of_lt_of_le E_a.lt (Nat.le_of_eq g105.symm))))).other W113 (Ne.symm (Nat.ne_of_lt (Nat.lt_of_lt_of_le E_a.lt (Nat.le_of_eq g105.symm)))))
  obtain ⟨fs, hrE, hrun, hended, hW, hsame⟩ := X113.leave (v := none) (fun _ => rfl)
  have pqE := pq114
  rw [hA0] at pqE
  refine ⟨_, _, pqE _ ?_, hrun, hended, _, _, rfl, ?_, ⟨_, rfl⟩, hW, hsame.mono (by decide) (by decide)⟩
  · refine XS.goto X113.here hx rfl (pc0 := 22) (pc' := 38) rfl (hb hby (own_d D_abi 11 rfl)) (by decide) (by decide) ?_
    show Steps pP.tables e below (T113.setTop (mkF m 38 #[.val (.ref a), .val (.int (16 : Int32))] [])) _
    exact X113.returnOut hx Bd.returns (hb hby (own_d D_abi 12 rfl)) hrE
  · show Q_sb4 Z a h0 n0 _ T113.heap _
    rw [e113]
    exact ⟨b105, _, rfl, N113, KC113, (Nat.le_trans (Nat.le_refl _) (Nat.le_of_eq g105.symm)), f115, f116, Fw113, f117, f118, f119⟩
theorem D_sbi : ∀ q ∈ ([(0, .aload_n 0, 1), (1, .bipush 16, 2), (3, .invokespecial 1, 3), (6, .return_, 1)] : List (Nat × Instr × Nat)), decode jdk_67_method_1_code q.1 = .ok q.2 := by decide +kernel
theorem ef_rm_sbi (m : MethodId) (x0 : Addr) : entryFrame m #[(.ref x0)] 1 = mkF m 0 #[.val (.ref x0)] [] := by first | (simp [entryFrame, mkF, argsToLocals, Value.category]; done) | rfl
theorem rm_sbi (l : Launch) (Z : State) (a0 : Array Value) (hw : ∀ d ∈ tables_1, d.before a0 Z = true) (ws : List Jvm.Cond) (a : Addr) (G1 : Int32) (h0 : Heap) (n0 : Nat) (Z0 : n0 ≤ h0.size) (O2 : Sta Z Z.heap "java/lang/String" "COMPACT_STRINGS" "Z" (.int G1)) (P5 : ¬ (G1 = (0 : Int32))) (X00 : Old Z n0 h0) (E_a : Exa Z h0 a "java/lang/StringBuilder") (ga : n0 ≤ a) (F_value : Fld Z h0 a "java/lang/AbstractStringBuilder" "value" "[B" .null) (F_coder : Fld Z h0 a "java/lang/AbstractStringBuilder" "coder" "B" (.int (0 : Int32))) (F_count : Fld Z h0 a "java/lang/AbstractStringBuilder" "count" "I" (.int (0 : Int32))) (F_maybeLatin1 : Fld Z h0 a "java/lang/AbstractStringBuilder" "maybeLatin1" "Z" (.int (0 : Int32))) :
    MetFree l y_34 (head1 (Jvm.Cond.code y_34 jdk_67_method_1_code 1 none :: ws) r_23) (fun αs U => αs = #[(.ref a)] ∧ Z.Warmed39 U.vm ∧ U.heap = h0) (fun _ _ _ _ _ => True) (fun _ Us oS Us' => ∃ vR LR, oS = .returned vR ∧ Q_sb4 Z a h0 n0 vR Us'.heap LR ∧ FrameEnd Us oS Us' LR r_23.cells r_23.slots) := by
  refine MetFree.of_bodySF (plainFor_of_name pno_7) hisR ?_
  intro pP e s m args below meth cC s₁ Bd hml0 hP hK
  obtain ⟨rfl, hZ, hh⟩ := hP
  have hx := Bd.exec
  have W := own_W hw
  have hby := Bd.bytes
  have hml : cC.maxLocals = 1 := hml0
  have hown : s.vm.findClass "java/lang/StringBuilder" = some m.cls := findClass_of_methodNamed Bd.named
  have hnm := (name_of_methodNamed Bd.named Bd.method).1
  have X0 : Stand pP l e r_23 s m #[(.ref a)] below meth cC s₁ [] 0 0 := Stand.of_body Bd
  have e0 : s₁.heap = h0 := by rw [← hh, Bd.state]; rfl
  have N0 := Fr.nil n0
  have KC0 : Keep h0 h0 [a] := Keep.refl h0 _
  obtain ⟨A0, hA0⟩ : ∃ ζ, ζ = s₁.setTop (entryFrame m #[(.ref a)] 1) := ⟨_, rfl⟩
  have pre0 : own_go pP e below A0 (s₁.setTop (mkF m 0 #[.val (.ref a)] [])) := fun τ κ => by rw [hA0]; exact castTop (ef_rm_sbi m a) κ
  obtain ⟨_, _, ⟨T101, L101, k101, n101⟩, -, X101, ⟨Lc101, hQ101, l101, y101, z101⟩, st101⟩ := X0.specialBack hx (y := y_33) rfl hown (mvT hZ (W 91 rfl)) (mvT hZ (W 92 rfl)) (mvT hZ (W 96 rfl)) (by decide) (backOf (W := 0) (rm_abi l Z a0 hw [] a G1 h0 n0 Z0 O2 P5 X00 E_a ga F_value F_coder F_count F_maybeLatin1) hZ (W 96 rfl) (W 95 rfl) (by decide) (by decide)) (g := (mkF m 3 #[.val (.ref a)] [(.int (16 : Int32)), (.ref a)])) rfl (by rw [hml]; rfl) (Steps.refl _) (a := a) (argsL := [(.int (16 : Int32))]) (rest := []) (lenOf pdo_24 rfl) rfl (Nat.le_of_eq rfl) (hb hby (own_d D_sbi 2 rfl)) (fun _ _ => ⟨rfl, e0, (by decide : 0 + 1 ≤ _), (by decide : 0 + 16 ≤ _)⟩)
  dsimp only [Pt.U, Pt.locs, Pt.cells, Pt.slots] at X101 l101 y101 z101 st101 hQ101
  subst l101 y101 z101
  obtain ⟨vb101, kv101, rfl, Nq101, K101, lb101, Ex101, Fv101, Fc101, Fn101, Fm101, V101⟩ := hQ101
  have N101 := Fr.app N0 Nq101
  have pq102 : own_go pP e below A0 (T101.setTop (mkF m 6 #[.val (.ref a)] [])) := by
    intro τ κ
    refine pre0 τ ?_
    refine XS.aloadN X0.here hx rfl (hb hby (own_d D_sbi 0 rfl)) rfl rfl ?_
    refine XS.bipush X0.here hx rfl (hb hby (own_d D_sbi 1 rfl)) ?_
    refine st101.trans ?_
    exact κ
  have KC101 := KC0.trans K101 (allS (Or.inl (List.mem_of_getElem? (i := 0) rfl)) all0)
  obtain ⟨fs, hrE, hrun, hended, hW, hsame⟩ := X101.leave (v := none) (fun _ => rfl)
  have pqE := pq102
  rw [hA0] at pqE
  refine ⟨_, _, pqE _ ?_, hrun, hended, _, _, rfl, ?_, ⟨_, rfl⟩, hW, hsame.mono (by decide) (by decide)⟩
  · show Steps pP.tables e below (T101.setTop (mkF m 6 #[.val (.ref a)] [])) _
    exact X101.returnOut hx Bd.returns (hb hby (own_d D_sbi 3 rfl)) hrE
  · show Q_sb4 Z a h0 n0 _ T101.heap _
    exact ⟨vb101, _, rfl, N101, KC101, (Nat.le_trans (Nat.le_refl _) lb101), Ex101, Fv101, Fc101, Fn101, Fm101, V101⟩
def Q_bl0 (h0 : Heap) (n0 : Nat) (v : Option Value) (h : Heap) (L : List Loc) : Prop := v = some (.int 1) ∧ Fr n0 L ∧ h = h0
theorem D_bl0 : ∀ q ∈ ([(0, .getstatic 18, 3), (3, .ifCond .eq 14, 3), (6, .aload_n 0, 1), (7, .getfield 22, 3), (10, .ifCond .ne 7, 3), (13, .iconst 1, 1), (14, .goto 4, 3), (18, .ireturn, 1)] : List (Nat × Instr × Nat)), decode jdk_68_method_68_code q.1 = .ok q.2 := by decide +kernel
theorem ef_rm_bl0 (m : MethodId) (x0 : Addr) : entryFrame m #[(.ref x0)] 1 = mkF m 0 #[.val (.ref x0)] [] := by first | (simp [entryFrame, mkF, argsToLocals, Value.category]; done) | rfl
theorem rm_bl0 (l : Launch) (Z : State) (a0 : Array Value) (hw : ∀ d ∈ tables_1, d.before a0 Z = true) (ws : List Jvm.Cond) (a : Addr) (G1 : Int32) (h0 : Heap) (n0 : Nat) (Z0 : n0 ≤ h0.size) (O2 : Sta Z Z.heap "java/lang/String" "COMPACT_STRINGS" "Z" (.int G1)) (P5 : ¬ (G1 = (0 : Int32))) (X00 : Old Z n0 h0) (F : Fld Z h0 a "java/lang/AbstractStringBuilder" "coder" "B" (.int 0)) :
    MetFree l y_35 (head1 (Jvm.Cond.code y_35 jdk_68_method_68_code 1 (some .boolean) :: ws) r_2) (fun αs U => αs = #[(.ref a)] ∧ Z.Warmed39 U.vm ∧ U.heap = h0) (fun _ _ _ _ _ => True) (fun _ Us oS Us' => ∃ vR LR, oS = .returned vR ∧ Q_bl0 h0 n0 vR Us'.heap LR ∧ FrameEnd Us oS Us' LR r_2.cells r_2.slots) := by
  refine MetFree.of_bodySF (plainFor_of_name pno_6) hisR ?_
  intro pP e s m args below meth cC s₁ Bd hml0 hP hK
  obtain ⟨rfl, hZ, hh⟩ := hP
  have hx := Bd.exec
  have W := own_W hw
  have hby := Bd.bytes
  have hml : cC.maxLocals = 1 := hml0
  have hown : s.vm.findClass "java/lang/AbstractStringBuilder" = some m.cls := findClass_of_methodNamed Bd.named
  have hnm := (name_of_methodNamed Bd.named Bd.method).1
  have X0 : Stand pP l e r_2 s m #[(.ref a)] below meth cC s₁ [] 0 0 := Stand.of_body Bd
  have e0 : s₁.heap = h0 := by rw [← hh, Bd.state]; rfl
  have N0 := Fr.nil n0
  have KC0 : Keep h0 h0 [] := Keep.refl h0 _
  obtain ⟨A0, hA0⟩ : ∃ ζ, ζ = s₁.setTop (entryFrame m #[(.ref a)] 1) := ⟨_, rfl⟩
  have pre0 : own_go pP e below A0 (s₁.setTop (mkF m 0 #[.val (.ref a)] [])) := fun τ κ => by rw [hA0]; exact castTop (ef_rm_bl0 m a) κ
  obtain ⟨T101, X101, e101, st101⟩ := getS2 X0 hx hZ hown (host := "") (Or.inl (W 98 rfl)) Via.refl e0 (O2.ext X00.2) (g := (mkF m 0 #[.val (.ref a)] [])) rfl (hb hby (own_d D_bl0 0 rfl))
  have pq102 : own_go pP e below A0 (T101.setTop (mkF m 3 #[.val (.ref a)] [(.int G1)])) := by
    intro τ κ
    refine pre0 τ ?_
    refine st101 _ ?_
    exact κ
  obtain ⟨T103, X103, e103, st103⟩ := getF X101 hx hZ hown (host := "") (Or.inl (W 101 rfl)) Via.refl e101 F (g := (mkF m 7 #[.val (.ref a)] [(.ref a)])) rfl rfl (hb hby (own_d D_bl0 3 rfl))
  have pq104 : own_go pP e below A0 (T103.setTop (mkF m 10 #[.val (.ref a)] [(.int (0 : Int32))])) := by
    intro τ κ
    refine pq102 τ ?_
    refine XS.ifNo X101.here hx rfl (hb hby (own_d D_bl0 1 rfl)) rfl ((if0 _ _).trans (feq P5).1) ?_
    refine XS.aloadN X101.here hx rfl (hb hby (own_d D_bl0 2 rfl)) rfl rfl ?_
    refine st103 _ ?_
    exact κ
  obtain ⟨fs, hrE, hrun, hended, hW, hsame⟩ := X103.leave (v := some (.int (1 : Int32))) (fun h => by rw [Bd.returns] at h; cases h)
  have pqE := pq104
  rw [hA0] at pqE
  refine ⟨_, _, pqE _ ?_, hrun, hended, _, _, rfl, ?_, ⟨_, rfl⟩, hW, hsame.mono (by decide) (by decide)⟩
  · refine XS.ifNo X103.here hx rfl (hb hby (own_d D_bl0 4 rfl)) rfl ((if0 _ _).trans (teq (by decide : ((0 : Int32) = (0 : Int32)))).2) ?_
    refine XS.iconst X103.here hx rfl (hb hby (own_d D_bl0 5 rfl)) ?_
    refine XS.goto X103.here hx rfl (pc0 := 14) (pc' := 18) rfl (hb hby (own_d D_bl0 6 rfl)) (by decide) (by decide) ?_
    show Steps pP.tables e below (T103.setTop (mkF m 18 #[.val (.ref a)] [(.int (1 : Int32))])) _
    exact retN X103 hx (t := .boolean) Bd.returns (by simp) (hb hby (own_d D_bl0 7 rfl)) hrE
  · show Q_bl0 h0 n0 _ T103.heap _
    rw [e103]
    exact ⟨rfl, N0, rfl⟩
def Q_bl1 (h0 : Heap) (n0 : Nat) (v : Option Value) (h : Heap) (L : List Loc) : Prop := v = some (.int 0) ∧ Fr n0 L ∧ h = h0
theorem D_bl1 : ∀ q ∈ ([(0, .getstatic 18, 3), (3, .ifCond .eq 14, 3), (6, .aload_n 0, 1), (7, .getfield 22, 3), (10, .ifCond .ne 7, 3), (17, .iconst 0, 1), (18, .ireturn, 1)] : List (Nat × Instr × Nat)), decode jdk_68_method_68_code q.1 = .ok q.2 := by decide +kernel
theorem ef_rm_bl1 (m : MethodId) (x0 : Addr) : entryFrame m #[(.ref x0)] 1 = mkF m 0 #[.val (.ref x0)] [] := by first | (simp [entryFrame, mkF, argsToLocals, Value.category]; done) | rfl
theorem rm_bl1 (l : Launch) (Z : State) (a0 : Array Value) (hw : ∀ d ∈ tables_1, d.before a0 Z = true) (ws : List Jvm.Cond) (a : Addr) (G1 : Int32) (h0 : Heap) (n0 : Nat) (Z0 : n0 ≤ h0.size) (O2 : Sta Z Z.heap "java/lang/String" "COMPACT_STRINGS" "Z" (.int G1)) (P5 : ¬ (G1 = (0 : Int32))) (X00 : Old Z n0 h0) (F : Fld Z h0 a "java/lang/AbstractStringBuilder" "coder" "B" (.int 1)) :
    MetFree l y_35 (head1 (Jvm.Cond.code y_35 jdk_68_method_68_code 1 (some .boolean) :: ws) r_2) (fun αs U => αs = #[(.ref a)] ∧ Z.Warmed39 U.vm ∧ U.heap = h0) (fun _ _ _ _ _ => True) (fun _ Us oS Us' => ∃ vR LR, oS = .returned vR ∧ Q_bl1 h0 n0 vR Us'.heap LR ∧ FrameEnd Us oS Us' LR r_2.cells r_2.slots) := by
  refine MetFree.of_bodySF (plainFor_of_name pno_6) hisR ?_
  intro pP e s m args below meth cC s₁ Bd hml0 hP hK
  obtain ⟨rfl, hZ, hh⟩ := hP
  have hx := Bd.exec
  have W := own_W hw
  have hby := Bd.bytes
  have hml : cC.maxLocals = 1 := hml0
  have hown : s.vm.findClass "java/lang/AbstractStringBuilder" = some m.cls := findClass_of_methodNamed Bd.named
  have hnm := (name_of_methodNamed Bd.named Bd.method).1
  have X0 : Stand pP l e r_2 s m #[(.ref a)] below meth cC s₁ [] 0 0 := Stand.of_body Bd
  have e0 : s₁.heap = h0 := by rw [← hh, Bd.state]; rfl
  have N0 := Fr.nil n0
  have KC0 : Keep h0 h0 [] := Keep.refl h0 _
  obtain ⟨A0, hA0⟩ : ∃ ζ, ζ = s₁.setTop (entryFrame m #[(.ref a)] 1) := ⟨_, rfl⟩
  have pre0 : own_go pP e below A0 (s₁.setTop (mkF m 0 #[.val (.ref a)] [])) := fun τ κ => by rw [hA0]; exact castTop (ef_rm_bl1 m a) κ
  obtain ⟨T101, X101, e101, st101⟩ := getS2 X0 hx hZ hown (host := "") (Or.inl (W 98 rfl)) Via.refl e0 (O2.ext X00.2) (g := (mkF m 0 #[.val (.ref a)] [])) rfl (hb hby (own_d D_bl1 0 rfl))
  have pq102 : own_go pP e below A0 (T101.setTop (mkF m 3 #[.val (.ref a)] [(.int G1)])) := by
    intro τ κ
    refine pre0 τ ?_
    refine st101 _ ?_
    exact κ
  obtain ⟨T103, X103, e103, st103⟩ := getF X101 hx hZ hown (host := "") (Or.inl (W 101 rfl)) Via.refl e101 F (g := (mkF m 7 #[.val (.ref a)] [(.ref a)])) rfl rfl (hb hby (own_d D_bl1 3 rfl))
  have pq104 : own_go pP e below A0 (T103.setTop (mkF m 10 #[.val (.ref a)] [(.int (1 : Int32))])) := by
    intro τ κ
    refine pq102 τ ?_
    refine XS.ifNo X101.here hx rfl (hb hby (own_d D_bl1 1 rfl)) rfl ((if0 _ _).trans (feq P5).1) ?_
    refine XS.aloadN X101.here hx rfl (hb hby (own_d D_bl1 2 rfl)) rfl rfl ?_
    refine st103 _ ?_
    exact κ
  obtain ⟨fs, hrE, hrun, hended, hW, hsame⟩ := X103.leave (v := some (.int (0 : Int32))) (fun h => by rw [Bd.returns] at h; cases h)
  have pqE := pq104
  rw [hA0] at pqE
  refine ⟨_, _, pqE _ ?_, hrun, hended, _, _, rfl, ?_, ⟨_, rfl⟩, hW, hsame.mono (by decide) (by decide)⟩
  · refine XS.ifYes X103.here hx rfl (pc0 := 10) (pc' := 17) rfl (hb hby (own_d D_bl1 4 rfl)) rfl ((if0 _ _).trans (feq (by decide : ¬ ((1 : Int32) = (0 : Int32)))).2) (by decide) (by decide) ?_
    refine XS.iconst X103.here hx rfl (hb hby (own_d D_bl1 5 rfl)) ?_
    show Steps pP.tables e below (T103.setTop (mkF m 18 #[.val (.ref a)] [(.int (0 : Int32))])) _
    exact retN X103 hx (t := .boolean) Bd.returns (by simp) (hb hby (own_d D_bl1 6 rfl)) hrE
  · show Q_bl1 h0 n0 _ T103.heap _
    rw [e103]
    exact ⟨rfl, N0, rfl⟩
theorem D_cof : ∀ q ∈ ([(0, .iload_n 1, 1), (1, .aload_n 0, 1), (2, .arraylength, 1), (3, .if_icmp .ne 11, 3), (14, .iload_n 1, 1), (15, .newarray .byte, 2), (17, .astore_n 2, 1), (18, .aload_n 0, 1), (19, .iconst 0, 1), (20, .aload_n 2, 1), (21, .iconst 0, 1), (22, .aload_n 0, 1), (23, .arraylength, 1), (24, .iload_n 1, 1), (25, .invokestatic 304, 3), (28, .invokestatic 150, 3), (31, .aload_n 2, 1), (32, .areturn, 1)] : List (Nat × Instr × Nat)), decode jdk_65_method_121_code q.1 = .ok q.2 := by decide +kernel
theorem ef_rm_cof (m : MethodId) (x0 : Addr) (x1 : Int32) : entryFrame m #[(.ref x0), (.int x1)] 3 = mkF m 0 #[.val (.ref x0), .val (.int x1), .unset] [] := by first | (simp [entryFrame, mkF, argsToLocals, Value.category]; done) | rfl
theorem rm_cof (l : Launch) (Z : State) (a0 : Array Value) (hw : ∀ d ∈ tables_1, d.before a0 Z = true) (ws : List Jvm.Cond) (t : Addr) (kb : ClassId) (k M : Nat) (vs : List Value) (h0 : Heap) (n0 : Nat) (Z0 : n0 ≤ h0.size) (V_t : Arv Z h0 t kb .byte (Int32.ofNat k) vs (.int 0)) (hk : M < 400) (hM : k < M) :
    MetFree l y_36 (head1 (Jvm.Cond.code y_36 jdk_65_method_121_code 3 (some (.array .byte)) :: ws) r_16) (fun αs U => αs = #[(.ref t), (.int (Int32.ofNat M))] ∧ Z.Warmed39 U.vm ∧ U.heap = h0) (fun _ _ _ _ _ => True) (fun _ Us oS Us' => ∃ vR LR, oS = .returned vR ∧ Q_cor Z M k vs h0 n0 vR Us'.heap LR ∧ FrameEnd Us oS Us' LR r_16.cells r_16.slots) := by
  refine MetFree.of_bodySF (plainFor_of_name pno_5) hisR ?_
  intro pP e s m args below meth cC s₁ Bd hml0 hP hK
  obtain ⟨rfl, hZ, hh⟩ := hP
  have hx := Bd.exec
  have W := own_W hw
  have hby := Bd.bytes
  have hml : cC.maxLocals = 3 := hml0
  have hown : s.vm.findClass "java/util/Arrays" = some m.cls := findClass_of_methodNamed Bd.named
  have hnm := (name_of_methodNamed Bd.named Bd.method).1
  have X0 : Stand pP l e r_16 s m #[(.ref t), (.int (Int32.ofNat M))] below meth cC s₁ [] 0 0 := Stand.of_body Bd
  have e0 : s₁.heap = h0 := by rw [← hh, Bd.state]; rfl
  have N0 := Fr.nil n0
  have KC0 : Keep h0 h0 [] := Keep.refl h0 _
  obtain ⟨A0, hA0⟩ : ∃ ζ, ζ = s₁.setTop (entryFrame m #[(.ref t), (.int (Int32.ofNat M))] 3) := ⟨_, rfl⟩
  have pre0 : own_go pP e below A0 (s₁.setTop (mkF m 0 #[.val (.ref t), .val (.int (Int32.ofNat M)), .unset] [])) := fun τ κ => by rw [hA0]; exact castTop (ef_rm_cof m t (Int32.ofNat M)) κ
  obtain ⟨cl101, Ar101, q101, S101, M101, Hs101, G101⟩ := id V_t
  obtain ⟨T102, h102, k102, X102, e102, E102, A102, st102⟩ := newP X0 hx hZ (W 25 rfl) e0 (g := (mkF m 15 #[.val (.ref t), .val (.int (Int32.ofNat M)), .unset] [(.int (Int32.ofNat M))])) rfl (hb hby (own_d D_cof 5 rfl)) rfl (own_nn (by omega)) (cap := 400) (by rw [own_ofn (by omega)]; omega) (by decide) (by decide) (by decide)
  obtain ⟨b102, g102⟩ : ∃ z, z = h0.size := ⟨_, rfl⟩
  rw [← g102] at A102 st102
  have pq103 : own_go pP e below A0 (T102.setTop (mkF m 17 #[.val (.ref t), .val (.int (Int32.ofNat M)), .unset] [(.ref b102)])) := by
    intro τ κ
    refine pre0 τ ?_
    refine XS.iloadN X0.here hx rfl (hb hby (own_d D_cof 0 rfl)) rfl ?_
    refine XS.aloadN X0.here hx rfl (hb hby (own_d D_cof 1 rfl)) rfl rfl ?_
    refine X0.arraylength hx (by rw [e0]; exact Ar101.1) (State.isArrayOf_alike hZ.alike Ar101.2.1) (g := (mkF m 2 #[.val (.ref t), .val (.int (Int32.ofNat M)), .unset] [(.ref t), (.int (Int32.ofNat M))])) rfl rfl (hb hby (own_d D_cof 2 rfl)) _ ?_
    rw [len_of S101 M101]
    refine XS.icmpYes X0.here hx rfl (pc0 := 3) (pc' := 14) rfl (hb hby (own_d D_cof 3 rfl)) rfl (feq (fun q => own_nej hM (by omega) (Eq.symm q))).2 (by decide) (by decide) ?_
    refine XS.iloadN X0.here hx rfl (hb hby (own_d D_cof 4 rfl)) rfl ?_
    refine st102 _ ?_
    exact κ
  have KC102 := KC0.ext E102
  have V102 : Arv Z h102 b102 k102 .byte (Int32.ofNat M) [] (.int (0 : Int32)) := Arv.new A102 (own_nn (by omega))
  have f104 := (V_t.ext E102)
  obtain ⟨cl105, Ar105, q105, S105, M105, Hs105, G105⟩ := id f104
  have f106 := (Nat.le_trans Z0 E102.1)
  obtain ⟨_, _, ⟨T107, L107, k107, n107⟩, -, X107, ⟨Lc107, hQ107, l107, y107, z107⟩, st107⟩ := Jvm.LawKit.callS X102 hx (y := y_26) hown (mvT hZ (W 154 rfl)) (mvT hZ (W 155 rfl)) (mvT hZ (W 156 rfl)) (mvT hZ (W 157 rfl)) (by decide) (backOf (W := 4) (rm_miz l Z a0 hw [] (Int32.ofNat k) (Int32.ofNat M) h102 n0 f106 (mt (own_ltN (by omega) (by omega)).mp (by omega))) hZ (W 157 rfl) (W 156 rfl) (by decide) (by decide)) (g := (mkF m 25 #[.val (.ref t), .val (.int (Int32.ofNat M)), .val (.ref b102)] [(.int (Int32.ofNat M)), (.int (Int32.ofNat k)), (.int (0 : Int32)), (.ref b102), (.int (0 : Int32)), (.ref t)])) rfl (by rw [hml]; rfl) (argsL := [(.int (Int32.ofNat k)), (.int (Int32.ofNat M))]) (rest := [(.int (0 : Int32)), (.ref b102), (.int (0 : Int32)), (.ref t)]) (lenOf pdo_17 rfl) rfl (Nat.le_of_eq rfl) (hb hby (own_d D_cof 14 rfl)) (fun _ _ => ⟨rfl, e102, (by decide : 1 + 0 ≤ _), (by decide : 400 + 0 ≤ _)⟩)
  dsimp only [Pt.U, Pt.locs, Pt.cells, Pt.slots] at X107 l107 y107 z107 st107 hQ107
  subst l107 y107 z107
  obtain ⟨rfl, Nq107, eq107⟩ := hQ107
  have N107 := Fr.app N0 Nq107
  have pq108 : own_go pP e below A0 (T107.setTop (mkF m 28 #[.val (.ref t), .val (.int (Int32.ofNat M)), .val (.ref b102)] [(.int (Int32.ofNat k)), (.int (0 : Int32)), (.ref b102), (.int (0 : Int32)), (.ref t)])) := by
    intro τ κ
    refine pq103 τ ?_
    refine XS.astoreN X102.here hx rfl (hb hby (own_d D_cof 6 rfl)) rfl rfl (l' := #[.val (.ref t), .val (.int (Int32.ofNat M)), .val (.ref b102)]) rfl ?_
    refine XS.aloadN X102.here hx rfl (hb hby (own_d D_cof 7 rfl)) rfl rfl ?_
    refine XS.iconst X102.here hx rfl (hb hby (own_d D_cof 8 rfl)) ?_
    refine XS.aloadN X102.here hx rfl (hb hby (own_d D_cof 9 rfl)) rfl rfl ?_
    refine XS.iconst X102.here hx rfl (hb hby (own_d D_cof 10 rfl)) ?_
    refine XS.aloadN X102.here hx rfl (hb hby (own_d D_cof 11 rfl)) rfl rfl ?_
    refine X102.arraylength hx (by rw [e102]; exact Ar105.1) (State.isArrayOf_alike hZ.alike Ar105.2.1) (g := (mkF m 23 #[.val (.ref t), .val (.int (Int32.ofNat M)), .val (.ref b102)] [(.ref t), (.int (0 : Int32)), (.ref b102), (.int (0 : Int32)), (.ref t)])) rfl rfl (hb hby (own_d D_cof 12 rfl)) _ ?_
    rw [len_of S105 M105]
    refine XS.iloadN X102.here hx rfl (hb hby (own_d D_cof 13 rfl)) rfl ?_
    refine st107 _ ?_
    exact κ
  obtain ⟨T109, h109, L109, X109, e109, N109, K109, V109a, st109⟩ := cpA X107 hx hZ hown (W 158 rfl) (W 161 rfl) (W 159 rfl) (W 160 rfl) eq107 f104 (V102.pad (pad_rep [] (.int 0) (M))) (Or.inl ⟨rfl, rfl⟩) (by decide) (by decide) (own_nn (by omega)) (own_le0 (by omega) (by omega) (by omega)) (own_le0 (by omega) (by omega) (by omega)) rfl (own_le1 (by omega) (by omega)) N107 (Nat.le_trans Z0 (Nat.le_of_eq g102.symm)) (g := (mkF m 28 #[.val (.ref t), .val (.int (Int32.ofNat M)), .val (.ref b102)] [(.int (Int32.ofNat k)), (.int (0 : Int32)), (.ref b102), (.int (0 : Int32)), (.ref t)])) rfl (by rw [hml]; rfl) rfl (hb hby (own_d D_cof 15 rfl)) (by decide) (W := 0) (Nat.le_of_eq rfl) (by decide)
  have pq110 : own_go pP e below A0 (T109.setTop (mkF m 31 #[.val (.ref t), .val (.int (Int32.ofNat M)), .val (.ref b102)] [])) := by
    intro τ κ
    refine pq108 τ ?_
    refine st109 _ ?_
    exact κ
  have KC109 := KC102.trans K109 (allS (Or.inr (Nat.le_trans (Nat.le_refl _) (Nat.le_of_eq g102.symm))) all0)
  have V109 : Arv Z h109 b102 k102 .byte (Int32.ofNat M) (own_cp vs (k)) (.int 0) := own_cp0 (by omega) V109a
  obtain ⟨fs, hrE, hrun, hended, hW, hsame⟩ := X109.leave (v := some (.ref b102)) (fun h => by rw [Bd.returns] at h; cases h)
  have pqE := pq110
  rw [hA0] at pqE
  refine ⟨_, _, pqE _ ?_, hrun, hended, _, _, rfl, ?_, ⟨_, rfl⟩, hW, hsame.mono (by decide) (by decide)⟩
  · refine XS.aloadN X109.here hx rfl (hb hby (own_d D_cof 16 rfl)) rfl rfl ?_
    show Steps pP.tables e below (T109.setTop (mkF m 32 #[.val (.ref t), .val (.int (Int32.ofNat M)), .val (.ref b102)] [(.ref b102)])) _
    exact retOut X109 hx Bd.returns rfl (Or.inr (Or.inr (Or.inr (Or.inr ⟨rfl, rfl, rfl⟩)))) (hb hby (own_d D_cof 17 rfl)) hrE
  · show Q_cor Z M k vs h0 n0 _ T109.heap _
    rw [e109]
    exact ⟨b102, _, rfl, N109, KC109, (Nat.le_trans (Nat.le_refl _) (Nat.le_of_eq g102.symm)), V109⟩
def Q_mxa (h0 : Heap) (n0 : Nat) (v : Option Value) (h : Heap) (L : List Loc) : Prop := v = some (.int 24) ∧ Fr n0 L ∧ h = h0
theorem D_mxa : ∀ q ∈ ([(0, .iload_n 0, 1), (1, .iload_n 1, 1), (2, .if_icmp .lt 7, 3), (5, .iload_n 0, 1), (6, .goto 4, 3), (10, .ireturn, 1)] : List (Nat × Instr × Nat)), decode jdk_29_method_65_code q.1 = .ok q.2 := by decide +kernel
theorem ef_rm_mxa (m : MethodId) (x0 : Int32) (x1 : Int32) : entryFrame m #[(.int x0), (.int x1)] 2 = mkF m 0 #[.val (.int x0), .val (.int x1)] [] := by first | (simp [entryFrame, mkF, argsToLocals, Value.category]; done) | rfl
theorem rm_mxa (l : Launch) (Z : State) (a0 : Array Value) (hw : ∀ d ∈ tables_1, d.before a0 Z = true) (ws : List Jvm.Cond)  (h0 : Heap) (n0 : Nat) (Z0 : n0 ≤ h0.size) :
    MetFree l y_37 (head1 (Jvm.Cond.code y_37 jdk_29_method_65_code 2 (some .int) :: ws) r_2) (fun αs U => αs = #[(.int (24 : Int32)), (.int (18 : Int32))] ∧ Z.Warmed39 U.vm ∧ U.heap = h0) (fun _ _ _ _ _ => True) (fun _ Us oS Us' => ∃ vR LR, oS = .returned vR ∧ Q_mxa h0 n0 vR Us'.heap LR ∧ FrameEnd Us oS Us' LR r_2.cells r_2.slots) := by
  refine MetFree.of_bodySF (Jvm.Free.JP.mathPlain rfl (by decide +kernel)) hisR ?_
  intro pP e s m args below meth cC s₁ Bd hml0 hP hK
  obtain ⟨rfl, hZ, hh⟩ := hP
  have hx := Bd.exec
  have hby := Bd.bytes
  have hml : cC.maxLocals = 2 := hml0
  have hown : s.vm.findClass "java/lang/Math" = some m.cls := findClass_of_methodNamed Bd.named
  have hnm := (name_of_methodNamed Bd.named Bd.method).1
  have X0 : Stand pP l e r_2 s m #[(.int (24 : Int32)), (.int (18 : Int32))] below meth cC s₁ [] 0 0 := Stand.of_body Bd
  have e0 : s₁.heap = h0 := by rw [← hh, Bd.state]; rfl
  have N0 := Fr.nil n0
  have KC0 : Keep h0 h0 [] := Keep.refl h0 _
  obtain ⟨A0, hA0⟩ : ∃ ζ, ζ = s₁.setTop (entryFrame m #[(.int (24 : Int32)), (.int (18 : Int32))] 2) := ⟨_, rfl⟩
  have pre0 : own_go pP e below A0 (s₁.setTop (mkF m 0 #[.val (.int (24 : Int32)), .val (.int (18 : Int32))] [])) := fun τ κ => by rw [hA0]; exact castTop (ef_rm_mxa m (24 : Int32) (18 : Int32)) κ
  obtain ⟨fs, hrE, hrun, hended, hW, hsame⟩ := X0.leave (v := some (.int (24 : Int32))) (fun h => by rw [Bd.returns] at h; cases h)
  have pqE := pre0
  rw [hA0] at pqE
  refine ⟨_, _, pqE _ ?_, hrun, hended, _, _, rfl, ?_, ⟨_, rfl⟩, hW, hsame.mono (by decide) (by decide)⟩
  · refine XS.iloadN X0.here hx rfl (hb hby (own_d D_mxa 0 rfl)) rfl ?_
    refine XS.iloadN X0.here hx rfl (hb hby (own_d D_mxa 1 rfl)) rfl ?_
    refine XS.icmpNo X0.here hx rfl (hb hby (own_d D_mxa 2 rfl)) rfl (flt (by decide : ¬ ((24 : Int32) < (18 : Int32)))).1 ?_
    refine XS.iloadN X0.here hx rfl (hb hby (own_d D_mxa 3 rfl)) rfl ?_
    refine XS.goto X0.here hx rfl (pc0 := 6) (pc' := 10) rfl (hb hby (own_d D_mxa 4 rfl)) (by decide) (by decide) ?_
    show Steps pP.tables e below (s₁.setTop (mkF m 10 #[.val (.int (24 : Int32)), .val (.int (18 : Int32))] [(.int (24 : Int32))])) _
    exact retOut X0 hx Bd.returns rfl (Or.inl ⟨rfl, Or.inl rfl, _, rfl⟩) (hb hby (own_d D_mxa 5 rfl)) hrE
  · show Q_mxa h0 n0 _ s₁.heap _
    rw [e0]
    exact ⟨rfl, N0, rfl⟩
def Q_nla (h0 : Heap) (n0 : Nat) (v : Option Value) (h : Heap) (L : List Loc) : Prop := v = some (.int 40) ∧ Fr n0 L ∧ h = h0
theorem D_nla : ∀ q ∈ ([(0, .iload_n 0, 1), (1, .iload_n 1, 1), (2, .iload_n 2, 1), (3, .invokestatic 194, 3), (6, .iadd, 1), (7, .istore_n 3, 1), (8, .iconst 0, 1), (9, .iload_n 3, 1), (10, .if_icmp .ge 11, 3), (13, .iload_n 3, 1), (14, .ldc 200, 2), (16, .if_icmp .gt 5, 3), (19, .iload_n 3, 1), (20, .ireturn, 1)] : List (Nat × Instr × Nat)), decode jdk_48_method_27_code q.1 = .ok q.2 := by decide +kernel
theorem ef_rm_nla (m : MethodId) (x0 : Int32) (x1 : Int32) (x2 : Int32) : entryFrame m #[(.int x0), (.int x1), (.int x2)] 4 = mkF m 0 #[.val (.int x0), .val (.int x1), .val (.int x2), .unset] [] := by first | (simp [entryFrame, mkF, argsToLocals, Value.category]; done) | rfl
theorem rm_nla (l : Launch) (Z : State) (a0 : Array Value) (hw : ∀ d ∈ tables_1, d.before a0 Z = true) (ws : List Jvm.Cond)  (h0 : Heap) (n0 : Nat) (Z0 : n0 ≤ h0.size) :
    MetFree l y_38 (head1 (Jvm.Cond.code y_38 jdk_48_method_27_code 4 (some .int) :: ws) r_24) (fun αs U => αs = #[(.int (16 : Int32)), (.int (24 : Int32)), (.int (18 : Int32))] ∧ Z.Warmed39 U.vm ∧ U.heap = h0) (fun _ _ _ _ _ => True) (fun _ Us oS Us' => ∃ vR LR, oS = .returned vR ∧ Q_nla h0 n0 vR Us'.heap LR ∧ FrameEnd Us oS Us' LR r_24.cells r_24.slots) := by
  refine MetFree.of_bodySF (plainFor_of_name pno_8) hisR ?_
  intro pP e s m args below meth cC s₁ Bd hml0 hP hK
  obtain ⟨rfl, hZ, hh⟩ := hP
  have hx := Bd.exec
  have W := own_W hw
  have hby := Bd.bytes
  have hml : cC.maxLocals = 4 := hml0
  have hown : s.vm.findClass "jdk/internal/util/ArraysSupport" = some m.cls := findClass_of_methodNamed Bd.named
  have hnm := (name_of_methodNamed Bd.named Bd.method).1
  have X0 : Stand pP l e r_24 s m #[(.int (16 : Int32)), (.int (24 : Int32)), (.int (18 : Int32))] below meth cC s₁ [] 0 0 := Stand.of_body Bd
  have e0 : s₁.heap = h0 := by rw [← hh, Bd.state]; rfl
  have N0 := Fr.nil n0
  have KC0 : Keep h0 h0 [] := Keep.refl h0 _
  obtain ⟨A0, hA0⟩ : ∃ ζ, ζ = s₁.setTop (entryFrame m #[(.int (16 : Int32)), (.int (24 : Int32)), (.int (18 : Int32))] 4) := ⟨_, rfl⟩
  have pre0 : own_go pP e below A0 (s₁.setTop (mkF m 0 #[.val (.int (16 : Int32)), .val (.int (24 : Int32)), .val (.int (18 : Int32)), .unset] [])) := fun τ κ => by rw [hA0]; exact castTop (ef_rm_nla m (16 : Int32) (24 : Int32) (18 : Int32)) κ
  obtain ⟨_, _, ⟨T101, L101, k101, n101⟩, -, X101, ⟨Lc101, hQ101, l101, y101, z101⟩, st101⟩ := Jvm.LawKit.callS X0 hx (y := y_37) hown (mvT hZ (W 194 rfl)) (mvT hZ (W 195 rfl)) (mvT hZ (W 156 rfl)) (mvT hZ (W 196 rfl)) (by decide) (backOf (W := 1) (rm_mxa l Z a0 hw []  h0 n0 Z0 ) hZ (W 196 rfl) (W 156 rfl) (by decide) (by decide)) (g := (mkF m 3 #[.val (.int (16 : Int32)), .val (.int (24 : Int32)), .val (.int (18 : Int32)), .unset] [(.int (18 : Int32)), (.int (24 : Int32)), (.int (16 : Int32))])) rfl (by rw [hml]; rfl) (argsL := [(.int (24 : Int32)), (.int (18 : Int32))]) (rest := [(.int (16 : Int32))]) (lenOf pdo_17 rfl) rfl (Nat.le_of_eq rfl) (hb hby (own_d D_nla 3 rfl)) (fun _ _ => ⟨rfl, e0, (by decide : 0 + 0 ≤ _), (by decide : 0 + 0 ≤ _)⟩)
  dsimp only [Pt.U, Pt.locs, Pt.cells, Pt.slots] at X101 l101 y101 z101 st101 hQ101
  subst l101 y101 z101
  obtain ⟨rfl, Nq101, eq101⟩ := hQ101
  have N101 := Fr.app N0 Nq101
  have pq102 : own_go pP e below A0 (T101.setTop (mkF m 6 #[.val (.int (16 : Int32)), .val (.int (24 : Int32)), .val (.int (18 : Int32)), .unset] [(.int (24 : Int32)), (.int (16 : Int32))])) := by
    intro τ κ
    refine pre0 τ ?_
    refine XS.iloadN X0.here hx rfl (hb hby (own_d D_nla 0 rfl)) rfl ?_
    refine XS.iloadN X0.here hx rfl (hb hby (own_d D_nla 1 rfl)) rfl ?_
    refine XS.iloadN X0.here hx rfl (hb hby (own_d D_nla 2 rfl)) rfl ?_
    refine st101 _ ?_
    exact κ
  obtain ⟨fs, hrE, hrun, hended, hW, hsame⟩ := X101.leave (v := some (.int (40 : Int32))) (fun h => by rw [Bd.returns] at h; cases h)
  have pqE := pq102
  rw [hA0] at pqE
  refine ⟨_, _, pqE _ ?_, hrun, hended, _, _, rfl, ?_, ⟨_, rfl⟩, hW, hsame.mono (by decide) (by decide)⟩
  · refine XS.iadd X101.here hx rfl (hb hby (own_d D_nla 4 rfl)) rfl ?_
    refine XS.istoreN X101.here hx rfl (hb hby (own_d D_nla 5 rfl)) rfl (l' := #[.val (.int (16 : Int32)), .val (.int (24 : Int32)), .val (.int (18 : Int32)), .val (.int (40 : Int32))]) rfl ?_
    refine XS.iconst X101.here hx rfl (hb hby (own_d D_nla 6 rfl)) ?_
    refine XS.iloadN X101.here hx rfl (hb hby (own_d D_nla 7 rfl)) rfl ?_
    refine XS.icmpNo X101.here hx rfl (hb hby (own_d D_nla 8 rfl)) rfl (tlt (by decide : ((0 : Int32) < (40 : Int32)))).2.1 ?_
    refine XS.iloadN X101.here hx rfl (hb hby (own_d D_nla 9 rfl)) rfl ?_
    refine X101.ldcInt hx hown (mvT hZ (W 197 rfl)) (g := (mkF m 14 #[.val (.int (16 : Int32)), .val (.int (24 : Int32)), .val (.int (18 : Int32)), .val (.int (40 : Int32))] [(.int (40 : Int32))])) rfl (hb hby (own_d D_nla 10 rfl)) _ ?_
    refine XS.icmpNo X101.here hx rfl (hb hby (own_d D_nla 11 rfl)) rfl (flt (by decide : ¬ ((2147483639 : Int32) < (40 : Int32)))).2.2.1 ?_
    refine XS.iloadN X101.here hx rfl (hb hby (own_d D_nla 12 rfl)) rfl ?_
    show Steps pP.tables e below (T101.setTop (mkF m 20 #[.val (.int (16 : Int32)), .val (.int (24 : Int32)), .val (.int (18 : Int32)), .val (.int (40 : Int32))] [(.int (40 : Int32))])) _
    exact retOut X101 hx Bd.returns rfl (Or.inl ⟨rfl, Or.inl rfl, _, rfl⟩) (hb hby (own_d D_nla 13 rfl)) hrE
  · show Q_nla h0 n0 _ T101.heap _
    rw [eq101]
    exact ⟨rfl, N101, rfl⟩
def Q_nca (h0 : Heap) (n0 : Nat) (v : Option Value) (h : Heap) (L : List Loc) : Prop := v = some (.int 40) ∧ Fr n0 L ∧ h = h0
theorem D_nca : ∀ q ∈ ([(0, .aload_n 0, 1), (1, .getfield 15, 3), (4, .arraylength, 1), (5, .istore_n 2, 1), (6, .iload_n 1, 1), (7, .aload_n 0, 1), (8, .getfield 22, 3), (11, .ishl, 1), (12, .istore_n 3, 1), (13, .iload_n 3, 1), (14, .iload_n 2, 1), (15, .isub, 1), (16, .istore 4, 2), (18, .iload_n 2, 1), (19, .iload 4, 2), (21, .iload_n 2, 1), (22, .iconst 2, 1), (23, .aload_n 0, 1), (24, .getfield 22, 3), (27, .ishl, 1), (28, .iadd, 1), (29, .invokestatic 114, 3), (32, .istore 5, 2), (34, .iload 5, 2), (36, .ldc 39, 2), (38, .if_icmp .ne 13, 3), (51, .iload 5, 2), (53, .aload_n 0, 1), (54, .getfield 22, 3), (57, .ishr, 1), (58, .ireturn, 1)] : List (Nat × Instr × Nat)), decode jdk_68_method_10_code q.1 = .ok q.2 := by decide +kernel
theorem ef_rm_nca (m : MethodId) (x0 : Addr) (x1 : Int32) : entryFrame m #[(.ref x0), (.int x1)] 6 = mkF m 0 #[.val (.ref x0), .val (.int x1), .unset, .unset, .unset, .unset] [] := by first | (simp [entryFrame, mkF, argsToLocals, Value.category]; done) | rfl
theorem rm_nca (l : Launch) (Z : State) (a0 : Array Value) (hw : ∀ d ∈ tables_1, d.before a0 Z = true) (ws : List Jvm.Cond) (sb vb : Addr) (kv : ClassId) (vs : List Value) (h0 : Heap) (n0 : Nat) (Z0 : n0 ≤ h0.size) (E_sb : Exa Z h0 sb "java/lang/StringBuilder") (F_sv : Fld Z h0 sb "java/lang/AbstractStringBuilder" "value" "[B" (.ref vb)) (F_sc : Fld Z h0 sb "java/lang/AbstractStringBuilder" "coder" "B" (.int 0)) (F_sn : Fld Z h0 sb "java/lang/AbstractStringBuilder" "count" "I" (.int 0)) (F_sm : Fld Z h0 sb "java/lang/AbstractStringBuilder" "maybeLatin1" "Z" (.int 0)) (V_b : Arv Z h0 vb kv .byte (Int32.ofNat 16) vs (.int 0)) :
    MetFree l y_39 (head1 (Jvm.Cond.code y_39 jdk_68_method_10_code 6 (some .int) :: ws) r_14) (fun αs U => αs = #[(.ref sb), (.int (40 : Int32))] ∧ Z.Warmed39 U.vm ∧ U.heap = h0) (fun _ _ _ _ _ => True) (fun _ Us oS Us' => ∃ vR LR, oS = .returned vR ∧ Q_nca h0 n0 vR Us'.heap LR ∧ FrameEnd Us oS Us' LR r_14.cells r_14.slots) := by
  refine MetFree.of_bodySF (plainFor_of_name pno_6) hisR ?_
  intro pP e s m args below meth cC s₁ Bd hml0 hP hK
  obtain ⟨rfl, hZ, hh⟩ := hP
  have hx := Bd.exec
  have W := own_W hw
  have hby := Bd.bytes
  have hml : cC.maxLocals = 6 := hml0
  have hown : s.vm.findClass "java/lang/AbstractStringBuilder" = some m.cls := findClass_of_methodNamed Bd.named
  have hnm := (name_of_methodNamed Bd.named Bd.method).1
  have X0 : Stand pP l e r_14 s m #[(.ref sb), (.int (40 : Int32))] below meth cC s₁ [] 0 0 := Stand.of_body Bd
  have e0 : s₁.heap = h0 := by rw [← hh, Bd.state]; rfl
  have N0 := Fr.nil n0
  have KC0 : Keep h0 h0 [] := Keep.refl h0 _
  obtain ⟨A0, hA0⟩ : ∃ ζ, ζ = s₁.setTop (entryFrame m #[(.ref sb), (.int (40 : Int32))] 6) := ⟨_, rfl⟩
  have pre0 : own_go pP e below A0 (s₁.setTop (mkF m 0 #[.val (.ref sb), .val (.int (40 : Int32)), .unset, .unset, .unset, .unset] [])) := fun τ κ => by rw [hA0]; exact castTop (ef_rm_nca m sb (40 : Int32)) κ
  obtain ⟨T101, X101, e101, st101⟩ := getF X0 hx hZ hown (host := "") (Or.inl (W 99 rfl)) Via.refl e0 F_sv (g := (mkF m 1 #[.val (.ref sb), .val (.int (40 : Int32)), .unset, .unset, .unset, .unset] [(.ref sb)])) rfl rfl (hb hby (own_d D_nca 1 rfl))
  have pq102 : own_go pP e below A0 (T101.setTop (mkF m 4 #[.val (.ref sb), .val (.int (40 : Int32)), .unset, .unset, .unset, .unset] [(.ref vb)])) := by
    intro τ κ
    refine pre0 τ ?_
    refine XS.aloadN X0.here hx rfl (hb hby (own_d D_nca 0 rfl)) rfl rfl ?_
    refine st101 _ ?_
    exact κ
  obtain ⟨cl103, Ar103, q103, S103, M103, Hs103, G103⟩ := id V_b
  have pq104 : own_go pP e below A0 (T101.setTop (mkF m 5 #[.val (.ref sb), .val (.int (40 : Int32)), .unset, .unset, .unset, .unset] [(.int (Int32.ofNat 16))])) := by
    intro τ κ
    refine pq102 τ ?_
    refine X101.arraylength hx (by rw [e101]; exact Ar103.1) (State.isArrayOf_alike hZ.alike Ar103.2.1) (g := (mkF m 4 #[.val (.ref sb), .val (.int (40 : Int32)), .unset, .unset, .unset, .unset] [(.ref vb)])) rfl rfl (hb hby (own_d D_nca 2 rfl)) _ ?_
    rw [len_of S103 M103]
    exact κ
  have pq105 : own_go pP e below A0 (T101.setTop (mkF m 5 #[.val (.ref sb), .val (.int (40 : Int32)), .unset, .unset, .unset, .unset] [(.int (16 : Int32))])) := by intro τ κ; refine pq104 τ ?_; rw [show (Int32.ofNat 16) = (16 : Int32) from rfl]; exact κ
  obtain ⟨T106, X106, e106, st106⟩ := getF X101 hx hZ hown (host := "") (Or.inl (W 101 rfl)) Via.refl e101 F_sc (g := (mkF m 8 #[.val (.ref sb), .val (.int (40 : Int32)), .val (.int (16 : Int32)), .unset, .unset, .unset] [(.ref sb), (.int (40 : Int32))])) rfl rfl (hb hby (own_d D_nca 6 rfl))
  have pq107 : own_go pP e below A0 (T106.setTop (mkF m 11 #[.val (.ref sb), .val (.int (40 : Int32)), .val (.int (16 : Int32)), .unset, .unset, .unset] [(.int (0 : Int32)), (.int (40 : Int32))])) := by
    intro τ κ
    refine pq105 τ ?_
    refine XS.istoreN X101.here hx rfl (hb hby (own_d D_nca 3 rfl)) rfl (l' := #[.val (.ref sb), .val (.int (40 : Int32)), .val (.int (16 : Int32)), .unset, .unset, .unset]) rfl ?_
    refine XS.iloadN X101.here hx rfl (hb hby (own_d D_nca 4 rfl)) rfl ?_
    refine XS.aloadN X101.here hx rfl (hb hby (own_d D_nca 5 rfl)) rfl rfl ?_
    refine st106 _ ?_
    exact κ
  have pq108 : own_go pP e below A0 (T106.setTop (mkF m 12 #[.val (.ref sb), .val (.int (40 : Int32)), .val (.int (16 : Int32)), .unset, .unset, .unset] [(.int ((40 : Int32) <<< ((0 : Int32) &&& 31)))])) := by
    intro τ κ
    refine pq107 τ ?_
    refine XS.ishl X106.here hx rfl (hb hby (own_d D_nca 7 rfl)) rfl ?_
    exact κ
  have pq109 : own_go pP e below A0 (T106.setTop (mkF m 12 #[.val (.ref sb), .val (.int (40 : Int32)), .val (.int (16 : Int32)), .unset, .unset, .unset] [(.int (40 : Int32))])) := by intro τ κ; refine pq108 τ ?_; rw [show ((40 : Int32) <<< ((0 : Int32) &&& 31)) = (40 : Int32) from (by decide)]; exact κ
  obtain ⟨T110, X110, e110, st110⟩ := getF X106 hx hZ hown (host := "") (Or.inl (W 101 rfl)) Via.refl e106 F_sc (g := (mkF m 24 #[.val (.ref sb), .val (.int (40 : Int32)), .val (.int (16 : Int32)), .val (.int (40 : Int32)), .val (.int (24 : Int32)), .unset] [(.ref sb), (.int (2 : Int32)), (.int (16 : Int32)), (.int (24 : Int32)), (.int (16 : Int32))])) rfl rfl (hb hby (own_d D_nca 18 rfl))
  have pq111 : own_go pP e below A0 (T110.setTop (mkF m 27 #[.val (.ref sb), .val (.int (40 : Int32)), .val (.int (16 : Int32)), .val (.int (40 : Int32)), .val (.int (24 : Int32)), .unset] [(.int (0 : Int32)), (.int (2 : Int32)), (.int (16 : Int32)), (.int (24 : Int32)), (.int (16 : Int32))])) := by
    intro τ κ
    refine pq109 τ ?_
    refine XS.istoreN X106.here hx rfl (hb hby (own_d D_nca 8 rfl)) rfl (l' := #[.val (.ref sb), .val (.int (40 : Int32)), .val (.int (16 : Int32)), .val (.int (40 : Int32)), .unset, .unset]) rfl ?_
    refine XS.iloadN X106.here hx rfl (hb hby (own_d D_nca 9 rfl)) rfl ?_
    refine XS.iloadN X106.here hx rfl (hb hby (own_d D_nca 10 rfl)) rfl ?_
    refine XS.isub X106.here hx rfl (hb hby (own_d D_nca 11 rfl)) rfl ?_
    refine XS.istore X106.here hx rfl (hb hby (own_d D_nca 12 rfl)) rfl (l' := #[.val (.ref sb), .val (.int (40 : Int32)), .val (.int (16 : Int32)), .val (.int (40 : Int32)), .val (.int (24 : Int32)), .unset]) rfl ?_
    refine XS.iloadN X106.here hx rfl (hb hby (own_d D_nca 13 rfl)) rfl ?_
    refine XS.iload X106.here hx rfl (hb hby (own_d D_nca 14 rfl)) rfl ?_
    refine XS.iloadN X106.here hx rfl (hb hby (own_d D_nca 15 rfl)) rfl ?_
    refine XS.iconst X106.here hx rfl (hb hby (own_d D_nca 16 rfl)) ?_
    refine XS.aloadN X106.here hx rfl (hb hby (own_d D_nca 17 rfl)) rfl rfl ?_
    refine st110 _ ?_
    exact κ
  have pq112 : own_go pP e below A0 (T110.setTop (mkF m 28 #[.val (.ref sb), .val (.int (40 : Int32)), .val (.int (16 : Int32)), .val (.int (40 : Int32)), .val (.int (24 : Int32)), .unset] [(.int ((2 : Int32) <<< ((0 : Int32) &&& 31))), (.int (16 : Int32)), (.int (24 : Int32)), (.int (16 : Int32))])) := by
    intro τ κ
    refine pq111 τ ?_
    refine XS.ishl X110.here hx rfl (hb hby (own_d D_nca 19 rfl)) rfl ?_
    exact κ
  have pq113 : own_go pP e below A0 (T110.setTop (mkF m 28 #[.val (.ref sb), .val (.int (40 : Int32)), .val (.int (16 : Int32)), .val (.int (40 : Int32)), .val (.int (24 : Int32)), .unset] [(.int (2 : Int32)), (.int (16 : Int32)), (.int (24 : Int32)), (.int (16 : Int32))])) := by intro τ κ; refine pq112 τ ?_; rw [show ((2 : Int32) <<< ((0 : Int32) &&& 31)) = (2 : Int32) from (by decide)]; exact κ
  obtain ⟨_, _, ⟨T114, L114, k114, n114⟩, -, X114, ⟨Lc114, hQ114, l114, y114, z114⟩, st114⟩ := Jvm.LawKit.callS X110 hx (y := y_38) hown (mvT hZ (W 190 rfl)) (mvT hZ (W 191 rfl)) (mvT hZ (W 192 rfl)) (mvT hZ (W 193 rfl)) (by decide) (backOf (W := 0) (rm_nla l Z a0 hw []  h0 n0 Z0 ) hZ (W 193 rfl) (W 192 rfl) (by decide) (by decide)) (g := (mkF m 29 #[.val (.ref sb), .val (.int (40 : Int32)), .val (.int (16 : Int32)), .val (.int (40 : Int32)), .val (.int (24 : Int32)), .unset] [(.int (18 : Int32)), (.int (24 : Int32)), (.int (16 : Int32))])) rfl (by rw [hml]; rfl) (argsL := [(.int (16 : Int32)), (.int (24 : Int32)), (.int (18 : Int32))]) (rest := []) (lenOf pdo_14 rfl) rfl (Nat.le_of_eq rfl) (hb hby (own_d D_nca 21 rfl)) (fun _ _ => ⟨rfl, e110, (by decide : 0 + 0 ≤ _), (by decide : 0 + 0 ≤ _)⟩)
  dsimp only [Pt.U, Pt.locs, Pt.cells, Pt.slots] at X114 l114 y114 z114 st114 hQ114
  subst l114 y114 z114
  obtain ⟨rfl, Nq114, eq114⟩ := hQ114
  have N114 := Fr.app N0 Nq114
  have pq115 : own_go pP e below A0 (T114.setTop (mkF m 32 #[.val (.ref sb), .val (.int (40 : Int32)), .val (.int (16 : Int32)), .val (.int (40 : Int32)), .val (.int (24 : Int32)), .unset] [(.int (40 : Int32))])) := by
    intro τ κ
    refine pq113 τ ?_
    refine XS.iadd X110.here hx rfl (hb hby (own_d D_nca 20 rfl)) rfl ?_
    refine st114 _ ?_
    exact κ
  obtain ⟨T116, X116, e116, st116⟩ := getF X114 hx hZ hown (host := "") (Or.inl (W 101 rfl)) Via.refl eq114 F_sc (g := (mkF m 54 #[.val (.ref sb), .val (.int (40 : Int32)), .val (.int (16 : Int32)), .val (.int (40 : Int32)), .val (.int (24 : Int32)), .val (.int (40 : Int32))] [(.ref sb), (.int (40 : Int32))])) rfl rfl (hb hby (own_d D_nca 28 rfl))
  have pq117 : own_go pP e below A0 (T116.setTop (mkF m 57 #[.val (.ref sb), .val (.int (40 : Int32)), .val (.int (16 : Int32)), .val (.int (40 : Int32)), .val (.int (24 : Int32)), .val (.int (40 : Int32))] [(.int (0 : Int32)), (.int (40 : Int32))])) := by
    intro τ κ
    refine pq115 τ ?_
    refine XS.istore X114.here hx rfl (hb hby (own_d D_nca 22 rfl)) rfl (l' := #[.val (.ref sb), .val (.int (40 : Int32)), .val (.int (16 : Int32)), .val (.int (40 : Int32)), .val (.int (24 : Int32)), .val (.int (40 : Int32))]) rfl ?_
    refine XS.iload X114.here hx rfl (hb hby (own_d D_nca 23 rfl)) rfl ?_
    refine X114.ldcInt hx hown (mvT hZ (W 198 rfl)) (g := (mkF m 36 #[.val (.ref sb), .val (.int (40 : Int32)), .val (.int (16 : Int32)), .val (.int (40 : Int32)), .val (.int (24 : Int32)), .val (.int (40 : Int32))] [(.int (40 : Int32))])) rfl (hb hby (own_d D_nca 24 rfl)) _ ?_
    refine XS.icmpYes X114.here hx rfl (pc0 := 38) (pc' := 51) rfl (hb hby (own_d D_nca 25 rfl)) rfl (feq (by decide : ¬ ((40 : Int32) = (2147483647 : Int32)))).2 (by decide) (by decide) ?_
    refine XS.iload X114.here hx rfl (hb hby (own_d D_nca 26 rfl)) rfl ?_
    refine XS.aloadN X114.here hx rfl (hb hby (own_d D_nca 27 rfl)) rfl rfl ?_
    refine st116 _ ?_
    exact κ
  have pq118 : own_go pP e below A0 (T116.setTop (mkF m 58 #[.val (.ref sb), .val (.int (40 : Int32)), .val (.int (16 : Int32)), .val (.int (40 : Int32)), .val (.int (24 : Int32)), .val (.int (40 : Int32))] [(.int ((40 : Int32) >>> ((0 : Int32) &&& 31)))])) := by
    intro τ κ
    refine pq117 τ ?_
    refine XS.ishr X116.here hx rfl (hb hby (own_d D_nca 29 rfl)) rfl ?_
    exact κ
  have pq119 : own_go pP e below A0 (T116.setTop (mkF m 58 #[.val (.ref sb), .val (.int (40 : Int32)), .val (.int (16 : Int32)), .val (.int (40 : Int32)), .val (.int (24 : Int32)), .val (.int (40 : Int32))] [(.int (40 : Int32))])) := by intro τ κ; refine pq118 τ ?_; rw [show ((40 : Int32) >>> ((0 : Int32) &&& 31)) = (40 : Int32) from (by decide)]; exact κ
  obtain ⟨fs, hrE, hrun, hended, hW, hsame⟩ := X116.leave (v := some (.int (40 : Int32))) (fun h => by rw [Bd.returns] at h; cases h)
  have pqE := pq119
  rw [hA0] at pqE
  refine ⟨_, _, pqE _ ?_, hrun, hended, _, _, rfl, ?_, ⟨_, rfl⟩, hW, hsame.mono (by decide) (by decide)⟩
  · show Steps pP.tables e below (T116.setTop (mkF m 58 #[.val (.ref sb), .val (.int (40 : Int32)), .val (.int (16 : Int32)), .val (.int (40 : Int32)), .val (.int (24 : Int32)), .val (.int (40 : Int32))] [(.int (40 : Int32))])) _
    exact retOut X116 hx Bd.returns rfl (Or.inl ⟨rfl, Or.inl rfl, _, rfl⟩) (hb hby (own_d D_nca 30 rfl)) hrE
  · show Q_nca h0 n0 _ T116.heap _
    rw [e116]
    exact ⟨rfl, N114, rfl⟩
def Q_ena (Z : State) (sb : Addr) (vs : List Value) (h0 : Heap) (n0 : Nat) (v : Option Value) (h : Heap) (L : List Loc) : Prop := ∃ (u : Addr) (ku : ClassId), v = none ∧ Fr n0 L ∧ Keep h0 h [sb] ∧ h0.size ≤ u ∧ Exa Z h sb "java/lang/StringBuilder" ∧ Fld Z h sb "java/lang/AbstractStringBuilder" "value" "[B" (.ref u) ∧ Fld Z h sb "java/lang/AbstractStringBuilder" "coder" "B" (.int 0) ∧ Fld Z h sb "java/lang/AbstractStringBuilder" "count" "I" (.int 0) ∧ Fld Z h sb "java/lang/AbstractStringBuilder" "maybeLatin1" "Z" (.int 0) ∧ Arv Z h u ku .byte (Int32.ofNat (40)) (own_cp vs (16)) (.int 0)
theorem D_ena : ∀ q ∈ ([(0, .aload_n 0, 1), (1, .getfield 15, 3), (4, .arraylength, 1), (5, .aload_n 0, 1), (6, .getfield 22, 3), (9, .ishr, 1), (10, .istore_n 2, 1), (11, .iload_n 1, 1), (12, .iload_n 2, 1), (13, .isub, 1), (14, .ifCond .le 24, 3), (17, .aload_n 0, 1), (18, .aload_n 0, 1), (19, .getfield 15, 3), (22, .aload_n 0, 1), (23, .iload_n 1, 1), (24, .invokevirtual 104, 3), (27, .aload_n 0, 1), (28, .getfield 22, 3), (31, .ishl, 1), (32, .invokestatic 108, 3), (35, .putfield 15, 3), (38, .return_, 1)] : List (Nat × Instr × Nat)), decode jdk_68_method_9_code q.1 = .ok q.2 := by decide +kernel
theorem ef_rm_ena (m : MethodId) (x0 : Addr) (x1 : Int32) : entryFrame m #[(.ref x0), (.int x1)] 3 = mkF m 0 #[.val (.ref x0), .val (.int x1), .unset] [] := by first | (simp [entryFrame, mkF, argsToLocals, Value.category]; done) | rfl
theorem rm_ena (l : Launch) (Z : State) (a0 : Array Value) (hw : ∀ d ∈ tables_1, d.before a0 Z = true) (ws : List Jvm.Cond) (sb vb : Addr) (kv : ClassId) (vs : List Value) (h0 : Heap) (n0 : Nat) (Z0 : n0 ≤ h0.size) (E_sb : Exa Z h0 sb "java/lang/StringBuilder") (F_sv : Fld Z h0 sb "java/lang/AbstractStringBuilder" "value" "[B" (.ref vb)) (F_sc : Fld Z h0 sb "java/lang/AbstractStringBuilder" "coder" "B" (.int 0)) (F_sn : Fld Z h0 sb "java/lang/AbstractStringBuilder" "count" "I" (.int 0)) (F_sm : Fld Z h0 sb "java/lang/AbstractStringBuilder" "maybeLatin1" "Z" (.int 0)) (V_b : Arv Z h0 vb kv .byte (Int32.ofNat 16) vs (.int 0)) (gsb : n0 ≤ sb) :
    MetFree l y_40 (head1 (Jvm.Cond.code y_40 jdk_68_method_9_code 3 none :: ws) r_25) (fun αs U => αs = #[(.ref sb), (.int (40 : Int32))] ∧ Z.Warmed39 U.vm ∧ U.heap = h0) (fun _ _ _ _ _ => True) (fun _ Us oS Us' => ∃ vR LR, oS = .returned vR ∧ Q_ena Z sb vs h0 n0 vR Us'.heap LR ∧ FrameEnd Us oS Us' LR r_25.cells r_25.slots) := by
  refine MetFree.of_bodySF (plainFor_of_name pno_6) hisR ?_
  intro pP e s m args below meth cC s₁ Bd hml0 hP hK
  obtain ⟨rfl, hZ, hh⟩ := hP
  have hx := Bd.exec
  have W := own_W hw
  have hby := Bd.bytes
  have hml : cC.maxLocals = 3 := hml0
  have hown : s.vm.findClass "java/lang/AbstractStringBuilder" = some m.cls := findClass_of_methodNamed Bd.named
  have hnm := (name_of_methodNamed Bd.named Bd.method).1
  have X0 : Stand pP l e r_25 s m #[(.ref sb), (.int (40 : Int32))] below meth cC s₁ [] 0 0 := Stand.of_body Bd
  have e0 : s₁.heap = h0 := by rw [← hh, Bd.state]; rfl
  have N0 := Fr.nil n0
  have KC0 : Keep h0 h0 [sb] := Keep.refl h0 _
  obtain ⟨A0, hA0⟩ : ∃ ζ, ζ = s₁.setTop (entryFrame m #[(.ref sb), (.int (40 : Int32))] 3) := ⟨_, rfl⟩
  have pre0 : own_go pP e below A0 (s₁.setTop (mkF m 0 #[.val (.ref sb), .val (.int (40 : Int32)), .unset] [])) := fun τ κ => by rw [hA0]; exact castTop (ef_rm_ena m sb (40 : Int32)) κ
  obtain ⟨T101, X101, e101, st101⟩ := getF X0 hx hZ hown (host := "") (Or.inl (W 99 rfl)) Via.refl e0 F_sv (g := (mkF m 1 #[.val (.ref sb), .val (.int (40 : Int32)), .unset] [(.ref sb)])) rfl rfl (hb hby (own_d D_ena 1 rfl))
  have pq102 : own_go pP e below A0 (T101.setTop (mkF m 4 #[.val (.ref sb), .val (.int (40 : Int32)), .unset] [(.ref vb)])) := by
    intro τ κ
    refine pre0 τ ?_
    refine XS.aloadN X0.here hx rfl (hb hby (own_d D_ena 0 rfl)) rfl rfl ?_
    refine st101 _ ?_
    exact κ
  obtain ⟨cl103, Ar103, q103, S103, M103, Hs103, G103⟩ := id V_b
  have pq104 : own_go pP e below A0 (T101.setTop (mkF m 5 #[.val (.ref sb), .val (.int (40 : Int32)), .unset] [(.int (Int32.ofNat 16))])) := by
    intro τ κ
    refine pq102 τ ?_
    refine X101.arraylength hx (by rw [e101]; exact Ar103.1) (State.isArrayOf_alike hZ.alike Ar103.2.1) (g := (mkF m 4 #[.val (.ref sb), .val (.int (40 : Int32)), .unset] [(.ref vb)])) rfl rfl (hb hby (own_d D_ena 2 rfl)) _ ?_
    rw [len_of S103 M103]
    exact κ
  have pq105 : own_go pP e below A0 (T101.setTop (mkF m 5 #[.val (.ref sb), .val (.int (40 : Int32)), .unset] [(.int (16 : Int32))])) := by intro τ κ; refine pq104 τ ?_; rw [show (Int32.ofNat 16) = (16 : Int32) from rfl]; exact κ
  obtain ⟨T106, X106, e106, st106⟩ := getF X101 hx hZ hown (host := "") (Or.inl (W 101 rfl)) Via.refl e101 F_sc (g := (mkF m 6 #[.val (.ref sb), .val (.int (40 : Int32)), .unset] [(.ref sb), (.int (16 : Int32))])) rfl rfl (hb hby (own_d D_ena 4 rfl))
  have pq107 : own_go pP e below A0 (T106.setTop (mkF m 9 #[.val (.ref sb), .val (.int (40 : Int32)), .unset] [(.int (0 : Int32)), (.int (16 : Int32))])) := by
    intro τ κ
    refine pq105 τ ?_
    refine XS.aloadN X101.here hx rfl (hb hby (own_d D_ena 3 rfl)) rfl rfl ?_
    refine st106 _ ?_
    exact κ
  have pq108 : own_go pP e below A0 (T106.setTop (mkF m 10 #[.val (.ref sb), .val (.int (40 : Int32)), .unset] [(.int ((16 : Int32) >>> ((0 : Int32) &&& 31)))])) := by
    intro τ κ
    refine pq107 τ ?_
    refine XS.ishr X106.here hx rfl (hb hby (own_d D_ena 5 rfl)) rfl ?_
    exact κ
  have pq109 : own_go pP e below A0 (T106.setTop (mkF m 10 #[.val (.ref sb), .val (.int (40 : Int32)), .unset] [(.int (16 : Int32))])) := by intro τ κ; refine pq108 τ ?_; rw [show ((16 : Int32) >>> ((0 : Int32) &&& 31)) = (16 : Int32) from (by decide)]; exact κ
  obtain ⟨T110, X110, e110, st110⟩ := getF X106 hx hZ hown (host := "") (Or.inl (W 99 rfl)) Via.refl e106 F_sv (g := (mkF m 19 #[.val (.ref sb), .val (.int (40 : Int32)), .val (.int (16 : Int32))] [(.ref sb), (.ref sb)])) rfl rfl (hb hby (own_d D_ena 13 rfl))
  have pq111 : own_go pP e below A0 (T110.setTop (mkF m 22 #[.val (.ref sb), .val (.int (40 : Int32)), .val (.int (16 : Int32))] [(.ref vb), (.ref sb)])) := by
    intro τ κ
    refine pq109 τ ?_
    refine XS.istoreN X106.here hx rfl (hb hby (own_d D_ena 6 rfl)) rfl (l' := #[.val (.ref sb), .val (.int (40 : Int32)), .val (.int (16 : Int32))]) rfl ?_
    refine XS.iloadN X106.here hx rfl (hb hby (own_d D_ena 7 rfl)) rfl ?_
    refine XS.iloadN X106.here hx rfl (hb hby (own_d D_ena 8 rfl)) rfl ?_
    refine XS.isub X106.here hx rfl (hb hby (own_d D_ena 9 rfl)) rfl ?_
    refine XS.ifNo X106.here hx rfl (hb hby (own_d D_ena 10 rfl)) rfl ((if0 _ _).trans (tlt (by decide : ((0 : Int32) < (24 : Int32)))).2.2.2) ?_
    refine XS.aloadN X106.here hx rfl (hb hby (own_d D_ena 11 rfl)) rfl rfl ?_
    refine XS.aloadN X106.here hx rfl (hb hby (own_d D_ena 12 rfl)) rfl rfl ?_
    refine st110 _ ?_
    exact κ
  obtain ⟨cq113, kq113, q113a, q113b, q113c⟩ := isOf hZ e110 E_sb
  obtain ⟨_, _, ⟨T112, L112, k112, n112⟩, -, X112, ⟨Lc112, hQ112, l112, y112, z112⟩, st112⟩ := X110.virtualBack hx (y := y_39) (z := y_39) hown (mvT hZ (W 185 rfl)) (mvT hZ (own_declares (W 186 rfl) (W 189 rfl))) (notFace_of_selects (args := #[]) (mvT hZ (W 188 rfl))) (mvT hZ (W 188 rfl)) (mvT hZ (W 186 rfl)) (by decide) (backOf (W := 2) (rm_nca l Z a0 hw [] sb vb kv vs h0 n0 Z0 E_sb F_sv F_sc F_sn F_sm V_b) hZ (W 189 rfl) (W 95 rfl) (by decide) (by decide)) q113a q113c (g := (mkF m 24 #[.val (.ref sb), .val (.int (40 : Int32)), .val (.int (16 : Int32))] [(.int (40 : Int32)), (.ref sb), (.ref vb), (.ref sb)])) rfl (by rw [hml]; rfl) (Steps.refl _) (argsL := [(.int (40 : Int32))]) (rest := [(.ref vb), (.ref sb)]) (lenOf pdo_3 rfl) rfl (Nat.le_of_eq rfl) (hb hby (own_d D_ena 16 rfl)) (fun _ _ => ⟨rfl, e110, (by decide : 0 + 0 ≤ _), (by decide : 0 + 0 ≤ _)⟩)
  dsimp only [Pt.U, Pt.locs, Pt.cells, Pt.slots] at X112 l112 y112 z112 st112 hQ112
  subst l112 y112 z112
  obtain ⟨rfl, Nq112, eq112⟩ := hQ112
  have N112 := Fr.app N0 Nq112
  have pq114 : own_go pP e below A0 (T112.setTop (mkF m 27 #[.val (.ref sb), .val (.int (40 : Int32)), .val (.int (16 : Int32))] [(.int (40 : Int32)), (.ref vb), (.ref sb)])) := by
    intro τ κ
    refine pq111 τ ?_
    refine XS.aloadN X110.here hx rfl (hb hby (own_d D_ena 14 rfl)) rfl rfl ?_
    refine XS.iloadN X110.here hx rfl (hb hby (own_d D_ena 15 rfl)) rfl ?_
    refine st112.trans ?_
    exact κ
  obtain ⟨T115, X115, e115, st115⟩ := getF X112 hx hZ hown (host := "") (Or.inl (W 101 rfl)) Via.refl eq112 F_sc (g := (mkF m 28 #[.val (.ref sb), .val (.int (40 : Int32)), .val (.int (16 : Int32))] [(.ref sb), (.int (40 : Int32)), (.ref vb), (.ref sb)])) rfl rfl (hb hby (own_d D_ena 18 rfl))
  have pq116 : own_go pP e below A0 (T115.setTop (mkF m 31 #[.val (.ref sb), .val (.int (40 : Int32)), .val (.int (16 : Int32))] [(.int (0 : Int32)), (.int (40 : Int32)), (.ref vb), (.ref sb)])) := by
    intro τ κ
    refine pq114 τ ?_
    refine XS.aloadN X112.here hx rfl (hb hby (own_d D_ena 17 rfl)) rfl rfl ?_
    refine st115 _ ?_
    exact κ
  have pq117 : own_go pP e below A0 (T115.setTop (mkF m 32 #[.val (.ref sb), .val (.int (40 : Int32)), .val (.int (16 : Int32))] [(.int ((40 : Int32) <<< ((0 : Int32) &&& 31))), (.ref vb), (.ref sb)])) := by
    intro τ κ
    refine pq116 τ ?_
    refine XS.ishl X115.here hx rfl (hb hby (own_d D_ena 19 rfl)) rfl ?_
    exact κ
  have pq118 : own_go pP e below A0 (T115.setTop (mkF m 32 #[.val (.ref sb), .val (.int (40 : Int32)), .val (.int (16 : Int32))] [(.int (40 : Int32)), (.ref vb), (.ref sb)])) := by intro τ κ; refine pq117 τ ?_; rw [show ((40 : Int32) <<< ((0 : Int32) &&& 31)) = (40 : Int32) from (by decide)]; exact κ
  obtain ⟨_, _, ⟨T119, L119, k119, n119⟩, -, X119, ⟨Lc119, hQ119, l119, y119, z119⟩, st119⟩ := Jvm.LawKit.callS X115 hx (y := y_36) hown (mvT hZ (W 199 rfl)) (mvT hZ (W 200 rfl)) (mvT hZ (W 146 rfl)) (mvT hZ (W 201 rfl)) (by decide) (backOf (W := 1) (rm_cof l Z a0 hw [] vb kv 16 40 vs h0 n0 Z0 V_b (by decide) (by decide)) hZ (W 201 rfl) (W 146 rfl) (by decide) (by decide)) (g := (mkF m 32 #[.val (.ref sb), .val (.int (40 : Int32)), .val (.int (16 : Int32))] [(.int (40 : Int32)), (.ref vb), (.ref sb)])) rfl (by rw [hml]; rfl) (argsL := [(.ref vb), (.int (40 : Int32))]) (rest := [(.ref sb)]) (lenOf pdo_25 rfl) rfl (Nat.le_of_eq rfl) (hb hby (own_d D_ena 20 rfl)) (fun _ _ => ⟨rfl, e115, (by decide : 0 + 1 ≤ _), (by decide : 0 + 400 ≤ _)⟩)
  dsimp only [Pt.U, Pt.locs, Pt.cells, Pt.slots] at X119 l119 y119 z119 st119 hQ119
  subst l119 y119 z119
  obtain ⟨b119, kb119, rfl, Nq119, K119, lb119, V119⟩ := hQ119
  have N119 := Fr.app N112 Nq119
  have pq120 : own_go pP e below A0 (T119.setTop (mkF m 35 #[.val (.ref sb), .val (.int (40 : Int32)), .val (.int (16 : Int32))] [(.ref b119), (.ref sb)])) := by
    intro τ κ
    refine pq118 τ ?_
    refine st119 _ ?_
    exact κ
  have KC119 := KC0.trans K119 all0
  have f121 := (E_sb.keep K119)
  have f122 := (F_sv.keep K119 nin0)
  obtain ⟨T123, h123, X123, e123, W123, st123⟩ := putF X119 hx hZ hown (host := "") (Or.inl (W 99 rfl)) Via.refl rfl f122 f121 (Or.inl (W 100 rfl)) (W 86 rfl) (ty := (.array .byte)) (by decide) rfl rfl (g := (mkF m 35 #[.val (.ref sb), .val (.int (40 : Int32)), .val (.int (16 : Int32))] [(.ref b119), (.ref sb)])) rfl rfl (hb hby (own_d D_ena 21 rfl))
  have pq124 : own_go pP e below A0 (T123.setTop (mkF m 38 #[.val (.ref sb), .val (.int (40 : Int32)), .val (.int (16 : Int32))] [])) := by
    intro τ κ
    refine pq120 τ ?_
    refine st123 _ ?_
    exact κ
  have KC123 := KC119.wr W123 (Or.inl (List.mem_of_getElem? (i := 0) rfl))
  have Fw123 := f122.same W123
  have N123 := Fr.snoc X123 N119 gsb
  have f125 := (f121.wr W123)
  have f126 := ((F_sc.keep K119 nin0).other W123 (Or.inr (slot_ne (Or.inl (W 102 rfl)) (Or.inl (W 100 rfl)) (by decide) (t := .byte) (t' := (.array .byte)) (by decide) (by decide))))
  have f127 := ((F_sn.keep K119 nin0).other W123 (Or.inr (slot_ne (Or.inl (W 179 rfl)) (Or.inl (W 100 rfl)) (by decide) (t := .int) (t' := (.array .byte)) (by decide) (by decide))))
  have f128 := ((F_sm.keep K119 nin0).other W123 (Or.inr (slot_ne (Or.inl (W 266 rfl)) (Or.inl (W 100 rfl)) (by decide) (t := .boolean) (t' := (.array .byte)) (by decide) (by decide))))
  have f129 := (V119.other W123 (Ne.symm (Nat.ne_of_lt (Nat.lt_of_lt_of_le E_sb.lt lb119))))
  obtain ⟨fs, hrE, hrun, hended, hW, hsame⟩ := X123.leave (v := none) (fun _ => rfl)
  have pqE := pq124
  rw [hA0] at pqE
  refine ⟨_, _, pqE _ ?_, hrun, hended, _, _, rfl, ?_, ⟨_, rfl⟩, hW, hsame.mono (by decide) (by decide)⟩
  · show Steps pP.tables e below (T123.setTop (mkF m 38 #[.val (.ref sb), .val (.int (40 : Int32)), .val (.int (16 : Int32))] [])) _
    exact X123.returnOut hx Bd.returns (hb hby (own_d D_ena 22 rfl)) hrE
  · show Q_ena Z sb vs h0 n0 _ T123.heap _
    rw [e123]
    exact ⟨b119, _, rfl, N123, KC123, (Nat.le_trans (Nat.le_refl _) lb119), f125, Fw123, f126, f127, f128, f129⟩
def Q_mxb (h0 : Heap) (n0 : Nat) (v : Option Value) (h : Heap) (L : List Loc) : Prop := v = some (.int 84) ∧ Fr n0 L ∧ h = h0
theorem D_mxb : ∀ q ∈ ([(0, .iload_n 0, 1), (1, .iload_n 1, 1), (2, .if_icmp .lt 7, 3), (9, .iload_n 1, 1), (10, .ireturn, 1)] : List (Nat × Instr × Nat)), decode jdk_29_method_65_code q.1 = .ok q.2 := by decide +kernel
theorem ef_rm_mxb (m : MethodId) (x0 : Int32) (x1 : Int32) : entryFrame m #[(.int x0), (.int x1)] 2 = mkF m 0 #[.val (.int x0), .val (.int x1)] [] := by first | (simp [entryFrame, mkF, argsToLocals, Value.category]; done) | rfl
theorem rm_mxb (l : Launch) (Z : State) (a0 : Array Value) (hw : ∀ d ∈ tables_1, d.before a0 Z = true) (ws : List Jvm.Cond)  (h0 : Heap) (n0 : Nat) (Z0 : n0 ≤ h0.size) :
    MetFree l y_37 (head1 (Jvm.Cond.code y_37 jdk_29_method_65_code 2 (some .int) :: ws) r_2) (fun αs U => αs = #[(.int (6 : Int32)), (.int (84 : Int32))] ∧ Z.Warmed39 U.vm ∧ U.heap = h0) (fun _ _ _ _ _ => True) (fun _ Us oS Us' => ∃ vR LR, oS = .returned vR ∧ Q_mxb h0 n0 vR Us'.heap LR ∧ FrameEnd Us oS Us' LR r_2.cells r_2.slots) := by
  refine MetFree.of_bodySF (Jvm.Free.JP.mathPlain rfl (by decide +kernel)) hisR ?_
  intro pP e s m args below meth cC s₁ Bd hml0 hP hK
  obtain ⟨rfl, hZ, hh⟩ := hP
  have hx := Bd.exec
  have hby := Bd.bytes
  have hml : cC.maxLocals = 2 := hml0
  have hown : s.vm.findClass "java/lang/Math" = some m.cls := findClass_of_methodNamed Bd.named
  have hnm := (name_of_methodNamed Bd.named Bd.method).1
  have X0 : Stand pP l e r_2 s m #[(.int (6 : Int32)), (.int (84 : Int32))] below meth cC s₁ [] 0 0 := Stand.of_body Bd
  have e0 : s₁.heap = h0 := by rw [← hh, Bd.state]; rfl
  have N0 := Fr.nil n0
  have KC0 : Keep h0 h0 [] := Keep.refl h0 _
  obtain ⟨A0, hA0⟩ : ∃ ζ, ζ = s₁.setTop (entryFrame m #[(.int (6 : Int32)), (.int (84 : Int32))] 2) := ⟨_, rfl⟩
  have pre0 : own_go pP e below A0 (s₁.setTop (mkF m 0 #[.val (.int (6 : Int32)), .val (.int (84 : Int32))] [])) := fun τ κ => by rw [hA0]; exact castTop (ef_rm_mxb m (6 : Int32) (84 : Int32)) κ
  obtain ⟨fs, hrE, hrun, hended, hW, hsame⟩ := X0.leave (v := some (.int (84 : Int32))) (fun h => by rw [Bd.returns] at h; cases h)
  have pqE := pre0
  rw [hA0] at pqE
  refine ⟨_, _, pqE _ ?_, hrun, hended, _, _, rfl, ?_, ⟨_, rfl⟩, hW, hsame.mono (by decide) (by decide)⟩
  · refine XS.iloadN X0.here hx rfl (hb hby (own_d D_mxb 0 rfl)) rfl ?_
    refine XS.iloadN X0.here hx rfl (hb hby (own_d D_mxb 1 rfl)) rfl ?_
    refine XS.icmpYes X0.here hx rfl (pc0 := 2) (pc' := 9) rfl (hb hby (own_d D_mxb 2 rfl)) rfl (tlt (by decide : ((6 : Int32) < (84 : Int32)))).1 (by decide) (by decide) ?_
    refine XS.iloadN X0.here hx rfl (hb hby (own_d D_mxb 3 rfl)) rfl ?_
    show Steps pP.tables e below (s₁.setTop (mkF m 10 #[.val (.int (6 : Int32)), .val (.int (84 : Int32))] [(.int (84 : Int32))])) _
    exact retOut X0 hx Bd.returns rfl (Or.inl ⟨rfl, Or.inl rfl, _, rfl⟩) (hb hby (own_d D_mxb 4 rfl)) hrE
  · show Q_mxb h0 n0 _ s₁.heap _
    rw [e0]
    exact ⟨rfl, N0, rfl⟩
def Q_nlb (h0 : Heap) (n0 : Nat) (v : Option Value) (h : Heap) (L : List Loc) : Prop := v = some (.int 164) ∧ Fr n0 L ∧ h = h0
theorem D_nlb : ∀ q ∈ ([(0, .iload_n 0, 1), (1, .iload_n 1, 1), (2, .iload_n 2, 1), (3, .invokestatic 194, 3), (6, .iadd, 1), (7, .istore_n 3, 1), (8, .iconst 0, 1), (9, .iload_n 3, 1), (10, .if_icmp .ge 11, 3), (13, .iload_n 3, 1), (14, .ldc 200, 2), (16, .if_icmp .gt 5, 3), (19, .iload_n 3, 1), (20, .ireturn, 1)] : List (Nat × Instr × Nat)), decode jdk_48_method_27_code q.1 = .ok q.2 := by decide +kernel
theorem ef_rm_nlb (m : MethodId) (x0 : Int32) (x1 : Int32) (x2 : Int32) : entryFrame m #[(.int x0), (.int x1), (.int x2)] 4 = mkF m 0 #[.val (.int x0), .val (.int x1), .val (.int x2), .unset] [] := by first | (simp [entryFrame, mkF, argsToLocals, Value.category]; done) | rfl
theorem rm_nlb (l : Launch) (Z : State) (a0 : Array Value) (hw : ∀ d ∈ tables_1, d.before a0 Z = true) (ws : List Jvm.Cond)  (h0 : Heap) (n0 : Nat) (Z0 : n0 ≤ h0.size) :
    MetFree l y_38 (head1 (Jvm.Cond.code y_38 jdk_48_method_27_code 4 (some .int) :: ws) r_24) (fun αs U => αs = #[(.int (80 : Int32)), (.int (6 : Int32)), (.int (84 : Int32))] ∧ Z.Warmed39 U.vm ∧ U.heap = h0) (fun _ _ _ _ _ => True) (fun _ Us oS Us' => ∃ vR LR, oS = .returned vR ∧ Q_nlb h0 n0 vR Us'.heap LR ∧ FrameEnd Us oS Us' LR r_24.cells r_24.slots) := by
  refine MetFree.of_bodySF (plainFor_of_name pno_8) hisR ?_
  intro pP e s m args below meth cC s₁ Bd hml0 hP hK
  obtain ⟨rfl, hZ, hh⟩ := hP
  have hx := Bd.exec
  have W := own_W hw
  have hby := Bd.bytes
  have hml : cC.maxLocals = 4 := hml0
  have hown : s.vm.findClass "jdk/internal/util/ArraysSupport" = some m.cls := findClass_of_methodNamed Bd.named
  have hnm := (name_of_methodNamed Bd.named Bd.method).1
  have X0 : Stand pP l e r_24 s m #[(.int (80 : Int32)), (.int (6 : Int32)), (.int (84 : Int32))] below meth cC s₁ [] 0 0 := Stand.of_body Bd
  have e0 : s₁.heap = h0 := by rw [← hh, Bd.state]; rfl
  have N0 := Fr.nil n0
  have KC0 : Keep h0 h0 [] := Keep.refl h0 _
  obtain ⟨A0, hA0⟩ : ∃ ζ, ζ = s₁.setTop (entryFrame m #[(.int (80 : Int32)), (.int (6 : Int32)), (.int (84 : Int32))] 4) := ⟨_, rfl⟩
  have pre0 : own_go pP e below A0 (s₁.setTop (mkF m 0 #[.val (.int (80 : Int32)), .val (.int (6 : Int32)), .val (.int (84 : Int32)), .unset] [])) := fun τ κ => by rw [hA0]; exact castTop (ef_rm_nlb m (80 : Int32) (6 : Int32) (84 : Int32)) κ
  obtain ⟨_, _, ⟨T101, L101, k101, n101⟩, -, X101, ⟨Lc101, hQ101, l101, y101, z101⟩, st101⟩ := Jvm.LawKit.callS X0 hx (y := y_37) hown (mvT hZ (W 194 rfl)) (mvT hZ (W 195 rfl)) (mvT hZ (W 156 rfl)) (mvT hZ (W 196 rfl)) (by decide) (backOf (W := 1) (rm_mxb l Z a0 hw []  h0 n0 Z0 ) hZ (W 196 rfl) (W 156 rfl) (by decide) (by decide)) (g := (mkF m 3 #[.val (.int (80 : Int32)), .val (.int (6 : Int32)), .val (.int (84 : Int32)), .unset] [(.int (84 : Int32)), (.int (6 : Int32)), (.int (80 : Int32))])) rfl (by rw [hml]; rfl) (argsL := [(.int (6 : Int32)), (.int (84 : Int32))]) (rest := [(.int (80 : Int32))]) (lenOf pdo_17 rfl) rfl (Nat.le_of_eq rfl) (hb hby (own_d D_nlb 3 rfl)) (fun _ _ => ⟨rfl, e0, (by decide : 0 + 0 ≤ _), (by decide : 0 + 0 ≤ _)⟩)
  dsimp only [Pt.U, Pt.locs, Pt.cells, Pt.slots] at X101 l101 y101 z101 st101 hQ101
  subst l101 y101 z101
  obtain ⟨rfl, Nq101, eq101⟩ := hQ101
  have N101 := Fr.app N0 Nq101
  have pq102 : own_go pP e below A0 (T101.setTop (mkF m 6 #[.val (.int (80 : Int32)), .val (.int (6 : Int32)), .val (.int (84 : Int32)), .unset] [(.int (84 : Int32)), (.int (80 : Int32))])) := by
    intro τ κ
    refine pre0 τ ?_
    refine XS.iloadN X0.here hx rfl (hb hby (own_d D_nlb 0 rfl)) rfl ?_
    refine XS.iloadN X0.here hx rfl (hb hby (own_d D_nlb 1 rfl)) rfl ?_
    refine XS.iloadN X0.here hx rfl (hb hby (own_d D_nlb 2 rfl)) rfl ?_
    refine st101 _ ?_
    exact κ
  obtain ⟨fs, hrE, hrun, hended, hW, hsame⟩ := X101.leave (v := some (.int (164 : Int32))) (fun h => by rw [Bd.returns] at h; cases h)
  have pqE := pq102
  rw [hA0] at pqE
  refine ⟨_, _, pqE _ ?_, hrun, hended, _, _, rfl, ?_, ⟨_, rfl⟩, hW, hsame.mono (by decide) (by decide)⟩
  · refine XS.iadd X101.here hx rfl (hb hby (own_d D_nlb 4 rfl)) rfl ?_
    refine XS.istoreN X101.here hx rfl (hb hby (own_d D_nlb 5 rfl)) rfl (l' := #[.val (.int (80 : Int32)), .val (.int (6 : Int32)), .val (.int (84 : Int32)), .val (.int (164 : Int32))]) rfl ?_
    refine XS.iconst X101.here hx rfl (hb hby (own_d D_nlb 6 rfl)) ?_
    refine XS.iloadN X101.here hx rfl (hb hby (own_d D_nlb 7 rfl)) rfl ?_
    refine XS.icmpNo X101.here hx rfl (hb hby (own_d D_nlb 8 rfl)) rfl (tlt (by decide : ((0 : Int32) < (164 : Int32)))).2.1 ?_
    refine XS.iloadN X101.here hx rfl (hb hby (own_d D_nlb 9 rfl)) rfl ?_
    refine X101.ldcInt hx hown (mvT hZ (W 197 rfl)) (g := (mkF m 14 #[.val (.int (80 : Int32)), .val (.int (6 : Int32)), .val (.int (84 : Int32)), .val (.int (164 : Int32))] [(.int (164 : Int32))])) rfl (hb hby (own_d D_nlb 10 rfl)) _ ?_
    refine XS.icmpNo X101.here hx rfl (hb hby (own_d D_nlb 11 rfl)) rfl (flt (by decide : ¬ ((2147483639 : Int32) < (164 : Int32)))).2.2.1 ?_
    refine XS.iloadN X101.here hx rfl (hb hby (own_d D_nlb 12 rfl)) rfl ?_
    show Steps pP.tables e below (T101.setTop (mkF m 20 #[.val (.int (80 : Int32)), .val (.int (6 : Int32)), .val (.int (84 : Int32)), .val (.int (164 : Int32))] [(.int (164 : Int32))])) _
    exact retOut X101 hx Bd.returns rfl (Or.inl ⟨rfl, Or.inl rfl, _, rfl⟩) (hb hby (own_d D_nlb 13 rfl)) hrE
  · show Q_nlb h0 n0 _ T101.heap _
    rw [eq101]
    exact ⟨rfl, N101, rfl⟩
def Q_ncb (h0 : Heap) (n0 : Nat) (v : Option Value) (h : Heap) (L : List Loc) : Prop := v = some (.int 82) ∧ Fr n0 L ∧ h = h0
theorem D_ncb : ∀ q ∈ ([(0, .aload_n 0, 1), (1, .getfield 15, 3), (4, .arraylength, 1), (5, .istore_n 2, 1), (6, .iload_n 1, 1), (7, .aload_n 0, 1), (8, .getfield 22, 3), (11, .ishl, 1), (12, .istore_n 3, 1), (13, .iload_n 3, 1), (14, .iload_n 2, 1), (15, .isub, 1), (16, .istore 4, 2), (18, .iload_n 2, 1), (19, .iload 4, 2), (21, .iload_n 2, 1), (22, .iconst 2, 1), (23, .aload_n 0, 1), (24, .getfield 22, 3), (27, .ishl, 1), (28, .iadd, 1), (29, .invokestatic 114, 3), (32, .istore 5, 2), (34, .iload 5, 2), (36, .ldc 39, 2), (38, .if_icmp .ne 13, 3), (51, .iload 5, 2), (53, .aload_n 0, 1), (54, .getfield 22, 3), (57, .ishr, 1), (58, .ireturn, 1)] : List (Nat × Instr × Nat)), decode jdk_68_method_10_code q.1 = .ok q.2 := by decide +kernel
theorem ef_rm_ncb (m : MethodId) (x0 : Addr) (x1 : Int32) : entryFrame m #[(.ref x0), (.int x1)] 6 = mkF m 0 #[.val (.ref x0), .val (.int x1), .unset, .unset, .unset, .unset] [] := by first | (simp [entryFrame, mkF, argsToLocals, Value.category]; done) | rfl
theorem rm_ncb (l : Launch) (Z : State) (a0 : Array Value) (hw : ∀ d ∈ tables_1, d.before a0 Z = true) (ws : List Jvm.Cond) (sb vb : Addr) (kv : ClassId) (vs : List Value) (h0 : Heap) (n0 : Nat) (Z0 : n0 ≤ h0.size) (E_sb : Exa Z h0 sb "java/lang/StringBuilder") (F_sv : Fld Z h0 sb "java/lang/AbstractStringBuilder" "value" "[B" (.ref vb)) (F_sc : Fld Z h0 sb "java/lang/AbstractStringBuilder" "coder" "B" (.int 1)) (F_sn : Fld Z h0 sb "java/lang/AbstractStringBuilder" "count" "I" (.int 40)) (F_sm : Fld Z h0 sb "java/lang/AbstractStringBuilder" "maybeLatin1" "Z" (.int 0)) (V_b : Arv Z h0 vb kv .byte (Int32.ofNat 80) vs (.int 0)) :
    MetFree l y_39 (head1 (Jvm.Cond.code y_39 jdk_68_method_10_code 6 (some .int) :: ws) r_14) (fun αs U => αs = #[(.ref sb), (.int (43 : Int32))] ∧ Z.Warmed39 U.vm ∧ U.heap = h0) (fun _ _ _ _ _ => True) (fun _ Us oS Us' => ∃ vR LR, oS = .returned vR ∧ Q_ncb h0 n0 vR Us'.heap LR ∧ FrameEnd Us oS Us' LR r_14.cells r_14.slots) := by
  refine MetFree.of_bodySF (plainFor_of_name pno_6) hisR ?_
  intro pP e s m args below meth cC s₁ Bd hml0 hP hK
  obtain ⟨rfl, hZ, hh⟩ := hP
  have hx := Bd.exec
  have W := own_W hw
  have hby := Bd.bytes
  have hml : cC.maxLocals = 6 := hml0
  have hown : s.vm.findClass "java/lang/AbstractStringBuilder" = some m.cls := findClass_of_methodNamed Bd.named
  have hnm := (name_of_methodNamed Bd.named Bd.method).1
  have X0 : Stand pP l e r_14 s m #[(.ref sb), (.int (43 : Int32))] below meth cC s₁ [] 0 0 := Stand.of_body Bd
  have e0 : s₁.heap = h0 := by rw [← hh, Bd.state]; rfl
  have N0 := Fr.nil n0
  have KC0 : Keep h0 h0 [] := Keep.refl h0 _
  obtain ⟨A0, hA0⟩ : ∃ ζ, ζ = s₁.setTop (entryFrame m #[(.ref sb), (.int (43 : Int32))] 6) := ⟨_, rfl⟩
  have pre0 : own_go pP e below A0 (s₁.setTop (mkF m 0 #[.val (.ref sb), .val (.int (43 : Int32)), .unset, .unset, .unset, .unset] [])) := fun τ κ => by rw [hA0]; exact castTop (ef_rm_ncb m sb (43 : Int32)) κ
  obtain ⟨T101, X101, e101, st101⟩ := getF X0 hx hZ hown (host := "") (Or.inl (W 99 rfl)) Via.refl e0 F_sv (g := (mkF m 1 #[.val (.ref sb), .val (.int (43 : Int32)), .unset, .unset, .unset, .unset] [(.ref sb)])) rfl rfl (hb hby (own_d D_ncb 1 rfl))
  have pq102 : own_go pP e below A0 (T101.setTop (mkF m 4 #[.val (.ref sb), .val (.int (43 : Int32)), .unset, .unset, .unset, .unset] [(.ref vb)])) := by
    intro τ κ
    refine pre0 τ ?_
    refine XS.aloadN X0.here hx rfl (hb hby (own_d D_ncb 0 rfl)) rfl rfl ?_
    refine st101 _ ?_
    exact κ
  obtain ⟨cl103, Ar103, q103, S103, M103, Hs103, G103⟩ := id V_b
  have pq104 : own_go pP e below A0 (T101.setTop (mkF m 5 #[.val (.ref sb), .val (.int (43 : Int32)), .unset, .unset, .unset, .unset] [(.int (Int32.ofNat 80))])) := by
    intro τ κ
    refine pq102 τ ?_
    refine X101.arraylength hx (by rw [e101]; exact Ar103.1) (State.isArrayOf_alike hZ.alike Ar103.2.1) (g := (mkF m 4 #[.val (.ref sb), .val (.int (43 : Int32)), .unset, .unset, .unset, .unset] [(.ref vb)])) rfl rfl (hb hby (own_d D_ncb 2 rfl)) _ ?_
    rw [len_of S103 M103]
    exact κ
  have pq105 : own_go pP e below A0 (T101.setTop (mkF m 5 #[.val (.ref sb), .val (.int (43 : Int32)), .unset, .unset, .unset, .unset] [(.int (80 : Int32))])) := by intro τ κ; refine pq104 τ ?_; rw [show (Int32.ofNat 80) = (80 : Int32) from rfl]; exact κ
  obtain ⟨T106, X106, e106, st106⟩ := getF X101 hx hZ hown (host := "") (Or.inl (W 101 rfl)) Via.refl e101 F_sc (g := (mkF m 8 #[.val (.ref sb), .val (.int (43 : Int32)), .val (.int (80 : Int32)), .unset, .unset, .unset] [(.ref sb), (.int (43 : Int32))])) rfl rfl (hb hby (own_d D_ncb 6 rfl))
  have pq107 : own_go pP e below A0 (T106.setTop (mkF m 11 #[.val (.ref sb), .val (.int (43 : Int32)), .val (.int (80 : Int32)), .unset, .unset, .unset] [(.int (1 : Int32)), (.int (43 : Int32))])) := by
    intro τ κ
    refine pq105 τ ?_
    refine XS.istoreN X101.here hx rfl (hb hby (own_d D_ncb 3 rfl)) rfl (l' := #[.val (.ref sb), .val (.int (43 : Int32)), .val (.int (80 : Int32)), .unset, .unset, .unset]) rfl ?_
    refine XS.iloadN X101.here hx rfl (hb hby (own_d D_ncb 4 rfl)) rfl ?_
    refine XS.aloadN X101.here hx rfl (hb hby (own_d D_ncb 5 rfl)) rfl rfl ?_
    refine st106 _ ?_
    exact κ
  have pq108 : own_go pP e below A0 (T106.setTop (mkF m 12 #[.val (.ref sb), .val (.int (43 : Int32)), .val (.int (80 : Int32)), .unset, .unset, .unset] [(.int ((43 : Int32) <<< ((1 : Int32) &&& 31)))])) := by
    intro τ κ
    refine pq107 τ ?_
    refine XS.ishl X106.here hx rfl (hb hby (own_d D_ncb 7 rfl)) rfl ?_
    exact κ
  have pq109 : own_go pP e below A0 (T106.setTop (mkF m 12 #[.val (.ref sb), .val (.int (43 : Int32)), .val (.int (80 : Int32)), .unset, .unset, .unset] [(.int (86 : Int32))])) := by intro τ κ; refine pq108 τ ?_; rw [show ((43 : Int32) <<< ((1 : Int32) &&& 31)) = (86 : Int32) from (by decide)]; exact κ
  obtain ⟨T110, X110, e110, st110⟩ := getF X106 hx hZ hown (host := "") (Or.inl (W 101 rfl)) Via.refl e106 F_sc (g := (mkF m 24 #[.val (.ref sb), .val (.int (43 : Int32)), .val (.int (80 : Int32)), .val (.int (86 : Int32)), .val (.int (6 : Int32)), .unset] [(.ref sb), (.int (2 : Int32)), (.int (80 : Int32)), (.int (6 : Int32)), (.int (80 : Int32))])) rfl rfl (hb hby (own_d D_ncb 18 rfl))
  have pq111 : own_go pP e below A0 (T110.setTop (mkF m 27 #[.val (.ref sb), .val (.int (43 : Int32)), .val (.int (80 : Int32)), .val (.int (86 : Int32)), .val (.int (6 : Int32)), .unset] [(.int (1 : Int32)), (.int (2 : Int32)), (.int (80 : Int32)), (.int (6 : Int32)), (.int (80 : Int32))])) := by
    intro τ κ
    refine pq109 τ ?_
    refine XS.istoreN X106.here hx rfl (hb hby (own_d D_ncb 8 rfl)) rfl (l' := #[.val (.ref sb), .val (.int (43 : Int32)), .val (.int (80 : Int32)), .val (.int (86 : Int32)), .unset, .unset]) rfl ?_
    refine XS.iloadN X106.here hx rfl (hb hby (own_d D_ncb 9 rfl)) rfl ?_
    refine XS.iloadN X106.here hx rfl (hb hby (own_d D_ncb 10 rfl)) rfl ?_
    refine XS.isub X106.here hx rfl (hb hby (own_d D_ncb 11 rfl)) rfl ?_
    refine XS.istore X106.here hx rfl (hb hby (own_d D_ncb 12 rfl)) rfl (l' := #[.val (.ref sb), .val (.int (43 : Int32)), .val (.int (80 : Int32)), .val (.int (86 : Int32)), .val (.int (6 : Int32)), .unset]) rfl ?_
    refine XS.iloadN X106.here hx rfl (hb hby (own_d D_ncb 13 rfl)) rfl ?_
    refine XS.iload X106.here hx rfl (hb hby (own_d D_ncb 14 rfl)) rfl ?_
    refine XS.iloadN X106.here hx rfl (hb hby (own_d D_ncb 15 rfl)) rfl ?_
    refine XS.iconst X106.here hx rfl (hb hby (own_d D_ncb 16 rfl)) ?_
    refine XS.aloadN X106.here hx rfl (hb hby (own_d D_ncb 17 rfl)) rfl rfl ?_
    refine st110 _ ?_
    exact κ
  have pq112 : own_go pP e below A0 (T110.setTop (mkF m 28 #[.val (.ref sb), .val (.int (43 : Int32)), .val (.int (80 : Int32)), .val (.int (86 : Int32)), .val (.int (6 : Int32)), .unset] [(.int ((2 : Int32) <<< ((1 : Int32) &&& 31))), (.int (80 : Int32)), (.int (6 : Int32)), (.int (80 : Int32))])) := by
    intro τ κ
    refine pq111 τ ?_
    refine XS.ishl X110.here hx rfl (hb hby (own_d D_ncb 19 rfl)) rfl ?_
    exact κ
  have pq113 : own_go pP e below A0 (T110.setTop (mkF m 28 #[.val (.ref sb), .val (.int (43 : Int32)), .val (.int (80 : Int32)), .val (.int (86 : Int32)), .val (.int (6 : Int32)), .unset] [(.int (4 : Int32)), (.int (80 : Int32)), (.int (6 : Int32)), (.int (80 : Int32))])) := by intro τ κ; refine pq112 τ ?_; rw [show ((2 : Int32) <<< ((1 : Int32) &&& 31)) = (4 : Int32) from (by decide)]; exact κ
  obtain ⟨_, _, ⟨T114, L114, k114, n114⟩, -, X114, ⟨Lc114, hQ114, l114, y114, z114⟩, st114⟩ := Jvm.LawKit.callS X110 hx (y := y_38) hown (mvT hZ (W 190 rfl)) (mvT hZ (W 191 rfl)) (mvT hZ (W 192 rfl)) (mvT hZ (W 193 rfl)) (by decide) (backOf (W := 0) (rm_nlb l Z a0 hw []  h0 n0 Z0 ) hZ (W 193 rfl) (W 192 rfl) (by decide) (by decide)) (g := (mkF m 29 #[.val (.ref sb), .val (.int (43 : Int32)), .val (.int (80 : Int32)), .val (.int (86 : Int32)), .val (.int (6 : Int32)), .unset] [(.int (84 : Int32)), (.int (6 : Int32)), (.int (80 : Int32))])) rfl (by rw [hml]; rfl) (argsL := [(.int (80 : Int32)), (.int (6 : Int32)), (.int (84 : Int32))]) (rest := []) (lenOf pdo_14 rfl) rfl (Nat.le_of_eq rfl) (hb hby (own_d D_ncb 21 rfl)) (fun _ _ => ⟨rfl, e110, (by decide : 0 + 0 ≤ _), (by decide : 0 + 0 ≤ _)⟩)
  dsimp only [Pt.U, Pt.locs, Pt.cells, Pt.slots] at X114 l114 y114 z114 st114 hQ114
  subst l114 y114 z114
  obtain ⟨rfl, Nq114, eq114⟩ := hQ114
  have N114 := Fr.app N0 Nq114
  have pq115 : own_go pP e below A0 (T114.setTop (mkF m 32 #[.val (.ref sb), .val (.int (43 : Int32)), .val (.int (80 : Int32)), .val (.int (86 : Int32)), .val (.int (6 : Int32)), .unset] [(.int (164 : Int32))])) := by
    intro τ κ
    refine pq113 τ ?_
    refine XS.iadd X110.here hx rfl (hb hby (own_d D_ncb 20 rfl)) rfl ?_
    refine st114 _ ?_
    exact κ
  obtain ⟨T116, X116, e116, st116⟩ := getF X114 hx hZ hown (host := "") (Or.inl (W 101 rfl)) Via.refl eq114 F_sc (g := (mkF m 54 #[.val (.ref sb), .val (.int (43 : Int32)), .val (.int (80 : Int32)), .val (.int (86 : Int32)), .val (.int (6 : Int32)), .val (.int (164 : Int32))] [(.ref sb), (.int (164 : Int32))])) rfl rfl (hb hby (own_d D_ncb 28 rfl))
  have pq117 : own_go pP e below A0 (T116.setTop (mkF m 57 #[.val (.ref sb), .val (.int (43 : Int32)), .val (.int (80 : Int32)), .val (.int (86 : Int32)), .val (.int (6 : Int32)), .val (.int (164 : Int32))] [(.int (1 : Int32)), (.int (164 : Int32))])) := by
    intro τ κ
    refine pq115 τ ?_
    refine XS.istore X114.here hx rfl (hb hby (own_d D_ncb 22 rfl)) rfl (l' := #[.val (.ref sb), .val (.int (43 : Int32)), .val (.int (80 : Int32)), .val (.int (86 : Int32)), .val (.int (6 : Int32)), .val (.int (164 : Int32))]) rfl ?_
    refine XS.iload X114.here hx rfl (hb hby (own_d D_ncb 23 rfl)) rfl ?_
    refine X114.ldcInt hx hown (mvT hZ (W 198 rfl)) (g := (mkF m 36 #[.val (.ref sb), .val (.int (43 : Int32)), .val (.int (80 : Int32)), .val (.int (86 : Int32)), .val (.int (6 : Int32)), .val (.int (164 : Int32))] [(.int (164 : Int32))])) rfl (hb hby (own_d D_ncb 24 rfl)) _ ?_
    refine XS.icmpYes X114.here hx rfl (pc0 := 38) (pc' := 51) rfl (hb hby (own_d D_ncb 25 rfl)) rfl (feq (by decide : ¬ ((164 : Int32) = (2147483647 : Int32)))).2 (by decide) (by decide) ?_
    refine XS.iload X114.here hx rfl (hb hby (own_d D_ncb 26 rfl)) rfl ?_
    refine XS.aloadN X114.here hx rfl (hb hby (own_d D_ncb 27 rfl)) rfl rfl ?_
    refine st116 _ ?_
    exact κ
  have pq118 : own_go pP e below A0 (T116.setTop (mkF m 58 #[.val (.ref sb), .val (.int (43 : Int32)), .val (.int (80 : Int32)), .val (.int (86 : Int32)), .val (.int (6 : Int32)), .val (.int (164 : Int32))] [(.int ((164 : Int32) >>> ((1 : Int32) &&& 31)))])) := by
    intro τ κ
    refine pq117 τ ?_
    refine XS.ishr X116.here hx rfl (hb hby (own_d D_ncb 29 rfl)) rfl ?_
    exact κ
  have pq119 : own_go pP e below A0 (T116.setTop (mkF m 58 #[.val (.ref sb), .val (.int (43 : Int32)), .val (.int (80 : Int32)), .val (.int (86 : Int32)), .val (.int (6 : Int32)), .val (.int (164 : Int32))] [(.int (82 : Int32))])) := by intro τ κ; refine pq118 τ ?_; rw [show ((164 : Int32) >>> ((1 : Int32) &&& 31)) = (82 : Int32) from (by decide)]; exact κ
  obtain ⟨fs, hrE, hrun, hended, hW, hsame⟩ := X116.leave (v := some (.int (82 : Int32))) (fun h => by rw [Bd.returns] at h; cases h)
  have pqE := pq119
  rw [hA0] at pqE
  refine ⟨_, _, pqE _ ?_, hrun, hended, _, _, rfl, ?_, ⟨_, rfl⟩, hW, hsame.mono (by decide) (by decide)⟩
  · show Steps pP.tables e below (T116.setTop (mkF m 58 #[.val (.ref sb), .val (.int (43 : Int32)), .val (.int (80 : Int32)), .val (.int (86 : Int32)), .val (.int (6 : Int32)), .val (.int (164 : Int32))] [(.int (82 : Int32))])) _
    exact retOut X116 hx Bd.returns rfl (Or.inl ⟨rfl, Or.inl rfl, _, rfl⟩) (hb hby (own_d D_ncb 30 rfl)) hrE
  · show Q_ncb h0 n0 _ T116.heap _
    rw [e116]
    exact ⟨rfl, N114, rfl⟩
def Q_enb (Z : State) (sb : Addr) (vs : List Value) (h0 : Heap) (n0 : Nat) (v : Option Value) (h : Heap) (L : List Loc) : Prop := ∃ (u : Addr) (ku : ClassId), v = none ∧ Fr n0 L ∧ Keep h0 h [sb] ∧ h0.size ≤ u ∧ Exa Z h sb "java/lang/StringBuilder" ∧ Fld Z h sb "java/lang/AbstractStringBuilder" "value" "[B" (.ref u) ∧ Fld Z h sb "java/lang/AbstractStringBuilder" "coder" "B" (.int 1) ∧ Fld Z h sb "java/lang/AbstractStringBuilder" "count" "I" (.int 40) ∧ Fld Z h sb "java/lang/AbstractStringBuilder" "maybeLatin1" "Z" (.int 0) ∧ Arv Z h u ku .byte (Int32.ofNat (164)) (own_cp vs (80)) (.int 0)
theorem D_enb : ∀ q ∈ ([(0, .aload_n 0, 1), (1, .getfield 15, 3), (4, .arraylength, 1), (5, .aload_n 0, 1), (6, .getfield 22, 3), (9, .ishr, 1), (10, .istore_n 2, 1), (11, .iload_n 1, 1), (12, .iload_n 2, 1), (13, .isub, 1), (14, .ifCond .le 24, 3), (17, .aload_n 0, 1), (18, .aload_n 0, 1), (19, .getfield 15, 3), (22, .aload_n 0, 1), (23, .iload_n 1, 1), (24, .invokevirtual 104, 3), (27, .aload_n 0, 1), (28, .getfield 22, 3), (31, .ishl, 1), (32, .invokestatic 108, 3), (35, .putfield 15, 3), (38, .return_, 1)] : List (Nat × Instr × Nat)), decode jdk_68_method_9_code q.1 = .ok q.2 := by decide +kernel
theorem ef_rm_enb (m : MethodId) (x0 : Addr) (x1 : Int32) : entryFrame m #[(.ref x0), (.int x1)] 3 = mkF m 0 #[.val (.ref x0), .val (.int x1), .unset] [] := by first | (simp [entryFrame, mkF, argsToLocals, Value.category]; done) | rfl
theorem rm_enb (l : Launch) (Z : State) (a0 : Array Value) (hw : ∀ d ∈ tables_1, d.before a0 Z = true) (ws : List Jvm.Cond) (sb vb : Addr) (kv : ClassId) (vs : List Value) (h0 : Heap) (n0 : Nat) (Z0 : n0 ≤ h0.size) (E_sb : Exa Z h0 sb "java/lang/StringBuilder") (F_sv : Fld Z h0 sb "java/lang/AbstractStringBuilder" "value" "[B" (.ref vb)) (F_sc : Fld Z h0 sb "java/lang/AbstractStringBuilder" "coder" "B" (.int 1)) (F_sn : Fld Z h0 sb "java/lang/AbstractStringBuilder" "count" "I" (.int 40)) (F_sm : Fld Z h0 sb "java/lang/AbstractStringBuilder" "maybeLatin1" "Z" (.int 0)) (V_b : Arv Z h0 vb kv .byte (Int32.ofNat 80) vs (.int 0)) (gsb : n0 ≤ sb) :
    MetFree l y_40 (head1 (Jvm.Cond.code y_40 jdk_68_method_9_code 3 none :: ws) r_25) (fun αs U => αs = #[(.ref sb), (.int (43 : Int32))] ∧ Z.Warmed39 U.vm ∧ U.heap = h0) (fun _ _ _ _ _ => True) (fun _ Us oS Us' => ∃ vR LR, oS = .returned vR ∧ Q_enb Z sb vs h0 n0 vR Us'.heap LR ∧ FrameEnd Us oS Us' LR r_25.cells r_25.slots) := by
  refine MetFree.of_bodySF (plainFor_of_name pno_6) hisR ?_
  intro pP e s m args below meth cC s₁ Bd hml0 hP hK
  obtain ⟨rfl, hZ, hh⟩ := hP
  have hx := Bd.exec
  have W := own_W hw
  have hby := Bd.bytes
  have hml : cC.maxLocals = 3 := hml0
  have hown : s.vm.findClass "java/lang/AbstractStringBuilder" = some m.cls := findClass_of_methodNamed Bd.named
  have hnm := (name_of_methodNamed Bd.named Bd.method).1
  have X0 : Stand pP l e r_25 s m #[(.ref sb), (.int (43 : Int32))] below meth cC s₁ [] 0 0 := Stand.of_body Bd
  have e0 : s₁.heap = h0 := by rw [← hh, Bd.state]; rfl
  have N0 := Fr.nil n0
  have KC0 : Keep h0 h0 [sb] := Keep.refl h0 _
  obtain ⟨A0, hA0⟩ : ∃ ζ, ζ = s₁.setTop (entryFrame m #[(.ref sb), (.int (43 : Int32))] 3) := ⟨_, rfl⟩
  have pre0 : own_go pP e below A0 (s₁.setTop (mkF m 0 #[.val (.ref sb), .val (.int (43 : Int32)), .unset] [])) := fun τ κ => by rw [hA0]; exact castTop (ef_rm_enb m sb (43 : Int32)) κ
  obtain ⟨T101, X101, e101, st101⟩ := getF X0 hx hZ hown (host := "") (Or.inl (W 99 rfl)) Via.refl e0 F_sv (g := (mkF m 1 #[.val (.ref sb), .val (.int (43 : Int32)), .unset] [(.ref sb)])) rfl rfl (hb hby (own_d D_enb 1 rfl))
  have pq102 : own_go pP e below A0 (T101.setTop (mkF m 4 #[.val (.ref sb), .val (.int (43 : Int32)), .unset] [(.ref vb)])) := by
    intro τ κ
    refine pre0 τ ?_
    refine XS.aloadN X0.here hx rfl (hb hby (own_d D_enb 0 rfl)) rfl rfl ?_
    refine st101 _ ?_
    exact κ
  obtain ⟨cl103, Ar103, q103, S103, M103, Hs103, G103⟩ := id V_b
  have pq104 : own_go pP e below A0 (T101.setTop (mkF m 5 #[.val (.ref sb), .val (.int (43 : Int32)), .unset] [(.int (Int32.ofNat 80))])) := by
    intro τ κ
    refine pq102 τ ?_
    refine X101.arraylength hx (by rw [e101]; exact Ar103.1) (State.isArrayOf_alike hZ.alike Ar103.2.1) (g := (mkF m 4 #[.val (.ref sb), .val (.int (43 : Int32)), .unset] [(.ref vb)])) rfl rfl (hb hby (own_d D_enb 2 rfl)) _ ?_
    rw [len_of S103 M103]
    exact κ
  have pq105 : own_go pP e below A0 (T101.setTop (mkF m 5 #[.val (.ref sb), .val (.int (43 : Int32)), .unset] [(.int (80 : Int32))])) := by intro τ κ; refine pq104 τ ?_; rw [show (Int32.ofNat 80) = (80 : Int32) from rfl]; exact κ
  obtain ⟨T106, X106, e106, st106⟩ := getF X101 hx hZ hown (host := "") (Or.inl (W 101 rfl)) Via.refl e101 F_sc (g := (mkF m 6 #[.val (.ref sb), .val (.int (43 : Int32)), .unset] [(.ref sb), (.int (80 : Int32))])) rfl rfl (hb hby (own_d D_enb 4 rfl))
  have pq107 : own_go pP e below A0 (T106.setTop (mkF m 9 #[.val (.ref sb), .val (.int (43 : Int32)), .unset] [(.int (1 : Int32)), (.int (80 : Int32))])) := by
    intro τ κ
    refine pq105 τ ?_
    refine XS.aloadN X101.here hx rfl (hb hby (own_d D_enb 3 rfl)) rfl rfl ?_
    refine st106 _ ?_
    exact κ
  have pq108 : own_go pP e below A0 (T106.setTop (mkF m 10 #[.val (.ref sb), .val (.int (43 : Int32)), .unset] [(.int ((80 : Int32) >>> ((1 : Int32) &&& 31)))])) := by
    intro τ κ
    refine pq107 τ ?_
    refine XS.ishr X106.here hx rfl (hb hby (own_d D_enb 5 rfl)) rfl ?_
    exact κ
  have pq109 : own_go pP e below A0 (T106.setTop (mkF m 10 #[.val (.ref sb), .val (.int (43 : Int32)), .unset] [(.int (40 : Int32))])) := by intro τ κ; refine pq108 τ ?_; rw [show ((80 : Int32) >>> ((1 : Int32) &&& 31)) = (40 : Int32) from (by decide)]; exact κ
  obtain ⟨T110, X110, e110, st110⟩ := getF X106 hx hZ hown (host := "") (Or.inl (W 99 rfl)) Via.refl e106 F_sv (g := (mkF m 19 #[.val (.ref sb), .val (.int (43 : Int32)), .val (.int (40 : Int32))] [(.ref sb), (.ref sb)])) rfl rfl (hb hby (own_d D_enb 13 rfl))
  have pq111 : own_go pP e below A0 (T110.setTop (mkF m 22 #[.val (.ref sb), .val (.int (43 : Int32)), .val (.int (40 : Int32))] [(.ref vb), (.ref sb)])) := by
    intro τ κ
    refine pq109 τ ?_
    refine XS.istoreN X106.here hx rfl (hb hby (own_d D_enb 6 rfl)) rfl (l' := #[.val (.ref sb), .val (.int (43 : Int32)), .val (.int (40 : Int32))]) rfl ?_
    refine XS.iloadN X106.here hx rfl (hb hby (own_d D_enb 7 rfl)) rfl ?_
    refine XS.iloadN X106.here hx rfl (hb hby (own_d D_enb 8 rfl)) rfl ?_
    refine XS.isub X106.here hx rfl (hb hby (own_d D_enb 9 rfl)) rfl ?_
    refine XS.ifNo X106.here hx rfl (hb hby (own_d D_enb 10 rfl)) rfl ((if0 _ _).trans (tlt (by decide : ((0 : Int32) < (3 : Int32)))).2.2.2) ?_
    refine XS.aloadN X106.here hx rfl (hb hby (own_d D_enb 11 rfl)) rfl rfl ?_
    refine XS.aloadN X106.here hx rfl (hb hby (own_d D_enb 12 rfl)) rfl rfl ?_
    refine st110 _ ?_
    exact κ
  obtain ⟨cq113, kq113, q113a, q113b, q113c⟩ := isOf hZ e110 E_sb
  obtain ⟨_, _, ⟨T112, L112, k112, n112⟩, -, X112, ⟨Lc112, hQ112, l112, y112, z112⟩, st112⟩ := X110.virtualBack hx (y := y_39) (z := y_39) hown (mvT hZ (W 185 rfl)) (mvT hZ (own_declares (W 186 rfl) (W 189 rfl))) (notFace_of_selects (args := #[]) (mvT hZ (W 188 rfl))) (mvT hZ (W 188 rfl)) (mvT hZ (W 186 rfl)) (by decide) (backOf (W := 2) (rm_ncb l Z a0 hw [] sb vb kv vs h0 n0 Z0 E_sb F_sv F_sc F_sn F_sm V_b) hZ (W 189 rfl) (W 95 rfl) (by decide) (by decide)) q113a q113c (g := (mkF m 24 #[.val (.ref sb), .val (.int (43 : Int32)), .val (.int (40 : Int32))] [(.int (43 : Int32)), (.ref sb), (.ref vb), (.ref sb)])) rfl (by rw [hml]; rfl) (Steps.refl _) (argsL := [(.int (43 : Int32))]) (rest := [(.ref vb), (.ref sb)]) (lenOf pdo_3 rfl) rfl (Nat.le_of_eq rfl) (hb hby (own_d D_enb 16 rfl)) (fun _ _ => ⟨rfl, e110, (by decide : 0 + 0 ≤ _), (by decide : 0 + 0 ≤ _)⟩)
  dsimp only [Pt.U, Pt.locs, Pt.cells, Pt.slots] at X112 l112 y112 z112 st112 hQ112
  subst l112 y112 z112
  obtain ⟨rfl, Nq112, eq112⟩ := hQ112
  have N112 := Fr.app N0 Nq112
  have pq114 : own_go pP e below A0 (T112.setTop (mkF m 27 #[.val (.ref sb), .val (.int (43 : Int32)), .val (.int (40 : Int32))] [(.int (82 : Int32)), (.ref vb), (.ref sb)])) := by
    intro τ κ
    refine pq111 τ ?_
    refine XS.aloadN X110.here hx rfl (hb hby (own_d D_enb 14 rfl)) rfl rfl ?_
    refine XS.iloadN X110.here hx rfl (hb hby (own_d D_enb 15 rfl)) rfl ?_
    refine st112.trans ?_
    exact κ
  obtain ⟨T115, X115, e115, st115⟩ := getF X112 hx hZ hown (host := "") (Or.inl (W 101 rfl)) Via.refl eq112 F_sc (g := (mkF m 28 #[.val (.ref sb), .val (.int (43 : Int32)), .val (.int (40 : Int32))] [(.ref sb), (.int (82 : Int32)), (.ref vb), (.ref sb)])) rfl rfl (hb hby (own_d D_enb 18 rfl))
  have pq116 : own_go pP e below A0 (T115.setTop (mkF m 31 #[.val (.ref sb), .val (.int (43 : Int32)), .val (.int (40 : Int32))] [(.int (1 : Int32)), (.int (82 : Int32)), (.ref vb), (.ref sb)])) := by
    intro τ κ
    refine pq114 τ ?_
    refine XS.aloadN X112.here hx rfl (hb hby (own_d D_enb 17 rfl)) rfl rfl ?_
    refine st115 _ ?_
    exact κ
  have pq117 : own_go pP e below A0 (T115.setTop (mkF m 32 #[.val (.ref sb), .val (.int (43 : Int32)), .val (.int (40 : Int32))] [(.int ((82 : Int32) <<< ((1 : Int32) &&& 31))), (.ref vb), (.ref sb)])) := by
    intro τ κ
    refine pq116 τ ?_
    refine XS.ishl X115.here hx rfl (hb hby (own_d D_enb 19 rfl)) rfl ?_
    exact κ
  have pq118 : own_go pP e below A0 (T115.setTop (mkF m 32 #[.val (.ref sb), .val (.int (43 : Int32)), .val (.int (40 : Int32))] [(.int (164 : Int32)), (.ref vb), (.ref sb)])) := by intro τ κ; refine pq117 τ ?_; rw [show ((82 : Int32) <<< ((1 : Int32) &&& 31)) = (164 : Int32) from (by decide)]; exact κ
  obtain ⟨_, _, ⟨T119, L119, k119, n119⟩, -, X119, ⟨Lc119, hQ119, l119, y119, z119⟩, st119⟩ := Jvm.LawKit.callS X115 hx (y := y_36) hown (mvT hZ (W 199 rfl)) (mvT hZ (W 200 rfl)) (mvT hZ (W 146 rfl)) (mvT hZ (W 201 rfl)) (by decide) (backOf (W := 1) (rm_cof l Z a0 hw [] vb kv 80 164 vs h0 n0 Z0 V_b (by decide) (by decide)) hZ (W 201 rfl) (W 146 rfl) (by decide) (by decide)) (g := (mkF m 32 #[.val (.ref sb), .val (.int (43 : Int32)), .val (.int (40 : Int32))] [(.int (164 : Int32)), (.ref vb), (.ref sb)])) rfl (by rw [hml]; rfl) (argsL := [(.ref vb), (.int (164 : Int32))]) (rest := [(.ref sb)]) (lenOf pdo_25 rfl) rfl (Nat.le_of_eq rfl) (hb hby (own_d D_enb 20 rfl)) (fun _ _ => ⟨rfl, e115, (by decide : 0 + 1 ≤ _), (by decide : 0 + 400 ≤ _)⟩)
  dsimp only [Pt.U, Pt.locs, Pt.cells, Pt.slots] at X119 l119 y119 z119 st119 hQ119
  subst l119 y119 z119
  obtain ⟨b119, kb119, rfl, Nq119, K119, lb119, V119⟩ := hQ119
  have N119 := Fr.app N112 Nq119
  have pq120 : own_go pP e below A0 (T119.setTop (mkF m 35 #[.val (.ref sb), .val (.int (43 : Int32)), .val (.int (40 : Int32))] [(.ref b119), (.ref sb)])) := by
    intro τ κ
    refine pq118 τ ?_
    refine st119 _ ?_
    exact κ
  have KC119 := KC0.trans K119 all0
  have f121 := (E_sb.keep K119)
  have f122 := (F_sv.keep K119 nin0)
  obtain ⟨T123, h123, X123, e123, W123, st123⟩ := putF X119 hx hZ hown (host := "") (Or.inl (W 99 rfl)) Via.refl rfl f122 f121 (Or.inl (W 100 rfl)) (W 86 rfl) (ty := (.array .byte)) (by decide) rfl rfl (g := (mkF m 35 #[.val (.ref sb), .val (.int (43 : Int32)), .val (.int (40 : Int32))] [(.ref b119), (.ref sb)])) rfl rfl (hb hby (own_d D_enb 21 rfl))
  have pq124 : own_go pP e below A0 (T123.setTop (mkF m 38 #[.val (.ref sb), .val (.int (43 : Int32)), .val (.int (40 : Int32))] [])) := by
    intro τ κ
    refine pq120 τ ?_
    refine st123 _ ?_
    exact κ
  have KC123 := KC119.wr W123 (Or.inl (List.mem_of_getElem? (i := 0) rfl))
  have Fw123 := f122.same W123
  have N123 := Fr.snoc X123 N119 gsb
  have f125 := (f121.wr W123)
  have f126 := ((F_sc.keep K119 nin0).other W123 (Or.inr (slot_ne (Or.inl (W 102 rfl)) (Or.inl (W 100 rfl)) (by decide) (t := .byte) (t' := (.array .byte)) (by decide) (by decide))))
  have f127 := ((F_sn.keep K119 nin0).other W123 (Or.inr (slot_ne (Or.inl (W 179 rfl)) (Or.inl (W 100 rfl)) (by decide) (t := .int) (t' := (.array .byte)) (by decide) (by decide))))
  have f128 := ((F_sm.keep K119 nin0).other W123 (Or.inr (slot_ne (Or.inl (W 266 rfl)) (Or.inl (W 100 rfl)) (by decide) (t := .boolean) (t' := (.array .byte)) (by decide) (by decide))))
  have f129 := (V119.other W123 (Ne.symm (Nat.ne_of_lt (Nat.lt_of_lt_of_le E_sb.lt lb119))))
  obtain ⟨fs, hrE, hrun, hended, hW, hsame⟩ := X123.leave (v := none) (fun _ => rfl)
  have pqE := pq124
  rw [hA0] at pqE
  refine ⟨_, _, pqE _ ?_, hrun, hended, _, _, rfl, ?_, ⟨_, rfl⟩, hW, hsame.mono (by decide) (by decide)⟩
  · show Steps pP.tables e below (T123.setTop (mkF m 38 #[.val (.ref sb), .val (.int (43 : Int32)), .val (.int (40 : Int32))] [])) _
    exact X123.returnOut hx Bd.returns (hb hby (own_d D_enb 22 rfl)) hrE
  · show Q_enb Z sb vs h0 n0 _ T123.heap _
    rw [e123]
    exact ⟨b119, _, rfl, N123, KC123, (Nat.le_trans (Nat.le_refl _) lb119), f125, Fw123, f126, f127, f128, f129⟩
theorem D_ui0 : ∀ q ∈ ([(0, .iload_n 3, 1), (1, .iload 4, 2), (3, .aload_n 2, 1), (4, .invokestatic 173, 3), (7, .iconst 0, 1), (8, .istore 5, 2), (10, .iload 5, 2), (12, .iload 4, 2), (14, .if_icmp .ge 27, 3), (41, .return_, 1)] : List (Nat × Instr × Nat)), decode jdk_52_method_86_code q.1 = .ok q.2 := by decide +kernel
theorem ef_rm_ui0 (m : MethodId) (x0 : Addr) (x1 : Int32) (x2 : Addr) (x3 : Int32) (x4 : Int32) : entryFrame m #[(.ref x0), (.int x1), (.ref x2), (.int x3), (.int x4)] 6 = mkF m 0 #[.val (.ref x0), .val (.int x1), .val (.ref x2), .val (.int x3), .val (.int x4), .unset] [] := by first | (simp [entryFrame, mkF, argsToLocals, Value.category]; done) | rfl
theorem rm_ui0 (l : Launch) (Z : State) (a0 : Array Value) (hw : ∀ d ∈ tables_1, d.before a0 Z = true) (ws : List Jvm.Cond) (t : Addr) (u : Addr) (ku : ClassId) (k : Nat) (us : List Value) (G3 : Value) (h0 : Heap) (n0 : Nat) (Z0 : n0 ≤ h0.size) (O4 : Sta Z Z.heap "jdk/internal/util/Preconditions" "SIOOBE_FORMATTER" "Ljava/util/function/BiFunction;" G3) (rG3 : G3.isRef = true) (X00 : Old Z n0 h0) (V_u : Arv Z h0 u ku .byte (Int32.ofNat (2 * k)) us (.int 0)) (hk : k < 100) :
    MetFree l y_41 (head1 (Jvm.Cond.code y_41 jdk_52_method_86_code 6 none :: ws) r_15) (fun αs U => αs = #[(.ref t), (.int (0 : Int32)), (.ref u), (.int (0 : Int32)), (.int (0 : Int32))] ∧ Z.Warmed39 U.vm ∧ U.heap = h0) (fun _ _ _ _ _ => True) (fun _ Us oS Us' => ∃ vR LR, oS = .returned vR ∧ Q_uco h0 n0 vR Us'.heap LR ∧ FrameEnd Us oS Us' LR r_15.cells r_15.slots) := by
  refine MetFree.of_bodySF (plainFor_of_name pno_2) hisR ?_
  intro pP e s m args below meth cC s₁ Bd hml0 hP hK
  obtain ⟨rfl, hZ, hh⟩ := hP
  have hx := Bd.exec
  have W := own_W hw
  have hby := Bd.bytes
  have hml : cC.maxLocals = 6 := hml0
  have hown : s.vm.findClass "java/lang/StringUTF16" = some m.cls := findClass_of_methodNamed Bd.named
  have hnm := (name_of_methodNamed Bd.named Bd.method).1
  have X0 : Stand pP l e r_15 s m #[(.ref t), (.int (0 : Int32)), (.ref u), (.int (0 : Int32)), (.int (0 : Int32))] below meth cC s₁ [] 0 0 := Stand.of_body Bd
  have e0 : s₁.heap = h0 := by rw [← hh, Bd.state]; rfl
  have N0 := Fr.nil n0
  have KC0 : Keep h0 h0 [] := Keep.refl h0 _
  obtain ⟨A0, hA0⟩ : ∃ ζ, ζ = s₁.setTop (entryFrame m #[(.ref t), (.int (0 : Int32)), (.ref u), (.int (0 : Int32)), (.int (0 : Int32))] 6) := ⟨_, rfl⟩
  have pre0 : own_go pP e below A0 (s₁.setTop (mkF m 0 #[.val (.ref t), .val (.int (0 : Int32)), .val (.ref u), .val (.int (0 : Int32)), .val (.int (0 : Int32)), .unset] [])) := fun τ κ => by rw [hA0]; exact castTop (ef_rm_ui0 m t (0 : Int32) u (0 : Int32) (0 : Int32)) κ
  obtain ⟨_, _, ⟨T101, L101, k101, n101⟩, -, X101, ⟨Lc101, hQ101, l101, y101, z101⟩, st101⟩ := Jvm.LawKit.callS X0 hx (y := y_23) hown (mvT hZ (W 132 rfl)) (mvT hZ (W 133 rfl)) (mvT hZ (W 39 rfl)) (mvT hZ (W 134 rfl)) (by decide) (backOf (W := 0) (rm_uco l Z a0 hw [] 0 0 u ku k us G3 h0 n0 Z0 O4 rG3 X00 V_u hk (by omega)) hZ (W 134 rfl) (W 39 rfl) (by decide) (by decide)) (g := (mkF m 4 #[.val (.ref t), .val (.int (0 : Int32)), .val (.ref u), .val (.int (0 : Int32)), .val (.int (0 : Int32)), .unset] [(.ref u), (.int (0 : Int32)), (.int (0 : Int32))])) rfl (by rw [hml]; rfl) (argsL := [(.int (0 : Int32)), (.int (0 : Int32)), (.ref u)]) (rest := []) (lenOf pdo_15 rfl) rfl (Nat.le_of_eq rfl) (hb hby (own_d D_ui0 3 rfl)) (fun _ _ => ⟨rfl, e0, (by decide : 0 + 0 ≤ _), (by decide : 0 + 0 ≤ _)⟩)
  dsimp only [Pt.U, Pt.locs, Pt.cells, Pt.slots] at X101 l101 y101 z101 st101 hQ101
  subst l101 y101 z101
  obtain ⟨rfl, Nq101, eq101⟩ := hQ101
  have N101 := Fr.app N0 Nq101
  have pq102 : own_go pP e below A0 (T101.setTop (mkF m 7 #[.val (.ref t), .val (.int (0 : Int32)), .val (.ref u), .val (.int (0 : Int32)), .val (.int (0 : Int32)), .unset] [])) := by
    intro τ κ
    refine pre0 τ ?_
    refine XS.iloadN X0.here hx rfl (hb hby (own_d D_ui0 0 rfl)) rfl ?_
    refine XS.iload X0.here hx rfl (hb hby (own_d D_ui0 1 rfl)) rfl ?_
    refine XS.aloadN X0.here hx rfl (hb hby (own_d D_ui0 2 rfl)) rfl rfl ?_
    refine st101 _ ?_
    exact κ
  obtain ⟨fs, hrE, hrun, hended, hW, hsame⟩ := X101.leave (v := none) (fun _ => rfl)
  have pqE := pq102
  rw [hA0] at pqE
  refine ⟨_, _, pqE _ ?_, hrun, hended, _, _, rfl, ?_, ⟨_, rfl⟩, hW, hsame.mono (by decide) (by decide)⟩
  · refine XS.iconst X101.here hx rfl (hb hby (own_d D_ui0 4 rfl)) ?_
    refine XS.istore X101.here hx rfl (hb hby (own_d D_ui0 5 rfl)) rfl (l' := #[.val (.ref t), .val (.int (0 : Int32)), .val (.ref u), .val (.int (0 : Int32)), .val (.int (0 : Int32)), .val (.int (0 : Int32))]) rfl ?_
    refine XS.iload X101.here hx rfl (hb hby (own_d D_ui0 6 rfl)) rfl ?_
    refine XS.iload X101.here hx rfl (hb hby (own_d D_ui0 7 rfl)) rfl ?_
    refine XS.icmpYes X101.here hx rfl (pc0 := 14) (pc' := 41) rfl (hb hby (own_d D_ui0 8 rfl)) rfl (flt (by decide : ¬ ((0 : Int32) < (0 : Int32)))).2.1 (by decide) (by decide) ?_
    show Steps pP.tables e below (T101.setTop (mkF m 41 #[.val (.ref t), .val (.int (0 : Int32)), .val (.ref u), .val (.int (0 : Int32)), .val (.int (0 : Int32)), .val (.int (0 : Int32))] [])) _
    exact X101.returnOut hx Bd.returns (hb hby (own_d D_ui0 9 rfl)) hrE
  · show Q_uco h0 n0 _ T101.heap _
    rw [eq101]
    exact ⟨rfl, N101, rfl⟩
theorem D_li0 : ∀ q ∈ ([(0, .aload_n 0, 1), (1, .iload_n 1, 1), (2, .aload_n 2, 1), (3, .iload_n 3, 1), (4, .iload 4, 2), (6, .invokestatic 240, 3), (9, .return_, 1)] : List (Nat × Instr × Nat)), decode jdk_43_method_50_code q.1 = .ok q.2 := by decide +kernel
theorem ef_rm_li0 (m : MethodId) (x0 : Addr) (x1 : Int32) (x2 : Addr) (x3 : Int32) (x4 : Int32) : entryFrame m #[(.ref x0), (.int x1), (.ref x2), (.int x3), (.int x4)] 5 = mkF m 0 #[.val (.ref x0), .val (.int x1), .val (.ref x2), .val (.int x3), .val (.int x4)] [] := by first | (simp [entryFrame, mkF, argsToLocals, Value.category]; done) | rfl
theorem rm_li0 (l : Launch) (Z : State) (a0 : Array Value) (hw : ∀ d ∈ tables_1, d.before a0 Z = true) (ws : List Jvm.Cond) (t : Addr) (u : Addr) (ku : ClassId) (k : Nat) (us : List Value) (G3 : Value) (h0 : Heap) (n0 : Nat) (Z0 : n0 ≤ h0.size) (O4 : Sta Z Z.heap "jdk/internal/util/Preconditions" "SIOOBE_FORMATTER" "Ljava/util/function/BiFunction;" G3) (rG3 : G3.isRef = true) (X00 : Old Z n0 h0) (V_u : Arv Z h0 u ku .byte (Int32.ofNat (2 * k)) us (.int 0)) (hk : k < 100) :
    MetFree l y_42 (head1 (Jvm.Cond.code y_42 jdk_43_method_50_code 5 none :: ws) r_26) (fun αs U => αs = #[(.ref t), (.int (0 : Int32)), (.ref u), (.int (0 : Int32)), (.int (0 : Int32))] ∧ Z.Warmed39 U.vm ∧ U.heap = h0) (fun _ _ _ _ _ => True) (fun _ Us oS Us' => ∃ vR LR, oS = .returned vR ∧ Q_uco h0 n0 vR Us'.heap LR ∧ FrameEnd Us oS Us' LR r_26.cells r_26.slots) := by
  refine MetFree.of_bodySF (plainFor_of_name pno_9) hisR ?_
  intro pP e s m args below meth cC s₁ Bd hml0 hP hK
  obtain ⟨rfl, hZ, hh⟩ := hP
  have hx := Bd.exec
  have W := own_W hw
  have hby := Bd.bytes
  have hml : cC.maxLocals = 5 := hml0
  have hown : s.vm.findClass "java/lang/StringLatin1" = some m.cls := findClass_of_methodNamed Bd.named
  have hnm := (name_of_methodNamed Bd.named Bd.method).1
  have X0 : Stand pP l e r_26 s m #[(.ref t), (.int (0 : Int32)), (.ref u), (.int (0 : Int32)), (.int (0 : Int32))] below meth cC s₁ [] 0 0 := Stand.of_body Bd
  have e0 : s₁.heap = h0 := by rw [← hh, Bd.state]; rfl
  have N0 := Fr.nil n0
  have KC0 : Keep h0 h0 [] := Keep.refl h0 _
  obtain ⟨A0, hA0⟩ : ∃ ζ, ζ = s₁.setTop (entryFrame m #[(.ref t), (.int (0 : Int32)), (.ref u), (.int (0 : Int32)), (.int (0 : Int32))] 5) := ⟨_, rfl⟩
  have pre0 : own_go pP e below A0 (s₁.setTop (mkF m 0 #[.val (.ref t), .val (.int (0 : Int32)), .val (.ref u), .val (.int (0 : Int32)), .val (.int (0 : Int32))] [])) := fun τ κ => by rw [hA0]; exact castTop (ef_rm_li0 m t (0 : Int32) u (0 : Int32) (0 : Int32)) κ
  obtain ⟨_, _, ⟨T101, L101, k101, n101⟩, -, X101, ⟨Lc101, hQ101, l101, y101, z101⟩, st101⟩ := Jvm.LawKit.callS X0 hx (y := y_41) hown (mvT hZ (W 228 rfl)) (mvT hZ (W 229 rfl)) (mvT hZ (W 39 rfl)) (mvT hZ (W 230 rfl)) (by decide) (backOf (W := 0) (rm_ui0 l Z a0 hw [] t u ku k us G3 h0 n0 Z0 O4 rG3 X00 V_u hk) hZ (W 230 rfl) (W 39 rfl) (by decide) (by decide)) (g := (mkF m 6 #[.val (.ref t), .val (.int (0 : Int32)), .val (.ref u), .val (.int (0 : Int32)), .val (.int (0 : Int32))] [(.int (0 : Int32)), (.int (0 : Int32)), (.ref u), (.int (0 : Int32)), (.ref t)])) rfl (by rw [hml]; rfl) (argsL := [(.ref t), (.int (0 : Int32)), (.ref u), (.int (0 : Int32)), (.int (0 : Int32))]) (rest := []) (lenOf pdo_26 rfl) rfl (Nat.le_of_eq rfl) (hb hby (own_d D_li0 5 rfl)) (fun _ _ => ⟨rfl, e0, (by decide : 0 + 0 ≤ _), (by decide : 0 + 0 ≤ _)⟩)
  dsimp only [Pt.U, Pt.locs, Pt.cells, Pt.slots] at X101 l101 y101 z101 st101 hQ101
  subst l101 y101 z101
  obtain ⟨rfl, Nq101, eq101⟩ := hQ101
  have N101 := Fr.app N0 Nq101
  have pq102 : own_go pP e below A0 (T101.setTop (mkF m 9 #[.val (.ref t), .val (.int (0 : Int32)), .val (.ref u), .val (.int (0 : Int32)), .val (.int (0 : Int32))] [])) := by
    intro τ κ
    refine pre0 τ ?_
    refine XS.aloadN X0.here hx rfl (hb hby (own_d D_li0 0 rfl)) rfl rfl ?_
    refine XS.iloadN X0.here hx rfl (hb hby (own_d D_li0 1 rfl)) rfl ?_
    refine XS.aloadN X0.here hx rfl (hb hby (own_d D_li0 2 rfl)) rfl rfl ?_
    refine XS.iloadN X0.here hx rfl (hb hby (own_d D_li0 3 rfl)) rfl ?_
    refine XS.iload X0.here hx rfl (hb hby (own_d D_li0 4 rfl)) rfl ?_
    refine st101 _ ?_
    exact κ
  obtain ⟨fs, hrE, hrun, hended, hW, hsame⟩ := X101.leave (v := none) (fun _ => rfl)
  have pqE := pq102
  rw [hA0] at pqE
  refine ⟨_, _, pqE _ ?_, hrun, hended, _, _, rfl, ?_, ⟨_, rfl⟩, hW, hsame.mono (by decide) (by decide)⟩
  · show Steps pP.tables e below (T101.setTop (mkF m 9 #[.val (.ref t), .val (.int (0 : Int32)), .val (.ref u), .val (.int (0 : Int32)), .val (.int (0 : Int32))] [])) _
    exact X101.returnOut hx Bd.returns (hb hby (own_d D_li0 6 rfl)) hrE
  · show Q_uco h0 n0 _ T101.heap _
    rw [eq101]
    exact ⟨rfl, N101, rfl⟩
def Q_l3 (Z : State) (u : Addr) (ku : ClassId) (us : List Value) (h0 : Heap) (n0 : Nat) (v : Option Value) (h : Heap) (L : List Loc) : Prop := v = none ∧ Fr n0 L ∧ Keep h0 h [u] ∧ Arv Z h u ku .byte (Int32.ofNat (2 * 82)) ((((((us.set (2 * 40) (.int (own_b (46 : Int32) 0))).set (2 * 40 + 1) (.int (own_b (46 : Int32) 8))).set (2 * 41) (.int (own_b (46 : Int32) 0))).set (2 * 41 + 1) (.int (own_b (46 : Int32) 8))).set (2 * 42) (.int (own_b (46 : Int32) 0))).set (2 * 42 + 1) (.int (own_b (46 : Int32) 8))) (.int 0)
theorem D_ui3 : ∀ q ∈ ([(0, .iload_n 3, 1), (1, .iload 4, 2), (3, .aload_n 2, 1), (4, .invokestatic 173, 3), (7, .iconst 0, 1), (8, .istore 5, 2), (10, .iload 5, 2), (12, .iload 4, 2), (14, .if_icmp .ge 27, 3), (17, .aload_n 2, 1), (18, .iload_n 3, 1), (19, .iinc 3 1, 3), (22, .aload_n 0, 1), (23, .iload_n 1, 1), (24, .iinc 1 1, 3), (27, .baload, 1), (28, .sipush 255, 3), (31, .iand, 1), (32, .invokestatic 111, 3), (35, .iinc 5 1, 3), (38, .goto (-28), 3), (41, .return_, 1)] : List (Nat × Instr × Nat)), decode jdk_52_method_86_code q.1 = .ok q.2 := by decide +kernel
theorem ef_rm_ui3 (m : MethodId) (x0 : Addr) (x1 : Int32) (x2 : Addr) (x3 : Int32) (x4 : Int32) : entryFrame m #[(.ref x0), (.int x1), (.ref x2), (.int x3), (.int x4)] 6 = mkF m 0 #[.val (.ref x0), .val (.int x1), .val (.ref x2), .val (.int x3), .val (.int x4), .unset] [] := by first | (simp [entryFrame, mkF, argsToLocals, Value.category]; done) | rfl
theorem rm_ui3 (l : Launch) (Z : State) (a0 : Array Value) (hw : ∀ d ∈ tables_1, d.before a0 Z = true) (ws : List Jvm.Cond) (t u : Addr) (kb ku : ClassId) (us : List Value) (G3 : Value) (h0 : Heap) (n0 : Nat) (Z0 : n0 ≤ h0.size) (O4 : Sta Z Z.heap "jdk/internal/util/Preconditions" "SIOOBE_FORMATTER" "Ljava/util/function/BiFunction;" G3) (rG3 : G3.isRef = true) (OA : Sta Z Z.heap "java/lang/StringUTF16" "$assertionsDisabled" "Z" (.int 1)) (OH : Sta Z Z.heap "java/lang/StringUTF16" "HI_BYTE_SHIFT" "I" (.int 0)) (OL : Sta Z Z.heap "java/lang/StringUTF16" "LO_BYTE_SHIFT" "I" (.int 8)) (X00 : Old Z n0 h0) (V_t : Arv Z h0 t kb .byte (3 : Int32) [(.int (46 : Int32)), (.int (46 : Int32)), (.int (46 : Int32))] (.int 0)) (V_u : Arv Z h0 u ku .byte (Int32.ofNat (2 * 82)) us (.int 0)) (gu : n0 ≤ u) (htu : t ≠ u) (hv : 2 * 82 ≤ us.length) :
    MetFree l y_41 (head1 (Jvm.Cond.code y_41 jdk_52_method_86_code 6 none :: ws) r_15) (fun αs U => αs = #[(.ref t), (.int (0 : Int32)), (.ref u), (.int (40 : Int32)), (.int (3 : Int32))] ∧ Z.Warmed39 U.vm ∧ U.heap = h0) (fun _ _ _ _ _ => True) (fun _ Us oS Us' => ∃ vR LR, oS = .returned vR ∧ Q_l3 Z u ku us h0 n0 vR Us'.heap LR ∧ FrameEnd Us oS Us' LR r_15.cells r_15.slots) := by
  refine MetFree.of_bodySF (plainFor_of_name pno_2) hisR ?_
  intro pP e s m args below meth cC s₁ Bd hml0 hP hK
  obtain ⟨rfl, hZ, hh⟩ := hP
  have hx := Bd.exec
  have W := own_W hw
  have hby := Bd.bytes
  have hml : cC.maxLocals = 6 := hml0
  have hown : s.vm.findClass "java/lang/StringUTF16" = some m.cls := findClass_of_methodNamed Bd.named
  have hnm := (name_of_methodNamed Bd.named Bd.method).1
  have X0 : Stand pP l e r_15 s m #[(.ref t), (.int (0 : Int32)), (.ref u), (.int (40 : Int32)), (.int (3 : Int32))] below meth cC s₁ [] 0 0 := Stand.of_body Bd
  have e0 : s₁.heap = h0 := by rw [← hh, Bd.state]; rfl
  have N0 := Fr.nil n0
  have KC0 : Keep h0 h0 [u] := Keep.refl h0 _
  obtain ⟨A0, hA0⟩ : ∃ ζ, ζ = s₁.setTop (entryFrame m #[(.ref t), (.int (0 : Int32)), (.ref u), (.int (40 : Int32)), (.int (3 : Int32))] 6) := ⟨_, rfl⟩
  have pre0 : own_go pP e below A0 (s₁.setTop (mkF m 0 #[.val (.ref t), .val (.int (0 : Int32)), .val (.ref u), .val (.int (40 : Int32)), .val (.int (3 : Int32)), .unset] [])) := fun τ κ => by rw [hA0]; exact castTop (ef_rm_ui3 m t (0 : Int32) u (40 : Int32) (3 : Int32)) κ
  obtain ⟨_, _, ⟨T101, L101, k101, n101⟩, -, X101, ⟨Lc101, hQ101, l101, y101, z101⟩, st101⟩ := Jvm.LawKit.callS X0 hx (y := y_23) hown (mvT hZ (W 132 rfl)) (mvT hZ (W 133 rfl)) (mvT hZ (W 39 rfl)) (mvT hZ (W 134 rfl)) (by decide) (backOf (W := 0) (rm_uco l Z a0 hw [] 40 3 u ku 82 us G3 h0 n0 Z0 O4 rG3 X00 V_u (by decide) (by decide)) hZ (W 134 rfl) (W 39 rfl) (by decide) (by decide)) (g := (mkF m 4 #[.val (.ref t), .val (.int (0 : Int32)), .val (.ref u), .val (.int (40 : Int32)), .val (.int (3 : Int32)), .unset] [(.ref u), (.int (3 : Int32)), (.int (40 : Int32))])) rfl (by rw [hml]; rfl) (argsL := [(.int (40 : Int32)), (.int (3 : Int32)), (.ref u)]) (rest := []) (lenOf pdo_15 rfl) rfl (Nat.le_of_eq rfl) (hb hby (own_d D_ui3 3 rfl)) (fun _ _ => ⟨rfl, e0, (by decide : 0 + 0 ≤ _), (by decide : 0 + 0 ≤ _)⟩)
  dsimp only [Pt.U, Pt.locs, Pt.cells, Pt.slots] at X101 l101 y101 z101 st101 hQ101
  subst l101 y101 z101
  obtain ⟨rfl, Nq101, eq101⟩ := hQ101
  have N101 := Fr.app N0 Nq101
  have pq102 : own_go pP e below A0 (T101.setTop (mkF m 7 #[.val (.ref t), .val (.int (0 : Int32)), .val (.ref u), .val (.int (40 : Int32)), .val (.int (3 : Int32)), .unset] [])) := by
    intro τ κ
    refine pre0 τ ?_
    refine XS.iloadN X0.here hx rfl (hb hby (own_d D_ui3 0 rfl)) rfl ?_
    refine XS.iload X0.here hx rfl (hb hby (own_d D_ui3 1 rfl)) rfl ?_
    refine XS.aloadN X0.here hx rfl (hb hby (own_d D_ui3 2 rfl)) rfl rfl ?_
    refine st101 _ ?_
    exact κ
  obtain ⟨cl103, Ar103, q103, S103, M103, Hs103, G103⟩ := id V_t
  have hin103 := inb_of (j := (0 : Int32)) S103 ⟨by decide, by decide⟩
  have pq104 : own_go pP e below A0 (T101.setTop (mkF m 32 #[.val (.ref t), .val (.int (1 : Int32)), .val (.ref u), .val (.int (41 : Int32)), .val (.int (3 : Int32)), .val (.int (0 : Int32))] [(.int ((46 : Int32) &&& (255 : Int32))), (.int (40 : Int32)), (.ref u)])) := by
    intro τ κ
    refine pq102 τ ?_
    refine XS.iconst X101.here hx rfl (hb hby (own_d D_ui3 4 rfl)) ?_
    refine XS.istore X101.here hx rfl (hb hby (own_d D_ui3 5 rfl)) rfl (l' := #[.val (.ref t), .val (.int (0 : Int32)), .val (.ref u), .val (.int (40 : Int32)), .val (.int (3 : Int32)), .val (.int (0 : Int32))]) rfl ?_
    refine XS.iload X101.here hx rfl (hb hby (own_d D_ui3 6 rfl)) rfl ?_
    refine XS.iload X101.here hx rfl (hb hby (own_d D_ui3 7 rfl)) rfl ?_
    refine XS.icmpNo X101.here hx rfl (hb hby (own_d D_ui3 8 rfl)) rfl (tlt (by decide : ((0 : Int32) < (3 : Int32)))).2.1 ?_
    refine XS.aloadN X101.here hx rfl (hb hby (own_d D_ui3 9 rfl)) rfl rfl ?_
    refine XS.iloadN X101.here hx rfl (hb hby (own_d D_ui3 10 rfl)) rfl ?_
    refine XS.iinc X101.here hx rfl (hb hby (own_d D_ui3 11 rfl)) rfl (l' := #[.val (.ref t), .val (.int (0 : Int32)), .val (.ref u), .val (.int (41 : Int32)), .val (.int (3 : Int32)), .val (.int (0 : Int32))]) rfl ?_
    refine XS.aloadN X101.here hx rfl (hb hby (own_d D_ui3 12 rfl)) rfl rfl ?_
    refine XS.iloadN X101.here hx rfl (hb hby (own_d D_ui3 13 rfl)) rfl ?_
    refine XS.iinc X101.here hx rfl (hb hby (own_d D_ui3 14 rfl)) rfl (l' := #[.val (.ref t), .val (.int (1 : Int32)), .val (.ref u), .val (.int (41 : Int32)), .val (.int (3 : Int32)), .val (.int (0 : Int32))]) rfl ?_
    refine X101.baloadBytes hx (j := (0 : Int32)) (v := (.int (46 : Int32))) (by rw [eq101]; exact Ar103.1) (State.isArrayOf_alike hZ.alike Ar103.2.1) Ar103.2.2 hin103 (Has.at Hs103 hin103 rfl) (g := (mkF m 27 #[.val (.ref t), .val (.int (1 : Int32)), .val (.ref u), .val (.int (41 : Int32)), .val (.int (3 : Int32)), .val (.int (0 : Int32))] [(.int (0 : Int32)), (.ref t), (.int (40 : Int32)), (.ref u)])) rfl rfl (hb hby (own_d D_ui3 15 rfl)) _ ?_
    refine XS.sipush X101.here hx rfl (hb hby (own_d D_ui3 16 rfl)) ?_
    refine XS.iand X101.here hx rfl (hb hby (own_d D_ui3 17 rfl)) rfl ?_
    exact κ
  have pq105 : own_go pP e below A0 (T101.setTop (mkF m 32 #[.val (.ref t), .val (.int (1 : Int32)), .val (.ref u), .val (.int (41 : Int32)), .val (.int (3 : Int32)), .val (.int (0 : Int32))] [(.int (46 : Int32)), (.int (40 : Int32)), (.ref u)])) := by intro τ κ; refine pq104 τ ?_; rw [show ((46 : Int32) &&& (255 : Int32)) = (46 : Int32) from (by decide)]; exact κ
  obtain ⟨_, _, ⟨T106, L106, k106, n106⟩, -, X106, ⟨Lc106, hQ106, l106, y106, z106⟩, st106⟩ := Jvm.LawKit.callS X101 hx (y := y_12) hown (mvT hZ (W 54 rfl)) (mvT hZ (W 55 rfl)) (mvT hZ (W 39 rfl)) (mvT hZ (W 56 rfl)) (by decide) (backOf (W := 0) (rm_upc l Z a0 hw [] u ku 82 40 us (46 : Int32) h0 n0 Z0 OA OH OL X00 V_u gu (by decide) (by decide) (by first | exact hv | (simp only [List.length_set]; exact hv))) hZ (W 56 rfl) (W 39 rfl) (by decide) (by decide)) (g := (mkF m 32 #[.val (.ref t), .val (.int (1 : Int32)), .val (.ref u), .val (.int (41 : Int32)), .val (.int (3 : Int32)), .val (.int (0 : Int32))] [(.int (46 : Int32)), (.int (40 : Int32)), (.ref u)])) rfl (by rw [hml]; rfl) (argsL := [(.ref u), (.int (40 : Int32)), (.int (46 : Int32))]) (rest := []) (lenOf pdo_5 rfl) rfl (Nat.le_of_eq rfl) (hb hby (own_d D_ui3 18 rfl)) (fun _ _ => ⟨rfl, eq101, (by decide : 0 + 0 ≤ _), (by decide : 0 + 0 ≤ _)⟩)
  dsimp only [Pt.U, Pt.locs, Pt.cells, Pt.slots] at X106 l106 y106 z106 st106 hQ106
  subst l106 y106 z106
  obtain ⟨rfl, Nq106, K106, V106⟩ := hQ106
  have N106 := Fr.app N101 Nq106
  have pq107 : own_go pP e below A0 (T106.setTop (mkF m 35 #[.val (.ref t), .val (.int (1 : Int32)), .val (.ref u), .val (.int (41 : Int32)), .val (.int (3 : Int32)), .val (.int (0 : Int32))] [])) := by
    intro τ κ
    refine pq105 τ ?_
    refine st106 _ ?_
    exact κ
  have KC106 := KC0.trans K106 (allS (Or.inl (List.mem_of_getElem? (i := 0) rfl)) all0)
  have f108 := (V_t.keep K106 (ninS htu nin0))
  obtain ⟨cl109, Ar109, q109, S109, M109, Hs109, G109⟩ := id f108
  have hin109 := inb_of (j := (1 : Int32)) S109 ⟨by decide, by decide⟩
  have pq110 : own_go pP e below A0 (T106.setTop (mkF m 32 #[.val (.ref t), .val (.int (2 : Int32)), .val (.ref u), .val (.int (42 : Int32)), .val (.int (3 : Int32)), .val (.int (1 : Int32))] [(.int ((46 : Int32) &&& (255 : Int32))), (.int (41 : Int32)), (.ref u)])) := by
    intro τ κ
    refine pq107 τ ?_
    refine XS.iinc X106.here hx rfl (hb hby (own_d D_ui3 19 rfl)) rfl (l' := #[.val (.ref t), .val (.int (1 : Int32)), .val (.ref u), .val (.int (41 : Int32)), .val (.int (3 : Int32)), .val (.int (1 : Int32))]) rfl ?_
    refine XS.goto X106.here hx rfl (pc0 := 38) (pc' := 10) rfl (hb hby (own_d D_ui3 20 rfl)) (by decide) (by decide) ?_
    refine XS.iload X106.here hx rfl (hb hby (own_d D_ui3 6 rfl)) rfl ?_
    refine XS.iload X106.here hx rfl (hb hby (own_d D_ui3 7 rfl)) rfl ?_
    refine XS.icmpNo X106.here hx rfl (hb hby (own_d D_ui3 8 rfl)) rfl (tlt (by decide : ((1 : Int32) < (3 : Int32)))).2.1 ?_
    refine XS.aloadN X106.here hx rfl (hb hby (own_d D_ui3 9 rfl)) rfl rfl ?_
    refine XS.iloadN X106.here hx rfl (hb hby (own_d D_ui3 10 rfl)) rfl ?_
    refine XS.iinc X106.here hx rfl (hb hby (own_d D_ui3 11 rfl)) rfl (l' := #[.val (.ref t), .val (.int (1 : Int32)), .val (.ref u), .val (.int (42 : Int32)), .val (.int (3 : Int32)), .val (.int (1 : Int32))]) rfl ?_
    refine XS.aloadN X106.here hx rfl (hb hby (own_d D_ui3 12 rfl)) rfl rfl ?_
    refine XS.iloadN X106.here hx rfl (hb hby (own_d D_ui3 13 rfl)) rfl ?_
    refine XS.iinc X106.here hx rfl (hb hby (own_d D_ui3 14 rfl)) rfl (l' := #[.val (.ref t), .val (.int (2 : Int32)), .val (.ref u), .val (.int (42 : Int32)), .val (.int (3 : Int32)), .val (.int (1 : Int32))]) rfl ?_
    refine X106.baloadBytes hx (j := (1 : Int32)) (v := (.int (46 : Int32))) Ar109.1 (State.isArrayOf_alike hZ.alike Ar109.2.1) Ar109.2.2 hin109 (Has.at Hs109 hin109 rfl) (g := (mkF m 27 #[.val (.ref t), .val (.int (2 : Int32)), .val (.ref u), .val (.int (42 : Int32)), .val (.int (3 : Int32)), .val (.int (1 : Int32))] [(.int (1 : Int32)), (.ref t), (.int (41 : Int32)), (.ref u)])) rfl rfl (hb hby (own_d D_ui3 15 rfl)) _ ?_
    refine XS.sipush X106.here hx rfl (hb hby (own_d D_ui3 16 rfl)) ?_
    refine XS.iand X106.here hx rfl (hb hby (own_d D_ui3 17 rfl)) rfl ?_
    exact κ
  have pq111 : own_go pP e below A0 (T106.setTop (mkF m 32 #[.val (.ref t), .val (.int (2 : Int32)), .val (.ref u), .val (.int (42 : Int32)), .val (.int (3 : Int32)), .val (.int (1 : Int32))] [(.int (46 : Int32)), (.int (41 : Int32)), (.ref u)])) := by intro τ κ; refine pq110 τ ?_; rw [show ((46 : Int32) &&& (255 : Int32)) = (46 : Int32) from (by decide)]; exact κ
  have f112 := (X00.keep K106 (allS gu all0))
  have f113 := (Nat.le_trans Z0 K106.1)
  obtain ⟨_, _, ⟨T114, L114, k114, n114⟩, -, X114, ⟨Lc114, hQ114, l114, y114, z114⟩, st114⟩ := Jvm.LawKit.callS X106 hx (y := y_12) hown (mvT hZ (W 54 rfl)) (mvT hZ (W 55 rfl)) (mvT hZ (W 39 rfl)) (mvT hZ (W 56 rfl)) (by decide) (backOf (W := 0) (rm_upc l Z a0 hw [] u ku 82 41 ((us.set (2 * 40) (.int (own_b (46 : Int32) 0))).set (2 * 40 + 1) (.int (own_b (46 : Int32) 8))) (46 : Int32) T106.heap n0 f113 OA OH OL f112 V106 gu (by decide) (by decide) (by first | exact hv | (simp only [List.length_set]; exact hv))) hZ (W 56 rfl) (W 39 rfl) (by decide) (by decide)) (g := (mkF m 32 #[.val (.ref t), .val (.int (2 : Int32)), .val (.ref u), .val (.int (42 : Int32)), .val (.int (3 : Int32)), .val (.int (1 : Int32))] [(.int (46 : Int32)), (.int (41 : Int32)), (.ref u)])) rfl (by rw [hml]; rfl) (argsL := [(.ref u), (.int (41 : Int32)), (.int (46 : Int32))]) (rest := []) (lenOf pdo_5 rfl) rfl (Nat.le_of_eq rfl) (hb hby (own_d D_ui3 18 rfl)) (fun _ _ => ⟨rfl, rfl, (by decide : 0 + 0 ≤ _), (by decide : 0 + 0 ≤ _)⟩)
  dsimp only [Pt.U, Pt.locs, Pt.cells, Pt.slots] at X114 l114 y114 z114 st114 hQ114
  subst l114 y114 z114
  obtain ⟨rfl, Nq114, K114, V114⟩ := hQ114
  have N114 := Fr.app N106 Nq114
  have pq115 : own_go pP e below A0 (T114.setTop (mkF m 35 #[.val (.ref t), .val (.int (2 : Int32)), .val (.ref u), .val (.int (42 : Int32)), .val (.int (3 : Int32)), .val (.int (1 : Int32))] [])) := by
    intro τ κ
    refine pq111 τ ?_
    refine st114 _ ?_
    exact κ
  have KC114 := KC106.trans K114 (allS (Or.inl (List.mem_of_getElem? (i := 0) rfl)) all0)
  have f116 := (f108.keep K114 (ninS htu nin0))
  obtain ⟨cl117, Ar117, q117, S117, M117, Hs117, G117⟩ := id f116
  have hin117 := inb_of (j := (2 : Int32)) S117 ⟨by decide, by decide⟩
  have pq118 : own_go pP e below A0 (T114.setTop (mkF m 32 #[.val (.ref t), .val (.int (3 : Int32)), .val (.ref u), .val (.int (43 : Int32)), .val (.int (3 : Int32)), .val (.int (2 : Int32))] [(.int ((46 : Int32) &&& (255 : Int32))), (.int (42 : Int32)), (.ref u)])) := by
    intro τ κ
    refine pq115 τ ?_
    refine XS.iinc X114.here hx rfl (hb hby (own_d D_ui3 19 rfl)) rfl (l' := #[.val (.ref t), .val (.int (2 : Int32)), .val (.ref u), .val (.int (42 : Int32)), .val (.int (3 : Int32)), .val (.int (2 : Int32))]) rfl ?_
    refine XS.goto X114.here hx rfl (pc0 := 38) (pc' := 10) rfl (hb hby (own_d D_ui3 20 rfl)) (by decide) (by decide) ?_
    refine XS.iload X114.here hx rfl (hb hby (own_d D_ui3 6 rfl)) rfl ?_
    refine XS.iload X114.here hx rfl (hb hby (own_d D_ui3 7 rfl)) rfl ?_
    refine XS.icmpNo X114.here hx rfl (hb hby (own_d D_ui3 8 rfl)) rfl (tlt (by decide : ((2 : Int32) < (3 : Int32)))).2.1 ?_
    refine XS.aloadN X114.here hx rfl (hb hby (own_d D_ui3 9 rfl)) rfl rfl ?_
    refine XS.iloadN X114.here hx rfl (hb hby (own_d D_ui3 10 rfl)) rfl ?_
    refine XS.iinc X114.here hx rfl (hb hby (own_d D_ui3 11 rfl)) rfl (l' := #[.val (.ref t), .val (.int (2 : Int32)), .val (.ref u), .val (.int (43 : Int32)), .val (.int (3 : Int32)), .val (.int (2 : Int32))]) rfl ?_
    refine XS.aloadN X114.here hx rfl (hb hby (own_d D_ui3 12 rfl)) rfl rfl ?_
    refine XS.iloadN X114.here hx rfl (hb hby (own_d D_ui3 13 rfl)) rfl ?_
    refine XS.iinc X114.here hx rfl (hb hby (own_d D_ui3 14 rfl)) rfl (l' := #[.val (.ref t), .val (.int (3 : Int32)), .val (.ref u), .val (.int (43 : Int32)), .val (.int (3 : Int32)), .val (.int (2 : Int32))]) rfl ?_
    refine X114.baloadBytes hx (j := (2 : Int32)) (v := (.int (46 : Int32))) Ar117.1 (State.isArrayOf_alike hZ.alike Ar117.2.1) Ar117.2.2 hin117 (Has.at Hs117 hin117 rfl) (g := (mkF m 27 #[.val (.ref t), .val (.int (3 : Int32)), .val (.ref u), .val (.int (43 : Int32)), .val (.int (3 : Int32)), .val (.int (2 : Int32))] [(.int (2 : Int32)), (.ref t), (.int (42 : Int32)), (.ref u)])) rfl rfl (hb hby (own_d D_ui3 15 rfl)) _ ?_
    refine XS.sipush X114.here hx rfl (hb hby (own_d D_ui3 16 rfl)) ?_
    refine XS.iand X114.here hx rfl (hb hby (own_d D_ui3 17 rfl)) rfl ?_
    exact κ
  have pq119 : own_go pP e below A0 (T114.setTop (mkF m 32 #[.val (.ref t), .val (.int (3 : Int32)), .val (.ref u), .val (.int (43 : Int32)), .val (.int (3 : Int32)), .val (.int (2 : Int32))] [(.int (46 : Int32)), (.int (42 : Int32)), (.ref u)])) := by intro τ κ; refine pq118 τ ?_; rw [show ((46 : Int32) &&& (255 : Int32)) = (46 : Int32) from (by decide)]; exact κ
  have f120 := (f112.keep K114 (allS gu all0))
  have f121 := (Nat.le_trans f113 K114.1)
  obtain ⟨_, _, ⟨T122, L122, k122, n122⟩, -, X122, ⟨Lc122, hQ122, l122, y122, z122⟩, st122⟩ := Jvm.LawKit.callS X114 hx (y := y_12) hown (mvT hZ (W 54 rfl)) (mvT hZ (W 55 rfl)) (mvT hZ (W 39 rfl)) (mvT hZ (W 56 rfl)) (by decide) (backOf (W := 0) (rm_upc l Z a0 hw [] u ku 82 42 ((((us.set (2 * 40) (.int (own_b (46 : Int32) 0))).set (2 * 40 + 1) (.int (own_b (46 : Int32) 8))).set (2 * 41) (.int (own_b (46 : Int32) 0))).set (2 * 41 + 1) (.int (own_b (46 : Int32) 8))) (46 : Int32) T114.heap n0 f121 OA OH OL f120 V114 gu (by decide) (by decide) (by first | exact hv | (simp only [List.length_set]; exact hv))) hZ (W 56 rfl) (W 39 rfl) (by decide) (by decide)) (g := (mkF m 32 #[.val (.ref t), .val (.int (3 : Int32)), .val (.ref u), .val (.int (43 : Int32)), .val (.int (3 : Int32)), .val (.int (2 : Int32))] [(.int (46 : Int32)), (.int (42 : Int32)), (.ref u)])) rfl (by rw [hml]; rfl) (argsL := [(.ref u), (.int (42 : Int32)), (.int (46 : Int32))]) (rest := []) (lenOf pdo_5 rfl) rfl (Nat.le_of_eq rfl) (hb hby (own_d D_ui3 18 rfl)) (fun _ _ => ⟨rfl, rfl, (by decide : 0 + 0 ≤ _), (by decide : 0 + 0 ≤ _)⟩)
  dsimp only [Pt.U, Pt.locs, Pt.cells, Pt.slots] at X122 l122 y122 z122 st122 hQ122
  subst l122 y122 z122
  obtain ⟨rfl, Nq122, K122, V122⟩ := hQ122
  have N122 := Fr.app N114 Nq122
  have pq123 : own_go pP e below A0 (T122.setTop (mkF m 35 #[.val (.ref t), .val (.int (3 : Int32)), .val (.ref u), .val (.int (43 : Int32)), .val (.int (3 : Int32)), .val (.int (2 : Int32))] [])) := by
    intro τ κ
    refine pq119 τ ?_
    refine st122 _ ?_
    exact κ
  have KC122 := KC114.trans K122 (allS (Or.inl (List.mem_of_getElem? (i := 0) rfl)) all0)
  obtain ⟨fs, hrE, hrun, hended, hW, hsame⟩ := X122.leave (v := none) (fun _ => rfl)
  have pqE := pq123
  rw [hA0] at pqE
  refine ⟨_, _, pqE _ ?_, hrun, hended, _, _, rfl, ?_, ⟨_, rfl⟩, hW, hsame.mono (by decide) (by decide)⟩
  · refine XS.iinc X122.here hx rfl (hb hby (own_d D_ui3 19 rfl)) rfl (l' := #[.val (.ref t), .val (.int (3 : Int32)), .val (.ref u), .val (.int (43 : Int32)), .val (.int (3 : Int32)), .val (.int (3 : Int32))]) rfl ?_
    refine XS.goto X122.here hx rfl (pc0 := 38) (pc' := 10) rfl (hb hby (own_d D_ui3 20 rfl)) (by decide) (by decide) ?_
    refine XS.iload X122.here hx rfl (hb hby (own_d D_ui3 6 rfl)) rfl ?_
    refine XS.iload X122.here hx rfl (hb hby (own_d D_ui3 7 rfl)) rfl ?_
    refine XS.icmpYes X122.here hx rfl (pc0 := 14) (pc' := 41) rfl (hb hby (own_d D_ui3 8 rfl)) rfl (flt (by decide : ¬ ((3 : Int32) < (3 : Int32)))).2.1 (by decide) (by decide) ?_
    show Steps pP.tables e below (T122.setTop (mkF m 41 #[.val (.ref t), .val (.int (3 : Int32)), .val (.ref u), .val (.int (43 : Int32)), .val (.int (3 : Int32)), .val (.int (3 : Int32))] [])) _
    exact X122.returnOut hx Bd.returns (hb hby (own_d D_ui3 21 rfl)) hrE
  · show Q_l3 Z u ku us h0 n0 _ T122.heap _
    exact ⟨rfl, N122, KC122, V122⟩
theorem D_li3 : ∀ q ∈ ([(0, .aload_n 0, 1), (1, .iload_n 1, 1), (2, .aload_n 2, 1), (3, .iload_n 3, 1), (4, .iload 4, 2), (6, .invokestatic 240, 3), (9, .return_, 1)] : List (Nat × Instr × Nat)), decode jdk_43_method_50_code q.1 = .ok q.2 := by decide +kernel
theorem ef_rm_li3 (m : MethodId) (x0 : Addr) (x1 : Int32) (x2 : Addr) (x3 : Int32) (x4 : Int32) : entryFrame m #[(.ref x0), (.int x1), (.ref x2), (.int x3), (.int x4)] 5 = mkF m 0 #[.val (.ref x0), .val (.int x1), .val (.ref x2), .val (.int x3), .val (.int x4)] [] := by first | (simp [entryFrame, mkF, argsToLocals, Value.category]; done) | rfl
theorem rm_li3 (l : Launch) (Z : State) (a0 : Array Value) (hw : ∀ d ∈ tables_1, d.before a0 Z = true) (ws : List Jvm.Cond) (t u : Addr) (kb ku : ClassId) (us : List Value) (G3 : Value) (h0 : Heap) (n0 : Nat) (Z0 : n0 ≤ h0.size) (O4 : Sta Z Z.heap "jdk/internal/util/Preconditions" "SIOOBE_FORMATTER" "Ljava/util/function/BiFunction;" G3) (rG3 : G3.isRef = true) (OA : Sta Z Z.heap "java/lang/StringUTF16" "$assertionsDisabled" "Z" (.int 1)) (OH : Sta Z Z.heap "java/lang/StringUTF16" "HI_BYTE_SHIFT" "I" (.int 0)) (OL : Sta Z Z.heap "java/lang/StringUTF16" "LO_BYTE_SHIFT" "I" (.int 8)) (X00 : Old Z n0 h0) (V_t : Arv Z h0 t kb .byte (3 : Int32) [(.int (46 : Int32)), (.int (46 : Int32)), (.int (46 : Int32))] (.int 0)) (V_u : Arv Z h0 u ku .byte (Int32.ofNat (2 * 82)) us (.int 0)) (gu : n0 ≤ u) (htu : t ≠ u) (hv : 2 * 82 ≤ us.length) :
    MetFree l y_42 (head1 (Jvm.Cond.code y_42 jdk_43_method_50_code 5 none :: ws) r_26) (fun αs U => αs = #[(.ref t), (.int (0 : Int32)), (.ref u), (.int (40 : Int32)), (.int (3 : Int32))] ∧ Z.Warmed39 U.vm ∧ U.heap = h0) (fun _ _ _ _ _ => True) (fun _ Us oS Us' => ∃ vR LR, oS = .returned vR ∧ Q_l3 Z u ku us h0 n0 vR Us'.heap LR ∧ FrameEnd Us oS Us' LR r_26.cells r_26.slots) := by
  refine MetFree.of_bodySF (plainFor_of_name pno_9) hisR ?_
  intro pP e s m args below meth cC s₁ Bd hml0 hP hK
  obtain ⟨rfl, hZ, hh⟩ := hP
  have hx := Bd.exec
  have W := own_W hw
  have hby := Bd.bytes
  have hml : cC.maxLocals = 5 := hml0
  have hown : s.vm.findClass "java/lang/StringLatin1" = some m.cls := findClass_of_methodNamed Bd.named
  have hnm := (name_of_methodNamed Bd.named Bd.method).1
  have X0 : Stand pP l e r_26 s m #[(.ref t), (.int (0 : Int32)), (.ref u), (.int (40 : Int32)), (.int (3 : Int32))] below meth cC s₁ [] 0 0 := Stand.of_body Bd
  have e0 : s₁.heap = h0 := by rw [← hh, Bd.state]; rfl
  have N0 := Fr.nil n0
  have KC0 : Keep h0 h0 [u] := Keep.refl h0 _
  obtain ⟨A0, hA0⟩ : ∃ ζ, ζ = s₁.setTop (entryFrame m #[(.ref t), (.int (0 : Int32)), (.ref u), (.int (40 : Int32)), (.int (3 : Int32))] 5) := ⟨_, rfl⟩
  have pre0 : own_go pP e below A0 (s₁.setTop (mkF m 0 #[.val (.ref t), .val (.int (0 : Int32)), .val (.ref u), .val (.int (40 : Int32)), .val (.int (3 : Int32))] [])) := fun τ κ => by rw [hA0]; exact castTop (ef_rm_li3 m t (0 : Int32) u (40 : Int32) (3 : Int32)) κ
  obtain ⟨_, _, ⟨T101, L101, k101, n101⟩, -, X101, ⟨Lc101, hQ101, l101, y101, z101⟩, st101⟩ := Jvm.LawKit.callS X0 hx (y := y_41) hown (mvT hZ (W 228 rfl)) (mvT hZ (W 229 rfl)) (mvT hZ (W 39 rfl)) (mvT hZ (W 230 rfl)) (by decide) (backOf (W := 0) (rm_ui3 l Z a0 hw [] t u kb ku us G3 h0 n0 Z0 O4 rG3 OA OH OL X00 V_t V_u gu htu hv) hZ (W 230 rfl) (W 39 rfl) (by decide) (by decide)) (g := (mkF m 6 #[.val (.ref t), .val (.int (0 : Int32)), .val (.ref u), .val (.int (40 : Int32)), .val (.int (3 : Int32))] [(.int (3 : Int32)), (.int (40 : Int32)), (.ref u), (.int (0 : Int32)), (.ref t)])) rfl (by rw [hml]; rfl) (argsL := [(.ref t), (.int (0 : Int32)), (.ref u), (.int (40 : Int32)), (.int (3 : Int32))]) (rest := []) (lenOf pdo_26 rfl) rfl (Nat.le_of_eq rfl) (hb hby (own_d D_li3 5 rfl)) (fun _ _ => ⟨rfl, e0, (by decide : 0 + 0 ≤ _), (by decide : 0 + 0 ≤ _)⟩)
  dsimp only [Pt.U, Pt.locs, Pt.cells, Pt.slots] at X101 l101 y101 z101 st101 hQ101
  subst l101 y101 z101
  obtain ⟨rfl, Nq101, K101, V101⟩ := hQ101
  have N101 := Fr.app N0 Nq101
  have pq102 : own_go pP e below A0 (T101.setTop (mkF m 9 #[.val (.ref t), .val (.int (0 : Int32)), .val (.ref u), .val (.int (40 : Int32)), .val (.int (3 : Int32))] [])) := by
    intro τ κ
    refine pre0 τ ?_
    refine XS.aloadN X0.here hx rfl (hb hby (own_d D_li3 0 rfl)) rfl rfl ?_
    refine XS.iloadN X0.here hx rfl (hb hby (own_d D_li3 1 rfl)) rfl ?_
    refine XS.aloadN X0.here hx rfl (hb hby (own_d D_li3 2 rfl)) rfl rfl ?_
    refine XS.iloadN X0.here hx rfl (hb hby (own_d D_li3 3 rfl)) rfl ?_
    refine XS.iload X0.here hx rfl (hb hby (own_d D_li3 4 rfl)) rfl ?_
    refine st101 _ ?_
    exact κ
  have KC101 := KC0.trans K101 (allS (Or.inl (List.mem_of_getElem? (i := 0) rfl)) all0)
  obtain ⟨fs, hrE, hrun, hended, hW, hsame⟩ := X101.leave (v := none) (fun _ => rfl)
  have pqE := pq102
  rw [hA0] at pqE
  refine ⟨_, _, pqE _ ?_, hrun, hended, _, _, rfl, ?_, ⟨_, rfl⟩, hW, hsame.mono (by decide) (by decide)⟩
  · show Steps pP.tables e below (T101.setTop (mkF m 9 #[.val (.ref t), .val (.int (0 : Int32)), .val (.ref u), .val (.int (40 : Int32)), .val (.int (3 : Int32))] [])) _
    exact X101.returnOut hx Bd.returns (hb hby (own_d D_li3 6 rfl)) hrE
  · show Q_l3 Z u ku us h0 n0 _ T101.heap _
    exact ⟨rfl, N101, KC101, V101⟩
def Q_ga (Z : State) (u : Addr) (ku : ClassId) (vs : List Value) (cs : List Int32) (h0 : Heap) (n0 : Nat) (v : Option Value) (h : Heap) (L : List Loc) : Prop := v = none ∧ Fr n0 L ∧ Keep h0 h [u] ∧ Arv Z h u ku .byte (Int32.ofNat (2 * 40)) (own_cp vs (2 * (cs).length)) (.int 0)
theorem D_gba : ∀ q ∈ ([(0, .aload_n 0, 1), (1, .invokevirtual 335, 3), (4, .iload_n 3, 1), (5, .if_icmp .ne 23, 3), (8, .aload_n 0, 1), (9, .getfield 9, 3), (12, .iconst 0, 1), (13, .aload_n 1, 1), (14, .iload_n 2, 1), (15, .iload_n 3, 1), (16, .ishl, 1), (17, .aload_n 0, 1), (18, .getfield 9, 3), (21, .arraylength, 1), (22, .invokestatic 212, 3), (25, .goto 18, 3), (43, .return_, 1)] : List (Nat × Instr × Nat)), decode jdk_42_method_147_code q.1 = .ok q.2 := by decide +kernel
theorem ef_rm_gba (m : MethodId) (x0 : Addr) (x1 : Addr) (x2 : Int32) (x3 : Int32) : entryFrame m #[(.ref x0), (.ref x1), (.int x2), (.int x3)] 4 = mkF m 0 #[.val (.ref x0), .val (.ref x1), .val (.int x2), .val (.int x3)] [] := by first | (simp [entryFrame, mkF, argsToLocals, Value.category]; done) | rfl
theorem rm_gba (l : Launch) (Z : State) (a0 : Array Value) (hw : ∀ d ∈ tables_1, d.before a0 Z = true) (ws : List Jvm.Cond) (x t : Addr) (kb : ClassId) (cs : List Int32) (vs : List Value) (u : Addr) (ku : ClassId) (G1 : Int32) (h0 : Heap) (n0 : Nat) (Z0 : n0 ≤ h0.size) (O2 : Sta Z Z.heap "java/lang/String" "COMPACT_STRINGS" "Z" (.int G1)) (P5 : ¬ (G1 = (0 : Int32))) (X00 : Old Z n0 h0) (E_x : Exa Z h0 x "java/lang/String") (F_c : Fld Z h0 x "java/lang/String" "coder" "B" (.int 1)) (F_v : Fld Z h0 x "java/lang/String" "value" "[B" (.ref t)) (V_t : Arv Z h0 t kb .byte (Int32.ofNat (2 * (cs).length)) vs (.int 0)) (hu : own_u16 vs cs) (V_u : Arv Z h0 u ku .byte (Int32.ofNat (2 * 40)) [] (.int 0)) (gu : n0 ≤ u) (htu : t ≠ u) (hd : (cs).length = 40) :
    MetFree l y_43 (head1 (Jvm.Cond.code y_43 jdk_42_method_147_code 4 none :: ws) r_27) (fun αs U => αs = #[(.ref x), (.ref u), (.int (0 : Int32)), (.int (1 : Int32))] ∧ Z.Warmed39 U.vm ∧ U.heap = h0) (fun _ _ _ _ _ => True) (fun _ Us oS Us' => ∃ vR LR, oS = .returned vR ∧ Q_ga Z u ku vs cs h0 n0 vR Us'.heap LR ∧ FrameEnd Us oS Us' LR r_27.cells r_27.slots) := by
  refine MetFree.of_bodySF (plainFor_of_name pno_1) hisR ?_
  intro pP e s m args below meth cC s₁ Bd hml0 hP hK
  obtain ⟨rfl, hZ, hh⟩ := hP
  have hx := Bd.exec
  have W := own_W hw
  have hby := Bd.bytes
  have hml : cC.maxLocals = 4 := hml0
  have hown : s.vm.findClass "java/lang/String" = some m.cls := findClass_of_methodNamed Bd.named
  have hnm := (name_of_methodNamed Bd.named Bd.method).1
  have X0 : Stand pP l e r_27 s m #[(.ref x), (.ref u), (.int (0 : Int32)), (.int (1 : Int32))] below meth cC s₁ [] 0 0 := Stand.of_body Bd
  have e0 : s₁.heap = h0 := by rw [← hh, Bd.state]; rfl
  have N0 := Fr.nil n0
  have KC0 : Keep h0 h0 [u] := Keep.refl h0 _
  obtain ⟨A0, hA0⟩ : ∃ ζ, ζ = s₁.setTop (entryFrame m #[(.ref x), (.ref u), (.int (0 : Int32)), (.int (1 : Int32))] 4) := ⟨_, rfl⟩
  have pre0 : own_go pP e below A0 (s₁.setTop (mkF m 0 #[.val (.ref x), .val (.ref u), .val (.int (0 : Int32)), .val (.int (1 : Int32))] [])) := fun τ κ => by rw [hA0]; exact castTop (ef_rm_gba m x u (0 : Int32) (1 : Int32)) κ
  obtain ⟨cq102, kq102, q102a, q102b, q102c⟩ := isOf hZ e0 E_x
  obtain ⟨_, _, ⟨T101, L101, k101, n101⟩, -, X101, ⟨Lc101, hQ101, l101, y101, z101⟩, st101⟩ := X0.virtualBack hx (y := y_6) (z := y_6) hown (mvT hZ (W 75 rfl)) (mvT hZ (W 76 rfl)) (notFace_of_selects (args := #[]) (mvT hZ (W 78 rfl))) (mvT hZ (W 78 rfl)) (mvT hZ (W 77 rfl)) (by decide) (backOf (W := 0) (rm_cod1 l Z a0 hw [] x G1 h0 n0 Z0 O2 P5 X00 F_c) hZ (W 79 rfl) (W 13 rfl) (by decide) (by decide)) q102a q102c (g := (mkF m 1 #[.val (.ref x), .val (.ref u), .val (.int (0 : Int32)), .val (.int (1 : Int32))] [(.ref x)])) rfl (by rw [hml]; rfl) (Steps.refl _) (argsL := []) (rest := []) (lenOf pdo_2 rfl) rfl (Nat.le_of_eq rfl) (hb hby (own_d D_gba 1 rfl)) (fun _ _ => ⟨rfl, e0, (by decide : 0 + 0 ≤ _), (by decide : 0 + 0 ≤ _)⟩)
  dsimp only [Pt.U, Pt.locs, Pt.cells, Pt.slots] at X101 l101 y101 z101 st101 hQ101
  subst l101 y101 z101
  obtain ⟨rfl, Nq101, eq101⟩ := hQ101
  have N101 := Fr.app N0 Nq101
  have pq103 : own_go pP e below A0 (T101.setTop (mkF m 4 #[.val (.ref x), .val (.ref u), .val (.int (0 : Int32)), .val (.int (1 : Int32))] [(.int (1 : Int32))])) := by
    intro τ κ
    refine pre0 τ ?_
    refine XS.aloadN X0.here hx rfl (hb hby (own_d D_gba 0 rfl)) rfl rfl ?_
    refine st101.trans ?_
    exact κ
  obtain ⟨T104, X104, e104, st104⟩ := getF X101 hx hZ hown (host := "") (Or.inl (W 30 rfl)) Via.refl eq101 F_v (g := (mkF m 9 #[.val (.ref x), .val (.ref u), .val (.int (0 : Int32)), .val (.int (1 : Int32))] [(.ref x)])) rfl rfl (hb hby (own_d D_gba 5 rfl))
  have pq105 : own_go pP e below A0 (T104.setTop (mkF m 12 #[.val (.ref x), .val (.ref u), .val (.int (0 : Int32)), .val (.int (1 : Int32))] [(.ref t)])) := by
    intro τ κ
    refine pq103 τ ?_
    refine XS.iloadN X101.here hx rfl (hb hby (own_d D_gba 2 rfl)) rfl ?_
    refine XS.icmpNo X101.here hx rfl (hb hby (own_d D_gba 3 rfl)) rfl (teq (by decide : ((1 : Int32) = (1 : Int32)))).2 ?_
    refine XS.aloadN X101.here hx rfl (hb hby (own_d D_gba 4 rfl)) rfl rfl ?_
    refine st104 _ ?_
    exact κ
  have pq106 : own_go pP e below A0 (T104.setTop (mkF m 17 #[.val (.ref x), .val (.ref u), .val (.int (0 : Int32)), .val (.int (1 : Int32))] [(.int ((0 : Int32) <<< ((1 : Int32) &&& 31))), (.ref u), (.int (0 : Int32)), (.ref t)])) := by
    intro τ κ
    refine pq105 τ ?_
    refine XS.iconst X104.here hx rfl (hb hby (own_d D_gba 6 rfl)) ?_
    refine XS.aloadN X104.here hx rfl (hb hby (own_d D_gba 7 rfl)) rfl rfl ?_
    refine XS.iloadN X104.here hx rfl (hb hby (own_d D_gba 8 rfl)) rfl ?_
    refine XS.iloadN X104.here hx rfl (hb hby (own_d D_gba 9 rfl)) rfl ?_
    refine XS.ishl X104.here hx rfl (hb hby (own_d D_gba 10 rfl)) rfl ?_
    exact κ
  have pq107 : own_go pP e below A0 (T104.setTop (mkF m 17 #[.val (.ref x), .val (.ref u), .val (.int (0 : Int32)), .val (.int (1 : Int32))] [(.int (0 : Int32)), (.ref u), (.int (0 : Int32)), (.ref t)])) := by intro τ κ; refine pq106 τ ?_; rw [show ((0 : Int32) <<< ((1 : Int32) &&& 31)) = (0 : Int32) from (by decide)]; exact κ
  obtain ⟨T108, X108, e108, st108⟩ := getF X104 hx hZ hown (host := "") (Or.inl (W 30 rfl)) Via.refl e104 F_v (g := (mkF m 18 #[.val (.ref x), .val (.ref u), .val (.int (0 : Int32)), .val (.int (1 : Int32))] [(.ref x), (.int (0 : Int32)), (.ref u), (.int (0 : Int32)), (.ref t)])) rfl rfl (hb hby (own_d D_gba 12 rfl))
  have pq109 : own_go pP e below A0 (T108.setTop (mkF m 21 #[.val (.ref x), .val (.ref u), .val (.int (0 : Int32)), .val (.int (1 : Int32))] [(.ref t), (.int (0 : Int32)), (.ref u), (.int (0 : Int32)), (.ref t)])) := by
    intro τ κ
    refine pq107 τ ?_
    refine XS.aloadN X104.here hx rfl (hb hby (own_d D_gba 11 rfl)) rfl rfl ?_
    refine st108 _ ?_
    exact κ
  obtain ⟨cl110, Ar110, q110, S110, M110, Hs110, G110⟩ := id V_t
  obtain ⟨T111, h111, L111, X111, e111, N111, K111, V111a, st111⟩ := cpA X108 hx hZ hown (W 236 rfl) (W 161 rfl) (W 159 rfl) (W 160 rfl) e108 V_t (V_u.pad (pad_rep [] (.int 0) (2 * 40))) (Or.inl ⟨rfl, rfl⟩) (by decide) (by decide) (own_nn (by omega)) (own_le0 (by omega) (by omega) (by omega)) (own_le0 (by omega) (by omega) (by omega)) rfl (own_le1 (by omega) (by omega)) N101 gu (g := (mkF m 22 #[.val (.ref x), .val (.ref u), .val (.int (0 : Int32)), .val (.int (1 : Int32))] [(.int (Int32.ofNat (2 * (cs).length))), (.int (0 : Int32)), (.ref u), (.int (0 : Int32)), (.ref t)])) rfl (by rw [hml]; rfl) rfl (hb hby (own_d D_gba 14 rfl)) (by decide) (W := 0) (Nat.le_of_eq rfl) (by decide)
  have pq112 : own_go pP e below A0 (T111.setTop (mkF m 25 #[.val (.ref x), .val (.ref u), .val (.int (0 : Int32)), .val (.int (1 : Int32))] [])) := by
    intro τ κ
    refine pq109 τ ?_
    refine X108.arraylength hx (by rw [e108]; exact Ar110.1) (State.isArrayOf_alike hZ.alike Ar110.2.1) (g := (mkF m 21 #[.val (.ref x), .val (.ref u), .val (.int (0 : Int32)), .val (.int (1 : Int32))] [(.ref t), (.int (0 : Int32)), (.ref u), (.int (0 : Int32)), (.ref t)])) rfl rfl (hb hby (own_d D_gba 13 rfl)) _ ?_
    rw [len_of S110 M110]
    refine st111 _ ?_
    exact κ
  have KC111 := KC0.trans K111 (allS (Or.inl (List.mem_of_getElem? (i := 0) rfl)) all0)
  have V111 : Arv Z h111 u ku .byte (Int32.ofNat (2 * 40)) (own_cp vs (2 * (cs).length)) (.int 0) := own_cp0 (by omega) V111a
  obtain ⟨fs, hrE, hrun, hended, hW, hsame⟩ := X111.leave (v := none) (fun _ => rfl)
  have pqE := pq112
  rw [hA0] at pqE
  refine ⟨_, _, pqE _ ?_, hrun, hended, _, _, rfl, ?_, ⟨_, rfl⟩, hW, hsame.mono (by decide) (by decide)⟩
  · refine XS.goto X111.here hx rfl (pc0 := 25) (pc' := 43) rfl (hb hby (own_d D_gba 15 rfl)) (by decide) (by decide) ?_
    show Steps pP.tables e below (T111.setTop (mkF m 43 #[.val (.ref x), .val (.ref u), .val (.int (0 : Int32)), .val (.int (1 : Int32))] [])) _
    exact X111.returnOut hx Bd.returns (hb hby (own_d D_gba 16 rfl)) hrE
  · show Q_ga Z u ku vs cs h0 n0 _ T111.heap _
    rw [e111]
    exact ⟨rfl, N111, KC111, V111⟩
theorem D_gbb : ∀ q ∈ ([(0, .aload_n 0, 1), (1, .invokevirtual 335, 3), (4, .iload_n 3, 1), (5, .if_icmp .ne 23, 3), (28, .aload_n 0, 1), (29, .getfield 9, 3), (32, .iconst 0, 1), (33, .aload_n 1, 1), (34, .iload_n 2, 1), (35, .aload_n 0, 1), (36, .getfield 9, 3), (39, .arraylength, 1), (40, .invokestatic 106, 3), (43, .return_, 1)] : List (Nat × Instr × Nat)), decode jdk_42_method_147_code q.1 = .ok q.2 := by decide +kernel
theorem ef_rm_gbb (m : MethodId) (x0 : Addr) (x1 : Addr) (x2 : Int32) (x3 : Int32) : entryFrame m #[(.ref x0), (.ref x1), (.int x2), (.int x3)] 4 = mkF m 0 #[.val (.ref x0), .val (.ref x1), .val (.int x2), .val (.int x3)] [] := by first | (simp [entryFrame, mkF, argsToLocals, Value.category]; done) | rfl
theorem rm_gbb (l : Launch) (Z : State) (a0 : Array Value) (hw : ∀ d ∈ tables_1, d.before a0 Z = true) (ws : List Jvm.Cond) (x : Addr) (t u : Addr) (kb ku : ClassId) (us : List Value) (G3 : Value) (G1 : Int32) (h0 : Heap) (n0 : Nat) (Z0 : n0 ≤ h0.size) (O2 : Sta Z Z.heap "java/lang/String" "COMPACT_STRINGS" "Z" (.int G1)) (P5 : ¬ (G1 = (0 : Int32))) (O4 : Sta Z Z.heap "jdk/internal/util/Preconditions" "SIOOBE_FORMATTER" "Ljava/util/function/BiFunction;" G3) (rG3 : G3.isRef = true) (OA : Sta Z Z.heap "java/lang/StringUTF16" "$assertionsDisabled" "Z" (.int 1)) (OH : Sta Z Z.heap "java/lang/StringUTF16" "HI_BYTE_SHIFT" "I" (.int 0)) (OL : Sta Z Z.heap "java/lang/StringUTF16" "LO_BYTE_SHIFT" "I" (.int 8)) (X00 : Old Z n0 h0) (V_t : Arv Z h0 t kb .byte (3 : Int32) [(.int (46 : Int32)), (.int (46 : Int32)), (.int (46 : Int32))] (.int 0)) (V_u : Arv Z h0 u ku .byte (Int32.ofNat (2 * 82)) us (.int 0)) (gu : n0 ≤ u) (htu : t ≠ u) (hv : 2 * 82 ≤ us.length) (E_x : Exa Z h0 x "java/lang/String") (F_c : Fld Z h0 x "java/lang/String" "coder" "B" (.int 0)) (F_v : Fld Z h0 x "java/lang/String" "value" "[B" (.ref t)) :
    MetFree l y_43 (head1 (Jvm.Cond.code y_43 jdk_42_method_147_code 4 none :: ws) r_28) (fun αs U => αs = #[(.ref x), (.ref u), (.int (40 : Int32)), (.int (1 : Int32))] ∧ Z.Warmed39 U.vm ∧ U.heap = h0) (fun _ _ _ _ _ => True) (fun _ Us oS Us' => ∃ vR LR, oS = .returned vR ∧ Q_l3 Z u ku us h0 n0 vR Us'.heap LR ∧ FrameEnd Us oS Us' LR r_28.cells r_28.slots) := by
  refine MetFree.of_bodySF (plainFor_of_name pno_1) hisR ?_
  intro pP e s m args below meth cC s₁ Bd hml0 hP hK
  obtain ⟨rfl, hZ, hh⟩ := hP
  have hx := Bd.exec
  have W := own_W hw
  have hby := Bd.bytes
  have hml : cC.maxLocals = 4 := hml0
  have hown : s.vm.findClass "java/lang/String" = some m.cls := findClass_of_methodNamed Bd.named
  have hnm := (name_of_methodNamed Bd.named Bd.method).1
  have X0 : Stand pP l e r_28 s m #[(.ref x), (.ref u), (.int (40 : Int32)), (.int (1 : Int32))] below meth cC s₁ [] 0 0 := Stand.of_body Bd
  have e0 : s₁.heap = h0 := by rw [← hh, Bd.state]; rfl
  have N0 := Fr.nil n0
  have KC0 : Keep h0 h0 [u] := Keep.refl h0 _
  obtain ⟨A0, hA0⟩ : ∃ ζ, ζ = s₁.setTop (entryFrame m #[(.ref x), (.ref u), (.int (40 : Int32)), (.int (1 : Int32))] 4) := ⟨_, rfl⟩
  have pre0 : own_go pP e below A0 (s₁.setTop (mkF m 0 #[.val (.ref x), .val (.ref u), .val (.int (40 : Int32)), .val (.int (1 : Int32))] [])) := fun τ κ => by rw [hA0]; exact castTop (ef_rm_gbb m x u (40 : Int32) (1 : Int32)) κ
  obtain ⟨cq102, kq102, q102a, q102b, q102c⟩ := isOf hZ e0 E_x
  obtain ⟨_, _, ⟨T101, L101, k101, n101⟩, -, X101, ⟨Lc101, hQ101, l101, y101, z101⟩, st101⟩ := X0.virtualBack hx (y := y_6) (z := y_6) hown (mvT hZ (W 75 rfl)) (mvT hZ (W 76 rfl)) (notFace_of_selects (args := #[]) (mvT hZ (W 78 rfl))) (mvT hZ (W 78 rfl)) (mvT hZ (W 77 rfl)) (by decide) (backOf (W := 0) (rm_cod0 l Z a0 hw [] x G1 h0 n0 Z0 O2 P5 X00 F_c) hZ (W 79 rfl) (W 13 rfl) (by decide) (by decide)) q102a q102c (g := (mkF m 1 #[.val (.ref x), .val (.ref u), .val (.int (40 : Int32)), .val (.int (1 : Int32))] [(.ref x)])) rfl (by rw [hml]; rfl) (Steps.refl _) (argsL := []) (rest := []) (lenOf pdo_2 rfl) rfl (Nat.le_of_eq rfl) (hb hby (own_d D_gbb 1 rfl)) (fun _ _ => ⟨rfl, e0, (by decide : 0 + 0 ≤ _), (by decide : 0 + 0 ≤ _)⟩)
  dsimp only [Pt.U, Pt.locs, Pt.cells, Pt.slots] at X101 l101 y101 z101 st101 hQ101
  subst l101 y101 z101
  obtain ⟨rfl, Nq101, eq101⟩ := hQ101
  have N101 := Fr.app N0 Nq101
  have pq103 : own_go pP e below A0 (T101.setTop (mkF m 4 #[.val (.ref x), .val (.ref u), .val (.int (40 : Int32)), .val (.int (1 : Int32))] [(.int (0 : Int32))])) := by
    intro τ κ
    refine pre0 τ ?_
    refine XS.aloadN X0.here hx rfl (hb hby (own_d D_gbb 0 rfl)) rfl rfl ?_
    refine st101.trans ?_
    exact κ
  obtain ⟨T104, X104, e104, st104⟩ := getF X101 hx hZ hown (host := "") (Or.inl (W 30 rfl)) Via.refl eq101 F_v (g := (mkF m 29 #[.val (.ref x), .val (.ref u), .val (.int (40 : Int32)), .val (.int (1 : Int32))] [(.ref x)])) rfl rfl (hb hby (own_d D_gbb 5 rfl))
  have pq105 : own_go pP e below A0 (T104.setTop (mkF m 32 #[.val (.ref x), .val (.ref u), .val (.int (40 : Int32)), .val (.int (1 : Int32))] [(.ref t)])) := by
    intro τ κ
    refine pq103 τ ?_
    refine XS.iloadN X101.here hx rfl (hb hby (own_d D_gbb 2 rfl)) rfl ?_
    refine XS.icmpYes X101.here hx rfl (pc0 := 5) (pc' := 28) rfl (hb hby (own_d D_gbb 3 rfl)) rfl (feq (by decide : ¬ ((0 : Int32) = (1 : Int32)))).2 (by decide) (by decide) ?_
    refine XS.aloadN X101.here hx rfl (hb hby (own_d D_gbb 4 rfl)) rfl rfl ?_
    refine st104 _ ?_
    exact κ
  obtain ⟨T106, X106, e106, st106⟩ := getF X104 hx hZ hown (host := "") (Or.inl (W 30 rfl)) Via.refl e104 F_v (g := (mkF m 36 #[.val (.ref x), .val (.ref u), .val (.int (40 : Int32)), .val (.int (1 : Int32))] [(.ref x), (.int (40 : Int32)), (.ref u), (.int (0 : Int32)), (.ref t)])) rfl rfl (hb hby (own_d D_gbb 10 rfl))
  have pq107 : own_go pP e below A0 (T106.setTop (mkF m 39 #[.val (.ref x), .val (.ref u), .val (.int (40 : Int32)), .val (.int (1 : Int32))] [(.ref t), (.int (40 : Int32)), (.ref u), (.int (0 : Int32)), (.ref t)])) := by
    intro τ κ
    refine pq105 τ ?_
    refine XS.iconst X104.here hx rfl (hb hby (own_d D_gbb 6 rfl)) ?_
    refine XS.aloadN X104.here hx rfl (hb hby (own_d D_gbb 7 rfl)) rfl rfl ?_
    refine XS.iloadN X104.here hx rfl (hb hby (own_d D_gbb 8 rfl)) rfl ?_
    refine XS.aloadN X104.here hx rfl (hb hby (own_d D_gbb 9 rfl)) rfl rfl ?_
    refine st106 _ ?_
    exact κ
  obtain ⟨cl108, Ar108, q108, S108, M108, Hs108, G108⟩ := id V_t
  obtain ⟨_, _, ⟨T109, L109, k109, n109⟩, -, X109, ⟨Lc109, hQ109, l109, y109, z109⟩, st109⟩ := Jvm.LawKit.callS X106 hx (y := y_42) hown (mvT hZ (W 238 rfl)) (mvT hZ (W 225 rfl)) (mvT hZ (W 226 rfl)) (mvT hZ (W 227 rfl)) (by decide) (backOf (W := 0) (rm_li3 l Z a0 hw [] t u kb ku us G3 h0 n0 Z0 O4 rG3 OA OH OL X00 V_t V_u gu htu hv) hZ (W 227 rfl) (W 226 rfl) (by decide) (by decide)) (g := (mkF m 40 #[.val (.ref x), .val (.ref u), .val (.int (40 : Int32)), .val (.int (1 : Int32))] [(.int (3 : Int32)), (.int (40 : Int32)), (.ref u), (.int (0 : Int32)), (.ref t)])) rfl (by rw [hml]; rfl) (argsL := [(.ref t), (.int (0 : Int32)), (.ref u), (.int (40 : Int32)), (.int (3 : Int32))]) (rest := []) (lenOf pdo_26 rfl) rfl (Nat.le_of_eq rfl) (hb hby (own_d D_gbb 12 rfl)) (fun _ _ => ⟨rfl, e106, (by decide : 0 + 0 ≤ _), (by decide : 0 + 0 ≤ _)⟩)
  dsimp only [Pt.U, Pt.locs, Pt.cells, Pt.slots] at X109 l109 y109 z109 st109 hQ109
  subst l109 y109 z109
  obtain ⟨rfl, Nq109, K109, V109⟩ := hQ109
  have N109 := Fr.app N101 Nq109
  have pq110 : own_go pP e below A0 (T109.setTop (mkF m 43 #[.val (.ref x), .val (.ref u), .val (.int (40 : Int32)), .val (.int (1 : Int32))] [])) := by
    intro τ κ
    refine pq107 τ ?_
    refine X106.arraylength hx (by rw [e106]; exact Ar108.1) (State.isArrayOf_alike hZ.alike Ar108.2.1) (g := (mkF m 39 #[.val (.ref x), .val (.ref u), .val (.int (40 : Int32)), .val (.int (1 : Int32))] [(.ref t), (.int (40 : Int32)), (.ref u), (.int (0 : Int32)), (.ref t)])) rfl rfl (hb hby (own_d D_gbb 11 rfl)) _ ?_
    rw [len_of S108 M108]
    refine st109 _ ?_
    exact κ
  have KC109 := KC0.trans K109 (allS (Or.inl (List.mem_of_getElem? (i := 0) rfl)) all0)
  obtain ⟨fs, hrE, hrun, hended, hW, hsame⟩ := X109.leave (v := none) (fun _ => rfl)
  have pqE := pq110
  rw [hA0] at pqE
  refine ⟨_, _, pqE _ ?_, hrun, hended, _, _, rfl, ?_, ⟨_, rfl⟩, hW, hsame.mono (by decide) (by decide)⟩
  · show Steps pP.tables e below (T109.setTop (mkF m 43 #[.val (.ref x), .val (.ref u), .val (.int (40 : Int32)), .val (.int (1 : Int32))] [])) _
    exact X109.returnOut hx Bd.returns (hb hby (own_d D_gbb 13 rfl)) hrE
  · show Q_l3 Z u ku us h0 n0 _ T109.heap _
    exact ⟨rfl, N109, KC109, V109⟩
def Q_infa (Z : State) (sb : Addr) (h0 : Heap) (n0 : Nat) (v : Option Value) (h : Heap) (L : List Loc) : Prop := ∃ (u : Addr) (ku : ClassId), v = none ∧ Fr n0 L ∧ Keep h0 h [sb] ∧ h0.size ≤ u ∧ Exa Z h sb "java/lang/StringBuilder" ∧ Fld Z h sb "java/lang/AbstractStringBuilder" "value" "[B" (.ref u) ∧ Fld Z h sb "java/lang/AbstractStringBuilder" "coder" "B" (.int 1) ∧ Fld Z h sb "java/lang/AbstractStringBuilder" "count" "I" (.int 0) ∧ Fld Z h sb "java/lang/AbstractStringBuilder" "maybeLatin1" "Z" (.int 0) ∧ Arv Z h u ku .byte (Int32.ofNat (2 * 40)) [] (.int 0)
theorem D_inA : ∀ q ∈ ([(0, .aload_n 0, 1), (1, .invokevirtual 83, 3), (4, .ifCond .ne 4, 3), (8, .aload_n 0, 1), (9, .getfield 15, 3), (12, .arraylength, 1), (13, .invokestatic 26, 3), (16, .astore_n 1, 1), (17, .aload_n 0, 1), (18, .getfield 15, 3), (21, .iconst 0, 1), (22, .aload_n 1, 1), (23, .iconst 0, 1), (24, .aload_n 0, 1), (25, .getfield 79, 3), (28, .invokestatic 125, 3), (31, .aload_n 0, 1), (32, .aload_n 1, 1), (33, .putfield 15, 3), (36, .aload_n 0, 1), (37, .iconst 1, 1), (38, .putfield 22, 3), (41, .return_, 1)] : List (Nat × Instr × Nat)), decode jdk_68_method_11_code q.1 = .ok q.2 := by decide +kernel
theorem ef_rm_inA (m : MethodId) (x0 : Addr) : entryFrame m #[(.ref x0)] 2 = mkF m 0 #[.val (.ref x0), .unset] [] := by first | (simp [entryFrame, mkF, argsToLocals, Value.category]; done) | rfl
theorem rm_inA (l : Launch) (Z : State) (a0 : Array Value) (hw : ∀ d ∈ tables_1, d.before a0 Z = true) (ws : List Jvm.Cond) (sb vb : Addr) (kv : ClassId) (ws_ : List Value) (G1 : Int32) (G3 : Value) (h0 : Heap) (n0 : Nat) (Z0 : n0 ≤ h0.size) (O2 : Sta Z Z.heap "java/lang/String" "COMPACT_STRINGS" "Z" (.int G1)) (P5 : ¬ (G1 = (0 : Int32))) (X00 : Old Z n0 h0) (O4 : Sta Z Z.heap "jdk/internal/util/Preconditions" "SIOOBE_FORMATTER" "Ljava/util/function/BiFunction;" G3) (rG3 : G3.isRef = true) (E_sb : Exa Z h0 sb "java/lang/StringBuilder") (F_sv : Fld Z h0 sb "java/lang/AbstractStringBuilder" "value" "[B" (.ref vb)) (F_sc : Fld Z h0 sb "java/lang/AbstractStringBuilder" "coder" "B" (.int 0)) (F_sn : Fld Z h0 sb "java/lang/AbstractStringBuilder" "count" "I" (.int 0)) (F_sm : Fld Z h0 sb "java/lang/AbstractStringBuilder" "maybeLatin1" "Z" (.int 0)) (V_b : Arv Z h0 vb kv .byte (Int32.ofNat 40) ws_ (.int 0)) (gsb : n0 ≤ sb) :
    MetFree l y_44 (head1 (Jvm.Cond.code y_44 jdk_68_method_11_code 2 none :: ws) r_29) (fun αs U => αs = #[(.ref sb)] ∧ Z.Warmed39 U.vm ∧ U.heap = h0) (fun _ _ _ _ _ => True) (fun _ Us oS Us' => ∃ vR LR, oS = .returned vR ∧ Q_infa Z sb h0 n0 vR Us'.heap LR ∧ FrameEnd Us oS Us' LR r_29.cells r_29.slots) := by
  refine MetFree.of_bodySF (plainFor_of_name pno_6) hisR ?_
  intro pP e s m args below meth cC s₁ Bd hml0 hP hK
  obtain ⟨rfl, hZ, hh⟩ := hP
  have hx := Bd.exec
  have W := own_W hw
  have hby := Bd.bytes
  have hml : cC.maxLocals = 2 := hml0
  have hown : s.vm.findClass "java/lang/AbstractStringBuilder" = some m.cls := findClass_of_methodNamed Bd.named
  have hnm := (name_of_methodNamed Bd.named Bd.method).1
  have X0 : Stand pP l e r_29 s m #[(.ref sb)] below meth cC s₁ [] 0 0 := Stand.of_body Bd
  have e0 : s₁.heap = h0 := by rw [← hh, Bd.state]; rfl
  have N0 := Fr.nil n0
  have KC0 : Keep h0 h0 [sb] := Keep.refl h0 _
  obtain ⟨A0, hA0⟩ : ∃ ζ, ζ = s₁.setTop (entryFrame m #[(.ref sb)] 2) := ⟨_, rfl⟩
  have pre0 : own_go pP e below A0 (s₁.setTop (mkF m 0 #[.val (.ref sb), .unset] [])) := fun τ κ => by rw [hA0]; exact castTop (ef_rm_inA m sb) κ
  obtain ⟨cq102, kq102, q102a, q102b, q102c⟩ := isOf hZ e0 E_sb
  obtain ⟨_, _, ⟨T101, L101, k101, n101⟩, -, X101, ⟨Lc101, hQ101, l101, y101, z101⟩, st101⟩ := X0.virtualBack hx (y := y_35) (z := y_35) hown (mvT hZ (W 218 rfl)) (mvT hZ (W 219 rfl)) (notFace_of_selects (args := #[]) (mvT hZ (W 221 rfl))) (mvT hZ (W 221 rfl)) (mvT hZ (W 220 rfl)) (by decide) (backOf (W := 0) (rm_bl0 l Z a0 hw [] sb G1 h0 n0 Z0 O2 P5 X00 F_sc) hZ (W 222 rfl) (W 95 rfl) (by decide) (by decide)) q102a q102c (g := (mkF m 1 #[.val (.ref sb), .unset] [(.ref sb)])) rfl (by rw [hml]; rfl) (Steps.refl _) (argsL := []) (rest := []) (lenOf pdo_22 rfl) rfl (Nat.le_of_eq rfl) (hb hby (own_d D_inA 1 rfl)) (fun _ _ => ⟨rfl, e0, (by decide : 0 + 0 ≤ _), (by decide : 0 + 0 ≤ _)⟩)
  dsimp only [Pt.U, Pt.locs, Pt.cells, Pt.slots] at X101 l101 y101 z101 st101 hQ101
  subst l101 y101 z101
  obtain ⟨rfl, Nq101, eq101⟩ := hQ101
  have N101 := Fr.app N0 Nq101
  have pq103 : own_go pP e below A0 (T101.setTop (mkF m 4 #[.val (.ref sb), .unset] [(.int (1 : Int32))])) := by
    intro τ κ
    refine pre0 τ ?_
    refine XS.aloadN X0.here hx rfl (hb hby (own_d D_inA 0 rfl)) rfl rfl ?_
    refine st101.trans ?_
    exact κ
  obtain ⟨T104, X104, e104, st104⟩ := getF X101 hx hZ hown (host := "") (Or.inl (W 99 rfl)) Via.refl eq101 F_sv (g := (mkF m 9 #[.val (.ref sb), .unset] [(.ref sb)])) rfl rfl (hb hby (own_d D_inA 4 rfl))
  have pq105 : own_go pP e below A0 (T104.setTop (mkF m 12 #[.val (.ref sb), .unset] [(.ref vb)])) := by
    intro τ κ
    refine pq103 τ ?_
    refine XS.ifYes X101.here hx rfl (pc0 := 4) (pc' := 8) rfl (hb hby (own_d D_inA 2 rfl)) rfl ((if0 _ _).trans (feq (by decide : ¬ ((1 : Int32) = (0 : Int32)))).2) (by decide) (by decide) ?_
    refine XS.aloadN X101.here hx rfl (hb hby (own_d D_inA 3 rfl)) rfl rfl ?_
    refine st104 _ ?_
    exact κ
  obtain ⟨cl106, Ar106, q106, S106, M106, Hs106, G106⟩ := id V_b
  obtain ⟨_, _, ⟨T107, L107, k107, n107⟩, -, X107, ⟨Lc107, hQ107, l107, y107, z107⟩, st107⟩ := Jvm.LawKit.callS X104 hx (y := y_11) hown (mvT hZ (W 223 rfl)) (mvT hZ (W 48 rfl)) (mvT hZ (W 39 rfl)) (mvT hZ (W 49 rfl)) (by decide) (backOf (W := 0) (rm_nbf l Z a0 hw [] 40 h0 n0 Z0 (by decide)) hZ (W 49 rfl) (W 39 rfl) (by decide) (by decide)) (g := (mkF m 13 #[.val (.ref sb), .unset] [(.int (Int32.ofNat 40))])) rfl (by rw [hml]; rfl) (argsL := [(.int (Int32.ofNat 40))]) (rest := []) (lenOf pdo_4 rfl) rfl (Nat.le_of_eq rfl) (hb hby (own_d D_inA 6 rfl)) (fun _ _ => ⟨rfl, e104, (by decide : 0 + 1 ≤ _), (by decide : 0 + 200 ≤ _)⟩)
  dsimp only [Pt.U, Pt.locs, Pt.cells, Pt.slots] at X107 l107 y107 z107 st107 hQ107
  subst l107 y107 z107
  obtain ⟨b107, kb107, rfl, Nq107, K107, lb107, V107⟩ := hQ107
  have N107 := Fr.app N101 Nq107
  have pq108 : own_go pP e below A0 (T107.setTop (mkF m 16 #[.val (.ref sb), .unset] [(.ref b107)])) := by
    intro τ κ
    refine pq105 τ ?_
    refine X104.arraylength hx (by rw [e104]; exact Ar106.1) (State.isArrayOf_alike hZ.alike Ar106.2.1) (g := (mkF m 12 #[.val (.ref sb), .unset] [(.ref vb)])) rfl rfl (hb hby (own_d D_inA 5 rfl)) _ ?_
    rw [len_of S106 M106]
    refine st107 _ ?_
    exact κ
  have KC107 := KC0.trans K107 all0
  have f109 := (F_sv.keep K107 nin0)
  obtain ⟨T110, X110, e110, st110⟩ := getF X107 hx hZ hown (host := "") (Or.inl (W 99 rfl)) Via.refl rfl f109 (g := (mkF m 18 #[.val (.ref sb), .val (.ref b107)] [(.ref sb)])) rfl rfl (hb hby (own_d D_inA 9 rfl))
  have pq111 : own_go pP e below A0 (T110.setTop (mkF m 21 #[.val (.ref sb), .val (.ref b107)] [(.ref vb)])) := by
    intro τ κ
    refine pq108 τ ?_
    refine XS.astoreN X107.here hx rfl (hb hby (own_d D_inA 7 rfl)) rfl rfl (l' := #[.val (.ref sb), .val (.ref b107)]) rfl ?_
    refine XS.aloadN X107.here hx rfl (hb hby (own_d D_inA 8 rfl)) rfl rfl ?_
    refine st110 _ ?_
    exact κ
  have f112 := (F_sn.keep K107 nin0)
  obtain ⟨T113, X113, e113, st113⟩ := getF X110 hx hZ hown (host := "") (Or.inl (W 178 rfl)) Via.refl e110 f112 (g := (mkF m 25 #[.val (.ref sb), .val (.ref b107)] [(.ref sb), (.int (0 : Int32)), (.ref b107), (.int (0 : Int32)), (.ref vb)])) rfl rfl (hb hby (own_d D_inA 14 rfl))
  have pq114 : own_go pP e below A0 (T113.setTop (mkF m 28 #[.val (.ref sb), .val (.ref b107)] [(.int (0 : Int32)), (.int (0 : Int32)), (.ref b107), (.int (0 : Int32)), (.ref vb)])) := by
    intro τ κ
    refine pq111 τ ?_
    refine XS.iconst X110.here hx rfl (hb hby (own_d D_inA 10 rfl)) ?_
    refine XS.aloadN X110.here hx rfl (hb hby (own_d D_inA 11 rfl)) rfl rfl ?_
    refine XS.iconst X110.here hx rfl (hb hby (own_d D_inA 12 rfl)) ?_
    refine XS.aloadN X110.here hx rfl (hb hby (own_d D_inA 13 rfl)) rfl rfl ?_
    refine st113 _ ?_
    exact κ
  have f115 := (X00.keep K107 all0)
  have f116 := (Nat.le_trans Z0 K107.1)
  obtain ⟨_, _, ⟨T117, L117, k117, n117⟩, -, X117, ⟨Lc117, hQ117, l117, y117, z117⟩, st117⟩ := Jvm.LawKit.callS X113 hx (y := y_42) hown (mvT hZ (W 224 rfl)) (mvT hZ (W 225 rfl)) (mvT hZ (W 226 rfl)) (mvT hZ (W 227 rfl)) (by decide) (backOf (W := 0) (rm_li0 l Z a0 hw [] vb b107 kb107 40 [] G3 T107.heap n0 f116 O4 rG3 f115 V107 (by decide)) hZ (W 227 rfl) (W 226 rfl) (by decide) (by decide)) (g := (mkF m 28 #[.val (.ref sb), .val (.ref b107)] [(.int (0 : Int32)), (.int (0 : Int32)), (.ref b107), (.int (0 : Int32)), (.ref vb)])) rfl (by rw [hml]; rfl) (argsL := [(.ref vb), (.int (0 : Int32)), (.ref b107), (.int (0 : Int32)), (.int (0 : Int32))]) (rest := []) (lenOf pdo_26 rfl) rfl (Nat.le_of_eq rfl) (hb hby (own_d D_inA 15 rfl)) (fun _ _ => ⟨rfl, e113, (by decide : 1 + 0 ≤ _), (by decide : 200 + 0 ≤ _)⟩)
  dsimp only [Pt.U, Pt.locs, Pt.cells, Pt.slots] at X117 l117 y117 z117 st117 hQ117
  subst l117 y117 z117
  obtain ⟨rfl, Nq117, eq117⟩ := hQ117
  have N117 := Fr.app N107 Nq117
  have pq118 : own_go pP e below A0 (T117.setTop (mkF m 31 #[.val (.ref sb), .val (.ref b107)] [])) := by
    intro τ κ
    refine pq114 τ ?_
    refine st117 _ ?_
    exact κ
  have f119 := (E_sb.keep K107)
  obtain ⟨T120, h120, X120, e120, W120, st120⟩ := putF X117 hx hZ hown (host := "") (Or.inl (W 99 rfl)) Via.refl eq117 f109 f119 (Or.inl (W 100 rfl)) (W 86 rfl) (ty := (.array .byte)) (by decide) rfl rfl (g := (mkF m 33 #[.val (.ref sb), .val (.ref b107)] [(.ref b107), (.ref sb)])) rfl rfl (hb hby (own_d D_inA 18 rfl))
  have pq121 : own_go pP e below A0 (T120.setTop (mkF m 36 #[.val (.ref sb), .val (.ref b107)] [])) := by
    intro τ κ
    refine pq118 τ ?_
    refine XS.aloadN X117.here hx rfl (hb hby (own_d D_inA 16 rfl)) rfl rfl ?_
    refine XS.aloadN X117.here hx rfl (hb hby (own_d D_inA 17 rfl)) rfl rfl ?_
    refine st120 _ ?_
    exact κ
  have KC120 := KC107.wr W120 (Or.inl (List.mem_of_getElem? (i := 0) rfl))
  have Fw120 := f109.same W120
  have N120 := Fr.snoc X120 N117 gsb
  have f122 := (f119.wr W120)
  have f123 := ((F_sc.keep K107 nin0).other W120 (Or.inr (slot_ne (Or.inl (W 102 rfl)) (Or.inl (W 100 rfl)) (by decide) (t := .byte) (t' := (.array .byte)) (by decide) (by decide))))
  obtain ⟨T124, h124, X124, e124, W124, st124⟩ := putFN X120 hx hZ hown (W 101 rfl) Via.refl e120 f123 f122 (Or.inl (W 102 rfl)) (W 86 rfl) (ty := .byte) (v' := (.int (1 : Int32))) (by decide) rfl (by decide) (g := (mkF m 38 #[.val (.ref sb), .val (.ref b107)] [(.int (1 : Int32)), (.ref sb)])) rfl rfl (hb hby (own_d D_inA 21 rfl))
  have pq125 : own_go pP e below A0 (T124.setTop (mkF m 41 #[.val (.ref sb), .val (.ref b107)] [])) := by
    intro τ κ
    refine pq121 τ ?_
    refine XS.aloadN X120.here hx rfl (hb hby (own_d D_inA 19 rfl)) rfl rfl ?_
    refine XS.iconst X120.here hx rfl (hb hby (own_d D_inA 20 rfl)) ?_
    refine st124 _ ?_
    exact κ
  have KC124 := KC120.wr W124 (Or.inl (List.mem_of_getElem? (i := 0) rfl))
  have Fw124 := f123.same W124
  have N124 := Fr.snoc X124 N120 gsb
  have f126 := (f122.wr W124)
  have f127 := (Fw120.other W124 (Or.inr (slot_ne (Or.inl (W 100 rfl)) (Or.inl (W 102 rfl)) (by decide) (t := (.array .byte)) (t' := .byte) (by decide) (by decide))))
  have f128 := ((f112.other W120 (Or.inr (slot_ne (Or.inl (W 179 rfl)) (Or.inl (W 100 rfl)) (by decide) (t := .int) (t' := (.array .byte)) (by decide) (by decide)))).other W124 (Or.inr (slot_ne (Or.inl (W 179 rfl)) (Or.inl (W 102 rfl)) (by decide) (t := .int) (t' := .byte) (by decide) (by decide))))
  have f129 := (((F_sm.keep K107 nin0).other W120 (Or.inr (slot_ne (Or.inl (W 266 rfl)) (Or.inl (W 100 rfl)) (by decide) (t := .boolean) (t' := (.array .byte)) (by decide) (by decide)))).other W124 (Or.inr (slot_ne (Or.inl (W 266 rfl)) (Or.inl (W 102 rfl)) (by decide) (t := .boolean) (t' := .byte) (by decide) (by decide))))
  have f130 := ((V107.other W120 (Ne.symm (Nat.ne_of_lt (Nat.lt_of_lt_of_le E_sb.lt lb107)))).other W124 (Ne.symm (Nat.ne_of_lt (Nat.lt_of_lt_of_le E_sb.lt lb107))))
  obtain ⟨fs, hrE, hrun, hended, hW, hsame⟩ := X124.leave (v := none) (fun _ => rfl)
  have pqE := pq125
  rw [hA0] at pqE
  refine ⟨_, _, pqE _ ?_, hrun, hended, _, _, rfl, ?_, ⟨_, rfl⟩, hW, hsame.mono (by decide) (by decide)⟩
  · show Steps pP.tables e below (T124.setTop (mkF m 41 #[.val (.ref sb), .val (.ref b107)] [])) _
    exact X124.returnOut hx Bd.returns (hb hby (own_d D_inA 22 rfl)) hrE
  · show Q_infa Z sb h0 n0 _ T124.heap _
    rw [e124]
    exact ⟨b107, _, rfl, N124, KC124, (Nat.le_trans (Nat.le_refl _) lb107), f126, f127, Fw124, f128, f129, f130⟩
theorem D_ifA : ∀ q ∈ ([(0, .getstatic 18, 3), (3, .ifCond .eq 18, 3), (6, .aload_n 0, 1), (7, .getfield 22, 3), (10, .aload_n 1, 1), (11, .invokevirtual 40, 3), (14, .if_icmp .eq 7, 3), (17, .aload_n 0, 1), (18, .invokevirtual 195, 3), (21, .return_, 1)] : List (Nat × Instr × Nat)), decode jdk_68_method_71_code q.1 = .ok q.2 := by decide +kernel
theorem ef_rm_ifA (m : MethodId) (x0 : Addr) (x1 : Addr) : entryFrame m #[(.ref x0), (.ref x1)] 2 = mkF m 0 #[.val (.ref x0), .val (.ref x1)] [] := by first | (simp [entryFrame, mkF, argsToLocals, Value.category]; done) | rfl
theorem rm_ifA (l : Launch) (Z : State) (a0 : Array Value) (hw : ∀ d ∈ tables_1, d.before a0 Z = true) (ws : List Jvm.Cond) (sb vb : Addr) (kv : ClassId) (ws_ : List Value) (x : Addr) (G1 : Int32) (G3 : Value) (h0 : Heap) (n0 : Nat) (Z0 : n0 ≤ h0.size) (O2 : Sta Z Z.heap "java/lang/String" "COMPACT_STRINGS" "Z" (.int G1)) (P5 : ¬ (G1 = (0 : Int32))) (X00 : Old Z n0 h0) (O4 : Sta Z Z.heap "jdk/internal/util/Preconditions" "SIOOBE_FORMATTER" "Ljava/util/function/BiFunction;" G3) (rG3 : G3.isRef = true) (E_sb : Exa Z h0 sb "java/lang/StringBuilder") (F_sv : Fld Z h0 sb "java/lang/AbstractStringBuilder" "value" "[B" (.ref vb)) (F_sc : Fld Z h0 sb "java/lang/AbstractStringBuilder" "coder" "B" (.int 0)) (F_sn : Fld Z h0 sb "java/lang/AbstractStringBuilder" "count" "I" (.int 0)) (F_sm : Fld Z h0 sb "java/lang/AbstractStringBuilder" "maybeLatin1" "Z" (.int 0)) (V_b : Arv Z h0 vb kv .byte (Int32.ofNat 40) ws_ (.int 0)) (gsb : n0 ≤ sb) (E_x : Exa Z h0 x "java/lang/String") (F_c : Fld Z h0 x "java/lang/String" "coder" "B" (.int 1)) :
    MetFree l y_45 (head1 (Jvm.Cond.code y_45 jdk_68_method_71_code 2 none :: ws) r_30) (fun αs U => αs = #[(.ref sb), (.ref x)] ∧ Z.Warmed39 U.vm ∧ U.heap = h0) (fun _ _ _ _ _ => True) (fun _ Us oS Us' => ∃ vR LR, oS = .returned vR ∧ Q_infa Z sb h0 n0 vR Us'.heap LR ∧ FrameEnd Us oS Us' LR r_30.cells r_30.slots) := by
  refine MetFree.of_bodySF (plainFor_of_name pno_6) hisR ?_
  intro pP e s m args below meth cC s₁ Bd hml0 hP hK
  obtain ⟨rfl, hZ, hh⟩ := hP
  have hx := Bd.exec
  have W := own_W hw
  have hby := Bd.bytes
  have hml : cC.maxLocals = 2 := hml0
  have hown : s.vm.findClass "java/lang/AbstractStringBuilder" = some m.cls := findClass_of_methodNamed Bd.named
  have hnm := (name_of_methodNamed Bd.named Bd.method).1
  have X0 : Stand pP l e r_30 s m #[(.ref sb), (.ref x)] below meth cC s₁ [] 0 0 := Stand.of_body Bd
  have e0 : s₁.heap = h0 := by rw [← hh, Bd.state]; rfl
  have N0 := Fr.nil n0
  have KC0 : Keep h0 h0 [sb] := Keep.refl h0 _
  obtain ⟨A0, hA0⟩ : ∃ ζ, ζ = s₁.setTop (entryFrame m #[(.ref sb), (.ref x)] 2) := ⟨_, rfl⟩
  have pre0 : own_go pP e below A0 (s₁.setTop (mkF m 0 #[.val (.ref sb), .val (.ref x)] [])) := fun τ κ => by rw [hA0]; exact castTop (ef_rm_ifA m sb x) κ
  obtain ⟨T101, X101, e101, st101⟩ := getS2 X0 hx hZ hown (host := "") (Or.inl (W 98 rfl)) Via.refl e0 (O2.ext X00.2) (g := (mkF m 0 #[.val (.ref sb), .val (.ref x)] [])) rfl (hb hby (own_d D_ifA 0 rfl))
  have pq102 : own_go pP e below A0 (T101.setTop (mkF m 3 #[.val (.ref sb), .val (.ref x)] [(.int G1)])) := by
    intro τ κ
    refine pre0 τ ?_
    refine st101 _ ?_
    exact κ
  obtain ⟨T103, X103, e103, st103⟩ := getF X101 hx hZ hown (host := "") (Or.inl (W 101 rfl)) Via.refl e101 F_sc (g := (mkF m 7 #[.val (.ref sb), .val (.ref x)] [(.ref sb)])) rfl rfl (hb hby (own_d D_ifA 3 rfl))
  have pq104 : own_go pP e below A0 (T103.setTop (mkF m 10 #[.val (.ref sb), .val (.ref x)] [(.int (0 : Int32))])) := by
    intro τ κ
    refine pq102 τ ?_
    refine XS.ifNo X101.here hx rfl (hb hby (own_d D_ifA 1 rfl)) rfl ((if0 _ _).trans (feq P5).1) ?_
    refine XS.aloadN X101.here hx rfl (hb hby (own_d D_ifA 2 rfl)) rfl rfl ?_
    refine st103 _ ?_
    exact κ
  obtain ⟨cq106, kq106, q106a, q106b, q106c⟩ := isOf hZ e103 E_x
  obtain ⟨_, _, ⟨T105, L105, k105, n105⟩, -, X105, ⟨Lc105, hQ105, l105, y105, z105⟩, st105⟩ := X103.virtualBack hx (y := y_6) (z := y_6) hown (mvT hZ (W 212 rfl)) (mvT hZ (W 76 rfl)) (notFace_of_selects (args := #[]) (mvT hZ (W 78 rfl))) (mvT hZ (W 78 rfl)) (mvT hZ (W 77 rfl)) (by decide) (backOf (W := 1) (rm_cod1 l Z a0 hw [] x G1 h0 n0 Z0 O2 P5 X00 F_c) hZ (W 79 rfl) (W 13 rfl) (by decide) (by decide)) q106a q106c (g := (mkF m 11 #[.val (.ref sb), .val (.ref x)] [(.ref x), (.int (0 : Int32))])) rfl (by rw [hml]; rfl) (Steps.refl _) (argsL := []) (rest := [(.int (0 : Int32))]) (lenOf pdo_2 rfl) rfl (Nat.le_of_eq rfl) (hb hby (own_d D_ifA 5 rfl)) (fun _ _ => ⟨rfl, e103, (by decide : 0 + 0 ≤ _), (by decide : 0 + 0 ≤ _)⟩)
  dsimp only [Pt.U, Pt.locs, Pt.cells, Pt.slots] at X105 l105 y105 z105 st105 hQ105
  subst l105 y105 z105
  obtain ⟨rfl, Nq105, eq105⟩ := hQ105
  have N105 := Fr.app N0 Nq105
  have pq107 : own_go pP e below A0 (T105.setTop (mkF m 14 #[.val (.ref sb), .val (.ref x)] [(.int (1 : Int32)), (.int (0 : Int32))])) := by
    intro τ κ
    refine pq104 τ ?_
    refine XS.aloadN X103.here hx rfl (hb hby (own_d D_ifA 4 rfl)) rfl rfl ?_
    refine st105.trans ?_
    exact κ
  obtain ⟨cq109, kq109, q109a, q109b, q109c⟩ := isOf hZ eq105 E_sb
  obtain ⟨_, _, ⟨T108, L108, k108, n108⟩, -, X108, ⟨Lc108, hQ108, l108, y108, z108⟩, st108⟩ := X105.virtualBack hx (y := y_44) (z := y_44) hown (mvT hZ (W 213 rfl)) (mvT hZ (own_declares (W 214 rfl) (W 217 rfl))) (notFace_of_selects (args := #[]) (mvT hZ (W 216 rfl))) (mvT hZ (W 216 rfl)) (mvT hZ (W 214 rfl)) (by decide) (backOf (W := 0) (rm_inA l Z a0 hw [] sb vb kv ws_ G1 G3 h0 n0 Z0 O2 P5 X00 O4 rG3 E_sb F_sv F_sc F_sn F_sm V_b gsb) hZ (W 217 rfl) (W 95 rfl) (by decide) (by decide)) q109a q109c (g := (mkF m 18 #[.val (.ref sb), .val (.ref x)] [(.ref sb)])) rfl (by rw [hml]; rfl) (Steps.refl _) (argsL := []) (rest := []) (lenOf pdo_27 rfl) rfl (Nat.le_of_eq rfl) (hb hby (own_d D_ifA 8 rfl)) (fun _ _ => ⟨rfl, eq105, (by decide : 0 + 1 ≤ _), (by decide : 0 + 200 ≤ _)⟩)
  dsimp only [Pt.U, Pt.locs, Pt.cells, Pt.slots] at X108 l108 y108 z108 st108 hQ108
  subst l108 y108 z108
  obtain ⟨u108, ku108, rfl, Nq108, K108, lb108, Ex108, Fv108, Fc108, Fn108, Fm108, V108⟩ := hQ108
  have N108 := Fr.app N105 Nq108
  have pq110 : own_go pP e below A0 (T108.setTop (mkF m 21 #[.val (.ref sb), .val (.ref x)] [])) := by
    intro τ κ
    refine pq107 τ ?_
    refine XS.icmpNo X105.here hx rfl (hb hby (own_d D_ifA 6 rfl)) rfl (feq (by decide : ¬ ((0 : Int32) = (1 : Int32)))).1 ?_
    refine XS.aloadN X105.here hx rfl (hb hby (own_d D_ifA 7 rfl)) rfl rfl ?_
    refine st108.trans ?_
    exact κ
  have KC108 := KC0.trans K108 (allS (Or.inl (List.mem_of_getElem? (i := 0) rfl)) all0)
  obtain ⟨fs, hrE, hrun, hended, hW, hsame⟩ := X108.leave (v := none) (fun _ => rfl)
  have pqE := pq110
  rw [hA0] at pqE
  refine ⟨_, _, pqE _ ?_, hrun, hended, _, _, rfl, ?_, ⟨_, rfl⟩, hW, hsame.mono (by decide) (by decide)⟩
  · show Steps pP.tables e below (T108.setTop (mkF m 21 #[.val (.ref sb), .val (.ref x)] [])) _
    exact X108.returnOut hx Bd.returns (hb hby (own_d D_ifA 9 rfl)) hrE
  · show Q_infa Z sb h0 n0 _ T108.heap _
    exact ⟨u108, _, rfl, N108, KC108, (Nat.le_trans (Nat.le_refl _) lb108), Ex108, Fv108, Fc108, Fn108, Fm108, V108⟩
def Q_inB (h0 : Heap) (n0 : Nat) (v : Option Value) (h : Heap) (L : List Loc) : Prop := v = none ∧ Fr n0 L ∧ h = h0
theorem D_inB : ∀ q ∈ ([(0, .aload_n 0, 1), (1, .invokevirtual 83, 3), (4, .ifCond .ne 4, 3), (7, .return_, 1)] : List (Nat × Instr × Nat)), decode jdk_68_method_11_code q.1 = .ok q.2 := by decide +kernel
theorem ef_rm_inB (m : MethodId) (x0 : Addr) : entryFrame m #[(.ref x0)] 2 = mkF m 0 #[.val (.ref x0), .unset] [] := by first | (simp [entryFrame, mkF, argsToLocals, Value.category]; done) | rfl
theorem rm_inB (l : Launch) (Z : State) (a0 : Array Value) (hw : ∀ d ∈ tables_1, d.before a0 Z = true) (ws : List Jvm.Cond) (sb : Addr) (G1 : Int32) (h0 : Heap) (n0 : Nat) (Z0 : n0 ≤ h0.size) (O2 : Sta Z Z.heap "java/lang/String" "COMPACT_STRINGS" "Z" (.int G1)) (P5 : ¬ (G1 = (0 : Int32))) (X00 : Old Z n0 h0) (E_sb : Exa Z h0 sb "java/lang/StringBuilder") (F_sc : Fld Z h0 sb "java/lang/AbstractStringBuilder" "coder" "B" (.int 1)) :
    MetFree l y_44 (head1 (Jvm.Cond.code y_44 jdk_68_method_11_code 2 none :: ws) r_19) (fun αs U => αs = #[(.ref sb)] ∧ Z.Warmed39 U.vm ∧ U.heap = h0) (fun _ _ _ _ _ => True) (fun _ Us oS Us' => ∃ vR LR, oS = .returned vR ∧ Q_inB h0 n0 vR Us'.heap LR ∧ FrameEnd Us oS Us' LR r_19.cells r_19.slots) := by
  refine MetFree.of_bodySF (plainFor_of_name pno_6) hisR ?_
  intro pP e s m args below meth cC s₁ Bd hml0 hP hK
  obtain ⟨rfl, hZ, hh⟩ := hP
  have hx := Bd.exec
  have W := own_W hw
  have hby := Bd.bytes
  have hml : cC.maxLocals = 2 := hml0
  have hown : s.vm.findClass "java/lang/AbstractStringBuilder" = some m.cls := findClass_of_methodNamed Bd.named
  have hnm := (name_of_methodNamed Bd.named Bd.method).1
  have X0 : Stand pP l e r_19 s m #[(.ref sb)] below meth cC s₁ [] 0 0 := Stand.of_body Bd
  have e0 : s₁.heap = h0 := by rw [← hh, Bd.state]; rfl
  have N0 := Fr.nil n0
  have KC0 : Keep h0 h0 [] := Keep.refl h0 _
  obtain ⟨A0, hA0⟩ : ∃ ζ, ζ = s₁.setTop (entryFrame m #[(.ref sb)] 2) := ⟨_, rfl⟩
  have pre0 : own_go pP e below A0 (s₁.setTop (mkF m 0 #[.val (.ref sb), .unset] [])) := fun τ κ => by rw [hA0]; exact castTop (ef_rm_inB m sb) κ
  obtain ⟨cq102, kq102, q102a, q102b, q102c⟩ := isOf hZ e0 E_sb
  obtain ⟨_, _, ⟨T101, L101, k101, n101⟩, -, X101, ⟨Lc101, hQ101, l101, y101, z101⟩, st101⟩ := X0.virtualBack hx (y := y_35) (z := y_35) hown (mvT hZ (W 218 rfl)) (mvT hZ (W 219 rfl)) (notFace_of_selects (args := #[]) (mvT hZ (W 221 rfl))) (mvT hZ (W 221 rfl)) (mvT hZ (W 220 rfl)) (by decide) (backOf (W := 0) (rm_bl1 l Z a0 hw [] sb G1 h0 n0 Z0 O2 P5 X00 F_sc) hZ (W 222 rfl) (W 95 rfl) (by decide) (by decide)) q102a q102c (g := (mkF m 1 #[.val (.ref sb), .unset] [(.ref sb)])) rfl (by rw [hml]; rfl) (Steps.refl _) (argsL := []) (rest := []) (lenOf pdo_22 rfl) rfl (Nat.le_of_eq rfl) (hb hby (own_d D_inB 1 rfl)) (fun _ _ => ⟨rfl, e0, (by decide : 0 + 0 ≤ _), (by decide : 0 + 0 ≤ _)⟩)
  dsimp only [Pt.U, Pt.locs, Pt.cells, Pt.slots] at X101 l101 y101 z101 st101 hQ101
  subst l101 y101 z101
  obtain ⟨rfl, Nq101, eq101⟩ := hQ101
  have N101 := Fr.app N0 Nq101
  have pq103 : own_go pP e below A0 (T101.setTop (mkF m 4 #[.val (.ref sb), .unset] [(.int (0 : Int32))])) := by
    intro τ κ
    refine pre0 τ ?_
    refine XS.aloadN X0.here hx rfl (hb hby (own_d D_inB 0 rfl)) rfl rfl ?_
    refine st101.trans ?_
    exact κ
  obtain ⟨fs, hrE, hrun, hended, hW, hsame⟩ := X101.leave (v := none) (fun _ => rfl)
  have pqE := pq103
  rw [hA0] at pqE
  refine ⟨_, _, pqE _ ?_, hrun, hended, _, _, rfl, ?_, ⟨_, rfl⟩, hW, hsame.mono (by decide) (by decide)⟩
  · refine XS.ifNo X101.here hx rfl (hb hby (own_d D_inB 2 rfl)) rfl ((if0 _ _).trans (teq (by decide : ((0 : Int32) = (0 : Int32)))).2) ?_
    show Steps pP.tables e below (T101.setTop (mkF m 7 #[.val (.ref sb), .unset] [])) _
    exact X101.returnOut hx Bd.returns (hb hby (own_d D_inB 3 rfl)) hrE
  · show Q_inB h0 n0 _ T101.heap _
    rw [eq101]
    exact ⟨rfl, N101, rfl⟩
theorem D_ifB : ∀ q ∈ ([(0, .getstatic 18, 3), (3, .ifCond .eq 18, 3), (6, .aload_n 0, 1), (7, .getfield 22, 3), (10, .aload_n 1, 1), (11, .invokevirtual 40, 3), (14, .if_icmp .eq 7, 3), (17, .aload_n 0, 1), (18, .invokevirtual 195, 3), (21, .return_, 1)] : List (Nat × Instr × Nat)), decode jdk_68_method_71_code q.1 = .ok q.2 := by decide +kernel
theorem ef_rm_ifB (m : MethodId) (x0 : Addr) (x1 : Addr) : entryFrame m #[(.ref x0), (.ref x1)] 2 = mkF m 0 #[.val (.ref x0), .val (.ref x1)] [] := by first | (simp [entryFrame, mkF, argsToLocals, Value.category]; done) | rfl
theorem rm_ifB (l : Launch) (Z : State) (a0 : Array Value) (hw : ∀ d ∈ tables_1, d.before a0 Z = true) (ws : List Jvm.Cond) (sb x : Addr) (G1 : Int32) (h0 : Heap) (n0 : Nat) (Z0 : n0 ≤ h0.size) (O2 : Sta Z Z.heap "java/lang/String" "COMPACT_STRINGS" "Z" (.int G1)) (P5 : ¬ (G1 = (0 : Int32))) (X00 : Old Z n0 h0) (E_sb : Exa Z h0 sb "java/lang/StringBuilder") (F_sc : Fld Z h0 sb "java/lang/AbstractStringBuilder" "coder" "B" (.int 1)) (E_x : Exa Z h0 x "java/lang/String") (F_c : Fld Z h0 x "java/lang/String" "coder" "B" (.int 0)) :
    MetFree l y_45 (head1 (Jvm.Cond.code y_45 jdk_68_method_71_code 2 none :: ws) r_12) (fun αs U => αs = #[(.ref sb), (.ref x)] ∧ Z.Warmed39 U.vm ∧ U.heap = h0) (fun _ _ _ _ _ => True) (fun _ Us oS Us' => ∃ vR LR, oS = .returned vR ∧ Q_inB h0 n0 vR Us'.heap LR ∧ FrameEnd Us oS Us' LR r_12.cells r_12.slots) := by
  refine MetFree.of_bodySF (plainFor_of_name pno_6) hisR ?_
  intro pP e s m args below meth cC s₁ Bd hml0 hP hK
  obtain ⟨rfl, hZ, hh⟩ := hP
  have hx := Bd.exec
  have W := own_W hw
  have hby := Bd.bytes
  have hml : cC.maxLocals = 2 := hml0
  have hown : s.vm.findClass "java/lang/AbstractStringBuilder" = some m.cls := findClass_of_methodNamed Bd.named
  have hnm := (name_of_methodNamed Bd.named Bd.method).1
  have X0 : Stand pP l e r_12 s m #[(.ref sb), (.ref x)] below meth cC s₁ [] 0 0 := Stand.of_body Bd
  have e0 : s₁.heap = h0 := by rw [← hh, Bd.state]; rfl
  have N0 := Fr.nil n0
  have KC0 : Keep h0 h0 [] := Keep.refl h0 _
  obtain ⟨A0, hA0⟩ : ∃ ζ, ζ = s₁.setTop (entryFrame m #[(.ref sb), (.ref x)] 2) := ⟨_, rfl⟩
  have pre0 : own_go pP e below A0 (s₁.setTop (mkF m 0 #[.val (.ref sb), .val (.ref x)] [])) := fun τ κ => by rw [hA0]; exact castTop (ef_rm_ifB m sb x) κ
  obtain ⟨T101, X101, e101, st101⟩ := getS2 X0 hx hZ hown (host := "") (Or.inl (W 98 rfl)) Via.refl e0 (O2.ext X00.2) (g := (mkF m 0 #[.val (.ref sb), .val (.ref x)] [])) rfl (hb hby (own_d D_ifB 0 rfl))
  have pq102 : own_go pP e below A0 (T101.setTop (mkF m 3 #[.val (.ref sb), .val (.ref x)] [(.int G1)])) := by
    intro τ κ
    refine pre0 τ ?_
    refine st101 _ ?_
    exact κ
  obtain ⟨T103, X103, e103, st103⟩ := getF X101 hx hZ hown (host := "") (Or.inl (W 101 rfl)) Via.refl e101 F_sc (g := (mkF m 7 #[.val (.ref sb), .val (.ref x)] [(.ref sb)])) rfl rfl (hb hby (own_d D_ifB 3 rfl))
  have pq104 : own_go pP e below A0 (T103.setTop (mkF m 10 #[.val (.ref sb), .val (.ref x)] [(.int (1 : Int32))])) := by
    intro τ κ
    refine pq102 τ ?_
    refine XS.ifNo X101.here hx rfl (hb hby (own_d D_ifB 1 rfl)) rfl ((if0 _ _).trans (feq P5).1) ?_
    refine XS.aloadN X101.here hx rfl (hb hby (own_d D_ifB 2 rfl)) rfl rfl ?_
    refine st103 _ ?_
    exact κ
  obtain ⟨cq106, kq106, q106a, q106b, q106c⟩ := isOf hZ e103 E_x
  obtain ⟨_, _, ⟨T105, L105, k105, n105⟩, -, X105, ⟨Lc105, hQ105, l105, y105, z105⟩, st105⟩ := X103.virtualBack hx (y := y_6) (z := y_6) hown (mvT hZ (W 212 rfl)) (mvT hZ (W 76 rfl)) (notFace_of_selects (args := #[]) (mvT hZ (W 78 rfl))) (mvT hZ (W 78 rfl)) (mvT hZ (W 77 rfl)) (by decide) (backOf (W := 1) (rm_cod0 l Z a0 hw [] x G1 h0 n0 Z0 O2 P5 X00 F_c) hZ (W 79 rfl) (W 13 rfl) (by decide) (by decide)) q106a q106c (g := (mkF m 11 #[.val (.ref sb), .val (.ref x)] [(.ref x), (.int (1 : Int32))])) rfl (by rw [hml]; rfl) (Steps.refl _) (argsL := []) (rest := [(.int (1 : Int32))]) (lenOf pdo_2 rfl) rfl (Nat.le_of_eq rfl) (hb hby (own_d D_ifB 5 rfl)) (fun _ _ => ⟨rfl, e103, (by decide : 0 + 0 ≤ _), (by decide : 0 + 0 ≤ _)⟩)
  dsimp only [Pt.U, Pt.locs, Pt.cells, Pt.slots] at X105 l105 y105 z105 st105 hQ105
  subst l105 y105 z105
  obtain ⟨rfl, Nq105, eq105⟩ := hQ105
  have N105 := Fr.app N0 Nq105
  have pq107 : own_go pP e below A0 (T105.setTop (mkF m 14 #[.val (.ref sb), .val (.ref x)] [(.int (0 : Int32)), (.int (1 : Int32))])) := by
    intro τ κ
    refine pq104 τ ?_
    refine XS.aloadN X103.here hx rfl (hb hby (own_d D_ifB 4 rfl)) rfl rfl ?_
    refine st105.trans ?_
    exact κ
  obtain ⟨cq109, kq109, q109a, q109b, q109c⟩ := isOf hZ eq105 E_sb
  obtain ⟨_, _, ⟨T108, L108, k108, n108⟩, -, X108, ⟨Lc108, hQ108, l108, y108, z108⟩, st108⟩ := X105.virtualBack hx (y := y_44) (z := y_44) hown (mvT hZ (W 213 rfl)) (mvT hZ (own_declares (W 214 rfl) (W 217 rfl))) (notFace_of_selects (args := #[]) (mvT hZ (W 216 rfl))) (mvT hZ (W 216 rfl)) (mvT hZ (W 214 rfl)) (by decide) (backOf (W := 0) (rm_inB l Z a0 hw [] sb G1 h0 n0 Z0 O2 P5 X00 E_sb F_sc) hZ (W 217 rfl) (W 95 rfl) (by decide) (by decide)) q109a q109c (g := (mkF m 18 #[.val (.ref sb), .val (.ref x)] [(.ref sb)])) rfl (by rw [hml]; rfl) (Steps.refl _) (argsL := []) (rest := []) (lenOf pdo_27 rfl) rfl (Nat.le_of_eq rfl) (hb hby (own_d D_ifB 8 rfl)) (fun _ _ => ⟨rfl, eq105, (by decide : 0 + 0 ≤ _), (by decide : 0 + 0 ≤ _)⟩)
  dsimp only [Pt.U, Pt.locs, Pt.cells, Pt.slots] at X108 l108 y108 z108 st108 hQ108
  subst l108 y108 z108
  obtain ⟨rfl, Nq108, eq108⟩ := hQ108
  have N108 := Fr.app N105 Nq108
  have pq110 : own_go pP e below A0 (T108.setTop (mkF m 21 #[.val (.ref sb), .val (.ref x)] [])) := by
    intro τ κ
    refine pq107 τ ?_
    refine XS.icmpNo X105.here hx rfl (hb hby (own_d D_ifB 6 rfl)) rfl (feq (by decide : ¬ ((1 : Int32) = (0 : Int32)))).1 ?_
    refine XS.aloadN X105.here hx rfl (hb hby (own_d D_ifB 7 rfl)) rfl rfl ?_
    refine st108.trans ?_
    exact κ
  obtain ⟨fs, hrE, hrun, hended, hW, hsame⟩ := X108.leave (v := none) (fun _ => rfl)
  have pqE := pq110
  rw [hA0] at pqE
  refine ⟨_, _, pqE _ ?_, hrun, hended, _, _, rfl, ?_, ⟨_, rfl⟩, hW, hsame.mono (by decide) (by decide)⟩
  · show Steps pP.tables e below (T108.setTop (mkF m 21 #[.val (.ref sb), .val (.ref x)] [])) _
    exact X108.returnOut hx Bd.returns (hb hby (own_d D_ifB 9 rfl)) hrE
  · show Q_inB h0 n0 _ T108.heap _
    rw [eq108]
    exact ⟨rfl, N108, rfl⟩
def Q_psa (Z : State) (sb : Addr) (vs : List Value) (cs : List Int32) (h0 : Heap) (n0 : Nat) (v : Option Value) (h : Heap) (L : List Loc) : Prop := ∃ (u : Addr) (ku : ClassId), v = none ∧ Fr n0 L ∧ Keep h0 h [sb] ∧ h0.size ≤ u ∧ Exa Z h sb "java/lang/StringBuilder" ∧ Fld Z h sb "java/lang/AbstractStringBuilder" "value" "[B" (.ref u) ∧ Fld Z h sb "java/lang/AbstractStringBuilder" "coder" "B" (.int 1) ∧ Fld Z h sb "java/lang/AbstractStringBuilder" "count" "I" (.int 0) ∧ Fld Z h sb "java/lang/AbstractStringBuilder" "maybeLatin1" "Z" (.int 0) ∧ Arv Z h u ku .byte (Int32.ofNat (2 * 40)) (own_cp vs (2 * (cs).length)) (.int 0)
def Q_apa (Z : State) (sb : Addr) (vs : List Value) (cs : List Int32) (h0 : Heap) (n0 : Nat) (v : Option Value) (h : Heap) (L : List Loc) : Prop := ∃ (u : Addr) (ku : ClassId), v = some (.ref sb) ∧ Fr n0 L ∧ Keep h0 h [sb] ∧ h0.size ≤ u ∧ Exa Z h sb "java/lang/StringBuilder" ∧ Fld Z h sb "java/lang/AbstractStringBuilder" "value" "[B" (.ref u) ∧ Fld Z h sb "java/lang/AbstractStringBuilder" "coder" "B" (.int 1) ∧ Fld Z h sb "java/lang/AbstractStringBuilder" "count" "I" (.int 40) ∧ Fld Z h sb "java/lang/AbstractStringBuilder" "maybeLatin1" "Z" (.int 0) ∧ Arv Z h u ku .byte (Int32.ofNat (2 * 40)) (own_cp vs (2 * (cs).length)) (.int 0)
theorem D_psa : ∀ q ∈ ([(0, .aload_n 0, 1), (1, .aload_n 2, 1), (2, .invokevirtual 397, 3), (5, .aload_n 2, 1), (6, .aload_n 0, 1), (7, .getfield 15, 3), (10, .iload_n 1, 1), (11, .aload_n 0, 1), (12, .getfield 22, 3), (15, .invokevirtual 399, 3), (18, .return_, 1)] : List (Nat × Instr × Nat)), decode jdk_68_method_73_code q.1 = .ok q.2 := by decide +kernel
theorem ef_rm_psa (m : MethodId) (x0 : Addr) (x1 : Int32) (x2 : Addr) : entryFrame m #[(.ref x0), (.int x1), (.ref x2)] 3 = mkF m 0 #[.val (.ref x0), .val (.int x1), .val (.ref x2)] [] := by first | (simp [entryFrame, mkF, argsToLocals, Value.category]; done) | rfl
theorem rm_psa (l : Launch) (Z : State) (a0 : Array Value) (hw : ∀ d ∈ tables_1, d.before a0 Z = true) (ws : List Jvm.Cond) (x t : Addr) (kb : ClassId) (cs : List Int32) (vs : List Value) (sb vb : Addr) (kv : ClassId) (ws_ : List Value) (G1 : Int32) (G3 : Value) (h0 : Heap) (n0 : Nat) (Z0 : n0 ≤ h0.size) (O2 : Sta Z Z.heap "java/lang/String" "COMPACT_STRINGS" "Z" (.int G1)) (P5 : ¬ (G1 = (0 : Int32))) (X00 : Old Z n0 h0) (O4 : Sta Z Z.heap "jdk/internal/util/Preconditions" "SIOOBE_FORMATTER" "Ljava/util/function/BiFunction;" G3) (rG3 : G3.isRef = true) (E_x : Exa Z h0 x "java/lang/String") (F_c : Fld Z h0 x "java/lang/String" "coder" "B" (.int 1)) (F_v : Fld Z h0 x "java/lang/String" "value" "[B" (.ref t)) (V_t : Arv Z h0 t kb .byte (Int32.ofNat (2 * (cs).length)) vs (.int 0)) (hu : own_u16 vs cs) (hd : (cs).length = 40) (E_sb : Exa Z h0 sb "java/lang/StringBuilder") (F_sv : Fld Z h0 sb "java/lang/AbstractStringBuilder" "value" "[B" (.ref vb)) (F_sc : Fld Z h0 sb "java/lang/AbstractStringBuilder" "coder" "B" (.int 0)) (F_sn : Fld Z h0 sb "java/lang/AbstractStringBuilder" "count" "I" (.int 0)) (F_sm : Fld Z h0 sb "java/lang/AbstractStringBuilder" "maybeLatin1" "Z" (.int 0)) (V_b : Arv Z h0 vb kv .byte (Int32.ofNat 40) ws_ (.int 0)) (gsb : n0 ≤ sb) :
    MetFree l y_46 (head1 (Jvm.Cond.code y_46 jdk_68_method_73_code 3 none :: ws) r_31) (fun αs U => αs = #[(.ref sb), (.int (0 : Int32)), (.ref x)] ∧ Z.Warmed39 U.vm ∧ U.heap = h0) (fun _ _ _ _ _ => True) (fun _ Us oS Us' => ∃ vR LR, oS = .returned vR ∧ Q_psa Z sb vs cs h0 n0 vR Us'.heap LR ∧ FrameEnd Us oS Us' LR r_31.cells r_31.slots) := by
  refine MetFree.of_bodySF (plainFor_of_name pno_6) hisR ?_
  intro pP e s m args below meth cC s₁ Bd hml0 hP hK
  obtain ⟨rfl, hZ, hh⟩ := hP
  have hx := Bd.exec
  have W := own_W hw
  have hby := Bd.bytes
  have hml : cC.maxLocals = 3 := hml0
  have hown : s.vm.findClass "java/lang/AbstractStringBuilder" = some m.cls := findClass_of_methodNamed Bd.named
  have hnm := (name_of_methodNamed Bd.named Bd.method).1
  have X0 : Stand pP l e r_31 s m #[(.ref sb), (.int (0 : Int32)), (.ref x)] below meth cC s₁ [] 0 0 := Stand.of_body Bd
  have e0 : s₁.heap = h0 := by rw [← hh, Bd.state]; rfl
  have N0 := Fr.nil n0
  have KC0 : Keep h0 h0 [sb] := Keep.refl h0 _
  obtain ⟨A0, hA0⟩ : ∃ ζ, ζ = s₁.setTop (entryFrame m #[(.ref sb), (.int (0 : Int32)), (.ref x)] 3) := ⟨_, rfl⟩
  have pre0 : own_go pP e below A0 (s₁.setTop (mkF m 0 #[.val (.ref sb), .val (.int (0 : Int32)), .val (.ref x)] [])) := fun τ κ => by rw [hA0]; exact castTop (ef_rm_psa m sb (0 : Int32) x) κ
  obtain ⟨cq102, kq102, q102a, q102b, q102c⟩ := isOf hZ e0 E_sb
  obtain ⟨_, _, ⟨T101, L101, k101, n101⟩, -, X101, ⟨Lc101, hQ101, l101, y101, z101⟩, st101⟩ := X0.virtualBack hx (y := y_45) (z := y_45) hown (mvT hZ (W 207 rfl)) (mvT hZ (own_declares (W 208 rfl) (W 211 rfl))) (notFace_of_selects (args := #[]) (mvT hZ (W 210 rfl))) (mvT hZ (W 210 rfl)) (mvT hZ (W 208 rfl)) (by decide) (backOf (W := 0) (rm_ifA l Z a0 hw [] sb vb kv ws_ x G1 G3 h0 n0 Z0 O2 P5 X00 O4 rG3 E_sb F_sv F_sc F_sn F_sm V_b gsb E_x F_c) hZ (W 211 rfl) (W 95 rfl) (by decide) (by decide)) q102a q102c (g := (mkF m 2 #[.val (.ref sb), .val (.int (0 : Int32)), .val (.ref x)] [(.ref x), (.ref sb)])) rfl (by rw [hml]; rfl) (Steps.refl _) (argsL := [(.ref x)]) (rest := []) (lenOf pdo_28 rfl) rfl (Nat.le_of_eq rfl) (hb hby (own_d D_psa 2 rfl)) (fun _ _ => ⟨rfl, e0, (by decide : 0 + 1 ≤ _), (by decide : 0 + 200 ≤ _)⟩)
  dsimp only [Pt.U, Pt.locs, Pt.cells, Pt.slots] at X101 l101 y101 z101 st101 hQ101
  subst l101 y101 z101
  obtain ⟨u101, ku101, rfl, Nq101, K101, lb101, Ex101, Fv101, Fc101, Fn101, Fm101, V101⟩ := hQ101
  have N101 := Fr.app N0 Nq101
  have pq103 : own_go pP e below A0 (T101.setTop (mkF m 5 #[.val (.ref sb), .val (.int (0 : Int32)), .val (.ref x)] [])) := by
    intro τ κ
    refine pre0 τ ?_
    refine XS.aloadN X0.here hx rfl (hb hby (own_d D_psa 0 rfl)) rfl rfl ?_
    refine XS.aloadN X0.here hx rfl (hb hby (own_d D_psa 1 rfl)) rfl rfl ?_
    refine st101.trans ?_
    exact κ
  have KC101 := KC0.trans K101 (allS (Or.inl (List.mem_of_getElem? (i := 0) rfl)) all0)
  obtain ⟨T104, X104, e104, st104⟩ := getF X101 hx hZ hown (host := "") (Or.inl (W 99 rfl)) Via.refl rfl Fv101 (g := (mkF m 7 #[.val (.ref sb), .val (.int (0 : Int32)), .val (.ref x)] [(.ref sb), (.ref x)])) rfl rfl (hb hby (own_d D_psa 5 rfl))
  have pq105 : own_go pP e below A0 (T104.setTop (mkF m 10 #[.val (.ref sb), .val (.int (0 : Int32)), .val (.ref x)] [(.ref u101), (.ref x)])) := by
    intro τ κ
    refine pq103 τ ?_
    refine XS.aloadN X101.here hx rfl (hb hby (own_d D_psa 3 rfl)) rfl rfl ?_
    refine XS.aloadN X101.here hx rfl (hb hby (own_d D_psa 4 rfl)) rfl rfl ?_
    refine st104 _ ?_
    exact κ
  obtain ⟨T106, X106, e106, st106⟩ := getF X104 hx hZ hown (host := "") (Or.inl (W 101 rfl)) Via.refl e104 Fc101 (g := (mkF m 12 #[.val (.ref sb), .val (.int (0 : Int32)), .val (.ref x)] [(.ref sb), (.int (0 : Int32)), (.ref u101), (.ref x)])) rfl rfl (hb hby (own_d D_psa 8 rfl))
  have pq107 : own_go pP e below A0 (T106.setTop (mkF m 15 #[.val (.ref sb), .val (.int (0 : Int32)), .val (.ref x)] [(.int (1 : Int32)), (.int (0 : Int32)), (.ref u101), (.ref x)])) := by
    intro τ κ
    refine pq105 τ ?_
    refine XS.iloadN X104.here hx rfl (hb hby (own_d D_psa 6 rfl)) rfl ?_
    refine XS.aloadN X104.here hx rfl (hb hby (own_d D_psa 7 rfl)) rfl rfl ?_
    refine st106 _ ?_
    exact κ
  have f108 := (X00.keep K101 (allS gsb all0))
  have f109 := (E_x.keep K101)
  have f110 := (F_c.keep K101 (ninS (ne_exa E_x E_sb (by decide)) nin0))
  have f111 := (F_v.keep K101 (ninS (ne_exa E_x E_sb (by decide)) nin0))
  have f112 := (V_t.keep K101 (ninS (Ne.symm (own_ne_arv E_sb (W 86 rfl) V_t)) nin0))
  have f113 := (Nat.le_trans Z0 K101.1)
  obtain ⟨cq115, kq115, q115a, q115b, q115c⟩ := isOf hZ e106 f109
  obtain ⟨_, _, ⟨T114, L114, k114, n114⟩, -, X114, ⟨Lc114, hQ114, l114, y114, z114⟩, st114⟩ := X106.virtualBack hx (y := y_43) (z := y_43) hown (mvT hZ (W 231 rfl)) (mvT hZ (W 232 rfl)) (notFace_of_selects (args := #[]) (mvT hZ (W 234 rfl))) (mvT hZ (W 234 rfl)) (mvT hZ (W 233 rfl)) (by decide) (backOf (W := 0) (rm_gba l Z a0 hw [] x t kb cs vs u101 ku101 G1 T101.heap n0 f113 O2 P5 f108 f109 f110 f111 f112 hu V101 (Nat.le_trans Z0 lb101) (Nat.ne_of_lt (Nat.lt_of_lt_of_le V_t.lt lb101)) hd) hZ (W 235 rfl) (W 13 rfl) (by decide) (by decide)) q115a q115c (g := (mkF m 15 #[.val (.ref sb), .val (.int (0 : Int32)), .val (.ref x)] [(.int (1 : Int32)), (.int (0 : Int32)), (.ref u101), (.ref x)])) rfl (by rw [hml]; rfl) (Steps.refl _) (argsL := [(.ref u101), (.int (0 : Int32)), (.int (1 : Int32))]) (rest := []) (lenOf pdo_29 rfl) rfl (Nat.le_of_eq rfl) (hb hby (own_d D_psa 9 rfl)) (fun _ _ => ⟨rfl, e106, (by decide : 1 + 0 ≤ _), (by decide : 200 + 0 ≤ _)⟩)
  dsimp only [Pt.U, Pt.locs, Pt.cells, Pt.slots] at X114 l114 y114 z114 st114 hQ114
  subst l114 y114 z114
  obtain ⟨rfl, Nq114, K114, V114⟩ := hQ114
  have N114 := Fr.app N101 Nq114
  have pq116 : own_go pP e below A0 (T114.setTop (mkF m 18 #[.val (.ref sb), .val (.int (0 : Int32)), .val (.ref x)] [])) := by
    intro τ κ
    refine pq107 τ ?_
    refine st114.trans ?_
    exact κ
  have KC114 := KC101.trans K114 (allS (Or.inr (Nat.le_trans (Nat.le_refl _) lb101)) all0)
  have f117 := (Ex101.keep K114)
  have f118 := (Fv101.keep K114 (ninS (Nat.ne_of_lt (Nat.lt_of_lt_of_le E_sb.lt lb101)) nin0))
  have f119 := (Fc101.keep K114 (ninS (Nat.ne_of_lt (Nat.lt_of_lt_of_le E_sb.lt lb101)) nin0))
  have f120 := (Fn101.keep K114 (ninS (Nat.ne_of_lt (Nat.lt_of_lt_of_le E_sb.lt lb101)) nin0))
  have f121 := (Fm101.keep K114 (ninS (Nat.ne_of_lt (Nat.lt_of_lt_of_le E_sb.lt lb101)) nin0))
  obtain ⟨fs, hrE, hrun, hended, hW, hsame⟩ := X114.leave (v := none) (fun _ => rfl)
  have pqE := pq116
  rw [hA0] at pqE
  refine ⟨_, _, pqE _ ?_, hrun, hended, _, _, rfl, ?_, ⟨_, rfl⟩, hW, hsame.mono (by decide) (by decide)⟩
  · show Steps pP.tables e below (T114.setTop (mkF m 18 #[.val (.ref sb), .val (.int (0 : Int32)), .val (.ref x)] [])) _
    exact X114.returnOut hx Bd.returns (hb hby (own_d D_psa 10 rfl)) hrE
  · show Q_psa Z sb vs cs h0 n0 _ T114.heap _
    exact ⟨u101, _, rfl, N114, KC114, (Nat.le_trans (Nat.le_refl _) lb101), f117, f118, f119, f120, f121, V114⟩
theorem D_apa : ∀ q ∈ ([(0, .aload_n 1, 1), (1, .ifnonnull 8, 3), (9, .aload_n 1, 1), (10, .invokevirtual 32, 3), (13, .istore_n 2, 1), (14, .aload_n 0, 1), (15, .aload_n 0, 1), (16, .getfield 79, 3), (19, .iload_n 2, 1), (20, .iadd, 1), (21, .invokevirtual 100, 3), (24, .aload_n 0, 1), (25, .aload_n 0, 1), (26, .getfield 79, 3), (29, .aload_n 1, 1), (30, .invokevirtual 208, 3), (33, .aload_n 0, 1), (34, .dup, 1), (35, .getfield 79, 3), (38, .iload_n 2, 1), (39, .iadd, 1), (40, .putfield 79, 3), (43, .aload_n 0, 1), (44, .areturn, 1)] : List (Nat × Instr × Nat)), decode jdk_68_method_22_code q.1 = .ok q.2 := by decide +kernel
theorem ef_rm_apa (m : MethodId) (x0 : Addr) (x1 : Addr) : entryFrame m #[(.ref x0), (.ref x1)] 3 = mkF m 0 #[.val (.ref x0), .val (.ref x1), .unset] [] := by first | (simp [entryFrame, mkF, argsToLocals, Value.category]; done) | rfl
theorem rm_apa (l : Launch) (Z : State) (a0 : Array Value) (hw : ∀ d ∈ tables_1, d.before a0 Z = true) (ws : List Jvm.Cond) (x t : Addr) (kb : ClassId) (cs : List Int32) (vs : List Value) (sb vb : Addr) (kv : ClassId) (ws_ : List Value) (G1 : Int32) (G3 : Value) (h0 : Heap) (n0 : Nat) (Z0 : n0 ≤ h0.size) (O2 : Sta Z Z.heap "java/lang/String" "COMPACT_STRINGS" "Z" (.int G1)) (P5 : ¬ (G1 = (0 : Int32))) (X00 : Old Z n0 h0) (O4 : Sta Z Z.heap "jdk/internal/util/Preconditions" "SIOOBE_FORMATTER" "Ljava/util/function/BiFunction;" G3) (rG3 : G3.isRef = true) (E_x : Exa Z h0 x "java/lang/String") (F_c : Fld Z h0 x "java/lang/String" "coder" "B" (.int 1)) (F_v : Fld Z h0 x "java/lang/String" "value" "[B" (.ref t)) (V_t : Arv Z h0 t kb .byte (Int32.ofNat (2 * (cs).length)) vs (.int 0)) (hu : own_u16 vs cs) (hd : (cs).length = 40) (E_sb : Exa Z h0 sb "java/lang/StringBuilder") (F_sv : Fld Z h0 sb "java/lang/AbstractStringBuilder" "value" "[B" (.ref vb)) (F_sc : Fld Z h0 sb "java/lang/AbstractStringBuilder" "coder" "B" (.int 0)) (F_sn : Fld Z h0 sb "java/lang/AbstractStringBuilder" "count" "I" (.int 0)) (F_sm : Fld Z h0 sb "java/lang/AbstractStringBuilder" "maybeLatin1" "Z" (.int 0)) (V_b : Arv Z h0 vb kv .byte (Int32.ofNat 16) ws_ (.int 0)) (gsb : n0 ≤ sb) :
    MetFree l y_47 (head1 (Jvm.Cond.code y_47 jdk_68_method_22_code 3 (some (.object "java/lang/AbstractStringBuilder")) :: ws) r_32) (fun αs U => αs = #[(.ref sb), (.ref x)] ∧ Z.Warmed39 U.vm ∧ U.heap = h0) (fun _ _ _ _ _ => True) (fun _ Us oS Us' => ∃ vR LR, oS = .returned vR ∧ Q_apa Z sb vs cs h0 n0 vR Us'.heap LR ∧ FrameEnd Us oS Us' LR r_32.cells r_32.slots) := by
  refine MetFree.of_bodySF (plainFor_of_name pno_6) hisR ?_
  intro pP e s m args below meth cC s₁ Bd hml0 hP hK
  obtain ⟨rfl, hZ, hh⟩ := hP
  have hx := Bd.exec
  have W := own_W hw
  have hby := Bd.bytes
  have hml : cC.maxLocals = 3 := hml0
  have hown : s.vm.findClass "java/lang/AbstractStringBuilder" = some m.cls := findClass_of_methodNamed Bd.named
  have hnm := (name_of_methodNamed Bd.named Bd.method).1
  have X0 : Stand pP l e r_32 s m #[(.ref sb), (.ref x)] below meth cC s₁ [] 0 0 := Stand.of_body Bd
  have e0 : s₁.heap = h0 := by rw [← hh, Bd.state]; rfl
  have N0 := Fr.nil n0
  have KC0 : Keep h0 h0 [sb] := Keep.refl h0 _
  obtain ⟨A0, hA0⟩ : ∃ ζ, ζ = s₁.setTop (entryFrame m #[(.ref sb), (.ref x)] 3) := ⟨_, rfl⟩
  have pre0 : own_go pP e below A0 (s₁.setTop (mkF m 0 #[.val (.ref sb), .val (.ref x), .unset] [])) := fun τ κ => by rw [hA0]; exact castTop (ef_rm_apa m sb x) κ
  obtain ⟨cq102, kq102, q102a, q102b, q102c⟩ := isOf hZ e0 E_x
  obtain ⟨_, _, ⟨T101, L101, k101, n101⟩, -, X101, ⟨Lc101, hQ101, l101, y101, z101⟩, st101⟩ := X0.virtualBack hx (y := y_8) (z := y_8) hown (mvT hZ (W 177 rfl)) (mvT hZ (W 71 rfl)) (notFace_of_selects (args := #[]) (mvT hZ (W 73 rfl))) (mvT hZ (W 73 rfl)) (mvT hZ (W 72 rfl)) (by decide) (backOf (W := 0) (rm_lenU l Z a0 hw [] x t kb cs vs G1 h0 n0 Z0 O2 P5 X00 E_x F_c F_v V_t hu (by omega)) hZ (W 74 rfl) (W 13 rfl) (by decide) (by decide)) q102a q102c (g := (mkF m 10 #[.val (.ref sb), .val (.ref x), .unset] [(.ref x)])) rfl (by rw [hml]; rfl) (Steps.refl _) (argsL := []) (rest := []) (lenOf pdo_11 rfl) rfl (Nat.le_of_eq rfl) (hb hby (own_d D_apa 3 rfl)) (fun _ _ => ⟨rfl, e0, (by decide : 0 + 0 ≤ _), (by decide : 0 + 0 ≤ _)⟩)
  dsimp only [Pt.U, Pt.locs, Pt.cells, Pt.slots] at X101 l101 y101 z101 st101 hQ101
  subst l101 y101 z101
  obtain ⟨rfl, Nq101, eq101⟩ := hQ101
  have N101 := Fr.app N0 Nq101
  have pq103 : own_go pP e below A0 (T101.setTop (mkF m 13 #[.val (.ref sb), .val (.ref x), .unset] [(.int (Int32.ofNat (cs).length))])) := by
    intro τ κ
    refine pre0 τ ?_
    refine XS.aloadN X0.here hx rfl (hb hby (own_d D_apa 0 rfl)) rfl rfl ?_
    refine XS.ifnonnullYes X0.here hx rfl (pc0 := 1) (pc' := 9) rfl (hb hby (own_d D_apa 1 rfl)) rfl (by decide) (by decide) ?_
    refine XS.aloadN X0.here hx rfl (hb hby (own_d D_apa 2 rfl)) rfl rfl ?_
    refine st101.trans ?_
    exact κ
  have pq104 : own_go pP e below A0 (T101.setTop (mkF m 13 #[.val (.ref sb), .val (.ref x), .unset] [(.int (40 : Int32))])) := by intro τ κ; refine pq103 τ ?_; rw [show (Int32.ofNat (cs).length) = (40 : Int32) from (by rw [hd]; rfl)]; exact κ
  obtain ⟨T105, X105, e105, st105⟩ := getF X101 hx hZ hown (host := "") (Or.inl (W 178 rfl)) Via.refl eq101 F_sn (g := (mkF m 16 #[.val (.ref sb), .val (.ref x), .val (.int (40 : Int32))] [(.ref sb), (.ref sb)])) rfl rfl (hb hby (own_d D_apa 7 rfl))
  have pq106 : own_go pP e below A0 (T105.setTop (mkF m 19 #[.val (.ref sb), .val (.ref x), .val (.int (40 : Int32))] [(.int (0 : Int32)), (.ref sb)])) := by
    intro τ κ
    refine pq104 τ ?_
    refine XS.istoreN X101.here hx rfl (hb hby (own_d D_apa 4 rfl)) rfl (l' := #[.val (.ref sb), .val (.ref x), .val (.int (40 : Int32))]) rfl ?_
    refine XS.aloadN X101.here hx rfl (hb hby (own_d D_apa 5 rfl)) rfl rfl ?_
    refine XS.aloadN X101.here hx rfl (hb hby (own_d D_apa 6 rfl)) rfl rfl ?_
    refine st105 _ ?_
    exact κ
  obtain ⟨cq108, kq108, q108a, q108b, q108c⟩ := isOf hZ e105 E_sb
  obtain ⟨_, _, ⟨T107, L107, k107, n107⟩, -, X107, ⟨Lc107, hQ107, l107, y107, z107⟩, st107⟩ := X105.virtualBack hx (y := y_40) (z := y_40) hown (mvT hZ (W 180 rfl)) (mvT hZ (own_declares (W 181 rfl) (W 184 rfl))) (notFace_of_selects (args := #[]) (mvT hZ (W 183 rfl))) (mvT hZ (W 183 rfl)) (mvT hZ (W 181 rfl)) (by decide) (backOf (W := 0) (rm_ena l Z a0 hw [] sb vb kv ws_ h0 n0 Z0 E_sb F_sv F_sc F_sn F_sm V_b gsb) hZ (W 184 rfl) (W 95 rfl) (by decide) (by decide)) q108a q108c (g := (mkF m 21 #[.val (.ref sb), .val (.ref x), .val (.int (40 : Int32))] [(.int (40 : Int32)), (.ref sb)])) rfl (by rw [hml]; rfl) (Steps.refl _) (argsL := [(.int (40 : Int32))]) (rest := []) (lenOf pdo_24 rfl) rfl (Nat.le_of_eq rfl) (hb hby (own_d D_apa 10 rfl)) (fun _ _ => ⟨rfl, e105, (by decide : 0 + 1 ≤ _), (by decide : 0 + 400 ≤ _)⟩)
  dsimp only [Pt.U, Pt.locs, Pt.cells, Pt.slots] at X107 l107 y107 z107 st107 hQ107
  subst l107 y107 z107
  obtain ⟨u107, ku107, rfl, Nq107, K107, lb107, Ex107, Fv107, Fc107, Fn107, Fm107, V107⟩ := hQ107
  have N107 := Fr.app N101 Nq107
  have pq109 : own_go pP e below A0 (T107.setTop (mkF m 24 #[.val (.ref sb), .val (.ref x), .val (.int (40 : Int32))] [])) := by
    intro τ κ
    refine pq106 τ ?_
    refine XS.iloadN X105.here hx rfl (hb hby (own_d D_apa 8 rfl)) rfl ?_
    refine XS.iadd X105.here hx rfl (hb hby (own_d D_apa 9 rfl)) rfl ?_
    refine st107.trans ?_
    exact κ
  have KC107 := KC0.trans K107 (allS (Or.inl (List.mem_of_getElem? (i := 0) rfl)) all0)
  obtain ⟨T110, X110, e110, st110⟩ := getF X107 hx hZ hown (host := "") (Or.inl (W 178 rfl)) Via.refl rfl Fn107 (g := (mkF m 26 #[.val (.ref sb), .val (.ref x), .val (.int (40 : Int32))] [(.ref sb), (.ref sb)])) rfl rfl (hb hby (own_d D_apa 13 rfl))
  have pq111 : own_go pP e below A0 (T110.setTop (mkF m 29 #[.val (.ref sb), .val (.ref x), .val (.int (40 : Int32))] [(.int (0 : Int32)), (.ref sb)])) := by
    intro τ κ
    refine pq109 τ ?_
    refine XS.aloadN X107.here hx rfl (hb hby (own_d D_apa 11 rfl)) rfl rfl ?_
    refine XS.aloadN X107.here hx rfl (hb hby (own_d D_apa 12 rfl)) rfl rfl ?_
    refine st110 _ ?_
    exact κ
  have f112 := (X00.keep K107 (allS gsb all0))
  have f113 := (E_x.keep K107)
  have f114 := (F_c.keep K107 (ninS (ne_exa E_x E_sb (by decide)) nin0))
  have f115 := (F_v.keep K107 (ninS (ne_exa E_x E_sb (by decide)) nin0))
  have f116 := (V_t.keep K107 (ninS (Ne.symm (own_ne_arv E_sb (W 86 rfl) V_t)) nin0))
  have f117 := (Nat.le_trans Z0 K107.1)
  obtain ⟨cq119, kq119, q119a, q119b, q119c⟩ := isOf hZ e110 Ex107
  obtain ⟨_, _, ⟨T118, L118, k118, n118⟩, -, X118, ⟨Lc118, hQ118, l118, y118, z118⟩, st118⟩ := X110.virtualBack hx (y := y_46) (z := y_46) hown (mvT hZ (W 202 rfl)) (mvT hZ (own_declares (W 203 rfl) (W 206 rfl))) (notFace_of_selects (args := #[]) (mvT hZ (W 205 rfl))) (mvT hZ (W 205 rfl)) (mvT hZ (W 203 rfl)) (by decide) (backOf (W := 0) (rm_psa l Z a0 hw [] x t kb cs vs sb u107 ku107 (own_cp ws_ (16)) G1 G3 T107.heap n0 f117 O2 P5 f112 O4 rG3 f113 f114 f115 f116 hu hd Ex107 Fv107 Fc107 Fn107 Fm107 V107 gsb) hZ (W 206 rfl) (W 95 rfl) (by decide) (by decide)) q119a q119c (g := (mkF m 30 #[.val (.ref sb), .val (.ref x), .val (.int (40 : Int32))] [(.ref x), (.int (0 : Int32)), (.ref sb)])) rfl (by rw [hml]; rfl) (Steps.refl _) (argsL := [(.int (0 : Int32)), (.ref x)]) (rest := []) (lenOf pdo_30 rfl) rfl (Nat.le_of_eq rfl) (hb hby (own_d D_apa 15 rfl)) (fun _ _ => ⟨rfl, e110, (by decide : 1 + 1 ≤ _), (by decide : 400 + 200 ≤ _)⟩)
  dsimp only [Pt.U, Pt.locs, Pt.cells, Pt.slots] at X118 l118 y118 z118 st118 hQ118
  subst l118 y118 z118
  obtain ⟨u118, ku118, rfl, Nq118, K118, lb118, Ex118, Fv118, Fc118, Fn118, Fm118, V118⟩ := hQ118
  have N118 := Fr.app N107 Nq118
  have pq120 : own_go pP e below A0 (T118.setTop (mkF m 33 #[.val (.ref sb), .val (.ref x), .val (.int (40 : Int32))] [])) := by
    intro τ κ
    refine pq111 τ ?_
    refine XS.aloadN X110.here hx rfl (hb hby (own_d D_apa 14 rfl)) rfl rfl ?_
    refine st118.trans ?_
    exact κ
  have KC118 := KC107.trans K118 (allS (Or.inl (List.mem_of_getElem? (i := 0) rfl)) all0)
  obtain ⟨T121, X121, e121, st121⟩ := getF X118 hx hZ hown (host := "") (Or.inl (W 178 rfl)) Via.refl rfl Fn118 (g := (mkF m 35 #[.val (.ref sb), .val (.ref x), .val (.int (40 : Int32))] [(.ref sb), (.ref sb)])) rfl rfl (hb hby (own_d D_apa 18 rfl))
  have pq122 : own_go pP e below A0 (T121.setTop (mkF m 38 #[.val (.ref sb), .val (.ref x), .val (.int (40 : Int32))] [(.int (0 : Int32)), (.ref sb)])) := by
    intro τ κ
    refine pq120 τ ?_
    refine XS.aloadN X118.here hx rfl (hb hby (own_d D_apa 16 rfl)) rfl rfl ?_
    refine XS.dup X118.here hx rfl (hb hby (own_d D_apa 17 rfl)) rfl rfl ?_
    refine st121 _ ?_
    exact κ
  obtain ⟨T123, h123, X123, e123, W123, st123⟩ := putF X121 hx hZ hown (host := "") (Or.inl (W 178 rfl)) Via.refl e121 Fn118 Ex118 (Or.inl (W 179 rfl)) (W 86 rfl) (ty := .int) (by decide) rfl rfl (g := (mkF m 40 #[.val (.ref sb), .val (.ref x), .val (.int (40 : Int32))] [(.int (40 : Int32)), (.ref sb)])) rfl rfl (hb hby (own_d D_apa 21 rfl))
  have pq124 : own_go pP e below A0 (T123.setTop (mkF m 43 #[.val (.ref sb), .val (.ref x), .val (.int (40 : Int32))] [])) := by
    intro τ κ
    refine pq122 τ ?_
    refine XS.iloadN X121.here hx rfl (hb hby (own_d D_apa 19 rfl)) rfl ?_
    refine XS.iadd X121.here hx rfl (hb hby (own_d D_apa 20 rfl)) rfl ?_
    refine st123 _ ?_
    exact κ
  have KC123 := KC118.wr W123 (Or.inl (List.mem_of_getElem? (i := 0) rfl))
  have Fw123 := Fn118.same W123
  have N123 := Fr.snoc X123 N118 gsb
  have f125 := (Ex118.wr W123)
  have f126 := (Fv118.other W123 (Or.inr (slot_ne (Or.inl (W 100 rfl)) (Or.inl (W 179 rfl)) (by decide) (t := (.array .byte)) (t' := .int) (by decide) (by decide))))
  have f127 := (Fc118.other W123 (Or.inr (slot_ne (Or.inl (W 102 rfl)) (Or.inl (W 179 rfl)) (by decide) (t := .byte) (t' := .int) (by decide) (by decide))))
  have f128 := (Fm118.other W123 (Or.inr (slot_ne (Or.inl (W 266 rfl)) (Or.inl (W 179 rfl)) (by decide) (t := .boolean) (t' := .int) (by decide) (by decide))))
  have f129 := (V118.other W123 (Ne.symm (Nat.ne_of_lt (Nat.lt_of_lt_of_le Ex107.lt lb118))))
  obtain ⟨fs, hrE, hrun, hended, hW, hsame⟩ := X123.leave (v := some (.ref sb)) (fun h => by rw [Bd.returns] at h; cases h)
  have pqE := pq124
  rw [hA0] at pqE
  refine ⟨_, _, pqE _ ?_, hrun, hended, _, _, rfl, ?_, ⟨_, rfl⟩, hW, hsame.mono (by decide) (by decide)⟩
  · refine XS.aloadN X123.here hx rfl (hb hby (own_d D_apa 22 rfl)) rfl rfl ?_
    show Steps pP.tables e below (T123.setTop (mkF m 44 #[.val (.ref sb), .val (.ref x), .val (.int (40 : Int32))] [(.ref sb)])) _
    exact retOut X123 hx Bd.returns rfl (Or.inr (Or.inr (Or.inr (Or.inr ⟨rfl, rfl, rfl⟩)))) (hb hby (own_d D_apa 23 rfl)) hrE
  · show Q_apa Z sb vs cs h0 n0 _ T123.heap _
    rw [e123]
    exact ⟨u118, _, rfl, N123, KC123, (Nat.le_trans (Nat.le_trans (Nat.le_refl _) K107.1) lb118), f125, f126, f127, Fw123, f128, f129⟩
theorem D_apA : ∀ q ∈ ([(0, .aload_n 0, 1), (1, .aload_n 1, 1), (2, .invokespecial 29, 3), (5, .pop, 1), (6, .aload_n 0, 1), (7, .areturn, 1)] : List (Nat × Instr × Nat)), decode jdk_67_method_7_code q.1 = .ok q.2 := by decide +kernel
theorem ef_rm_apA (m : MethodId) (x0 : Addr) (x1 : Addr) : entryFrame m #[(.ref x0), (.ref x1)] 2 = mkF m 0 #[.val (.ref x0), .val (.ref x1)] [] := by first | (simp [entryFrame, mkF, argsToLocals, Value.category]; done) | rfl
theorem rm_apA (l : Launch) (Z : State) (a0 : Array Value) (hw : ∀ d ∈ tables_1, d.before a0 Z = true) (ws : List Jvm.Cond) (x t : Addr) (kb : ClassId) (cs : List Int32) (vs : List Value) (sb vb : Addr) (kv : ClassId) (ws_ : List Value) (G1 : Int32) (G3 : Value) (h0 : Heap) (n0 : Nat) (Z0 : n0 ≤ h0.size) (O2 : Sta Z Z.heap "java/lang/String" "COMPACT_STRINGS" "Z" (.int G1)) (P5 : ¬ (G1 = (0 : Int32))) (X00 : Old Z n0 h0) (O4 : Sta Z Z.heap "jdk/internal/util/Preconditions" "SIOOBE_FORMATTER" "Ljava/util/function/BiFunction;" G3) (rG3 : G3.isRef = true) (E_x : Exa Z h0 x "java/lang/String") (F_c : Fld Z h0 x "java/lang/String" "coder" "B" (.int 1)) (F_v : Fld Z h0 x "java/lang/String" "value" "[B" (.ref t)) (V_t : Arv Z h0 t kb .byte (Int32.ofNat (2 * (cs).length)) vs (.int 0)) (hu : own_u16 vs cs) (hd : (cs).length = 40) (E_sb : Exa Z h0 sb "java/lang/StringBuilder") (F_sv : Fld Z h0 sb "java/lang/AbstractStringBuilder" "value" "[B" (.ref vb)) (F_sc : Fld Z h0 sb "java/lang/AbstractStringBuilder" "coder" "B" (.int 0)) (F_sn : Fld Z h0 sb "java/lang/AbstractStringBuilder" "count" "I" (.int 0)) (F_sm : Fld Z h0 sb "java/lang/AbstractStringBuilder" "maybeLatin1" "Z" (.int 0)) (V_b : Arv Z h0 vb kv .byte (Int32.ofNat 16) ws_ (.int 0)) (gsb : n0 ≤ sb) :
    MetFree l y_48 (head1 (Jvm.Cond.code y_48 jdk_67_method_7_code 2 (some (.object "java/lang/StringBuilder")) :: ws) r_33) (fun αs U => αs = #[(.ref sb), (.ref x)] ∧ Z.Warmed39 U.vm ∧ U.heap = h0) (fun _ _ _ _ _ => True) (fun _ Us oS Us' => ∃ vR LR, oS = .returned vR ∧ Q_apa Z sb vs cs h0 n0 vR Us'.heap LR ∧ FrameEnd Us oS Us' LR r_33.cells r_33.slots) := by
  refine MetFree.of_bodySF (plainFor_of_name pno_7) hisR ?_
  intro pP e s m args below meth cC s₁ Bd hml0 hP hK
  obtain ⟨rfl, hZ, hh⟩ := hP
  have hx := Bd.exec
  have W := own_W hw
  have hby := Bd.bytes
  have hml : cC.maxLocals = 2 := hml0
  have hown : s.vm.findClass "java/lang/StringBuilder" = some m.cls := findClass_of_methodNamed Bd.named
  have hnm := (name_of_methodNamed Bd.named Bd.method).1
  have X0 : Stand pP l e r_33 s m #[(.ref sb), (.ref x)] below meth cC s₁ [] 0 0 := Stand.of_body Bd
  have e0 : s₁.heap = h0 := by rw [← hh, Bd.state]; rfl
  have N0 := Fr.nil n0
  have KC0 : Keep h0 h0 [sb] := Keep.refl h0 _
  obtain ⟨A0, hA0⟩ : ∃ ζ, ζ = s₁.setTop (entryFrame m #[(.ref sb), (.ref x)] 2) := ⟨_, rfl⟩
  have pre0 : own_go pP e below A0 (s₁.setTop (mkF m 0 #[.val (.ref sb), .val (.ref x)] [])) := fun τ κ => by rw [hA0]; exact castTop (ef_rm_apA m sb x) κ
  obtain ⟨_, _, ⟨T101, L101, k101, n101⟩, -, X101, ⟨Lc101, hQ101, l101, y101, z101⟩, st101⟩ := superBack X0 hx (y := y_47) hZ hown (W 172 rfl) (own_sameM (n := "ensureCapacityInternal") (d := "(I)V") (W 173 rfl) (by decide) (W 183 rfl)) (W 173 rfl) (W 174 rfl) (by decide) (backOf (W := 0) (rm_apa l Z a0 hw [] x t kb cs vs sb vb kv ws_ G1 G3 h0 n0 Z0 O2 P5 X00 O4 rG3 E_x F_c F_v V_t hu hd E_sb F_sv F_sc F_sn F_sm V_b gsb) hZ (W 176 rfl) (W 95 rfl) (by decide) (by decide)) e0 (Ins.self E_sb) (g := (mkF m 2 #[.val (.ref sb), .val (.ref x)] [(.ref x), (.ref sb)])) rfl (by rw [hml]; rfl) (W 176 rfl) (argsL := [(.ref x)]) (rest := []) (lenOf pdo_31 rfl) rfl (Nat.le_of_eq rfl) (hb hby (own_d D_apA 2 rfl)) (fun _ _ => ⟨rfl, e0, (by decide : 0 + 2 ≤ _), (by decide : 0 + 600 ≤ _)⟩)
  dsimp only [Pt.U, Pt.locs, Pt.cells, Pt.slots] at X101 l101 y101 z101 st101 hQ101
  subst l101 y101 z101
  obtain ⟨u101, ku101, rfl, Nq101, K101, lb101, Ex101, Fv101, Fc101, Fn101, Fm101, V101⟩ := hQ101
  have N101 := Fr.app N0 Nq101
  have pq102 : own_go pP e below A0 (T101.setTop (mkF m 5 #[.val (.ref sb), .val (.ref x)] [(.ref sb)])) := by
    intro τ κ
    refine pre0 τ ?_
    refine XS.aloadN X0.here hx rfl (hb hby (own_d D_apA 0 rfl)) rfl rfl ?_
    refine XS.aloadN X0.here hx rfl (hb hby (own_d D_apA 1 rfl)) rfl rfl ?_
    refine st101.trans ?_
    exact κ
  have KC101 := KC0.trans K101 (allS (Or.inl (List.mem_of_getElem? (i := 0) rfl)) all0)
  obtain ⟨fs, hrE, hrun, hended, hW, hsame⟩ := X101.leave (v := some (.ref sb)) (fun h => by rw [Bd.returns] at h; cases h)
  have pqE := pq102
  rw [hA0] at pqE
  refine ⟨_, _, pqE _ ?_, hrun, hended, _, _, rfl, ?_, ⟨_, rfl⟩, hW, hsame.mono (by decide) (by decide)⟩
  · refine XS.pop X101.here hx rfl (hb hby (own_d D_apA 3 rfl)) rfl rfl ?_
    refine XS.aloadN X101.here hx rfl (hb hby (own_d D_apA 4 rfl)) rfl rfl ?_
    show Steps pP.tables e below (T101.setTop (mkF m 7 #[.val (.ref sb), .val (.ref x)] [(.ref sb)])) _
    exact retOut X101 hx Bd.returns rfl (Or.inr (Or.inr (Or.inr (Or.inr ⟨rfl, rfl, rfl⟩)))) (hb hby (own_d D_apA 5 rfl)) hrE
  · show Q_apa Z sb vs cs h0 n0 _ T101.heap _
    exact ⟨u101, _, rfl, N101, KC101, (Nat.le_trans (Nat.le_refl _) lb101), Ex101, Fv101, Fc101, Fn101, Fm101, V101⟩
def Q_psb (Z : State) (vb : Addr) (kv : ClassId) (us : List Value) (h0 : Heap) (n0 : Nat) (v : Option Value) (h : Heap) (L : List Loc) : Prop := v = none ∧ Fr n0 L ∧ Keep h0 h [vb] ∧ Arv Z h vb kv .byte (Int32.ofNat (2 * 82)) ((((((us.set (2 * 40) (.int (own_b (46 : Int32) 0))).set (2 * 40 + 1) (.int (own_b (46 : Int32) 8))).set (2 * 41) (.int (own_b (46 : Int32) 0))).set (2 * 41 + 1) (.int (own_b (46 : Int32) 8))).set (2 * 42) (.int (own_b (46 : Int32) 0))).set (2 * 42 + 1) (.int (own_b (46 : Int32) 8))) (.int 0)
theorem D_psb : ∀ q ∈ ([(0, .aload_n 0, 1), (1, .aload_n 2, 1), (2, .invokevirtual 397, 3), (5, .aload_n 2, 1), (6, .aload_n 0, 1), (7, .getfield 15, 3), (10, .iload_n 1, 1), (11, .aload_n 0, 1), (12, .getfield 22, 3), (15, .invokevirtual 399, 3), (18, .return_, 1)] : List (Nat × Instr × Nat)), decode jdk_68_method_73_code q.1 = .ok q.2 := by decide +kernel
theorem ef_rm_psb (m : MethodId) (x0 : Addr) (x1 : Int32) (x2 : Addr) : entryFrame m #[(.ref x0), (.int x1), (.ref x2)] 3 = mkF m 0 #[.val (.ref x0), .val (.int x1), .val (.ref x2)] [] := by first | (simp [entryFrame, mkF, argsToLocals, Value.category]; done) | rfl
theorem rm_psb (l : Launch) (Z : State) (a0 : Array Value) (hw : ∀ d ∈ tables_1, d.before a0 Z = true) (ws : List Jvm.Cond) (x t : Addr) (kb : ClassId) (sb vb : Addr) (kv : ClassId) (us : List Value) (G1 : Int32) (G3 : Value) (h0 : Heap) (n0 : Nat) (Z0 : n0 ≤ h0.size) (O2 : Sta Z Z.heap "java/lang/String" "COMPACT_STRINGS" "Z" (.int G1)) (P5 : ¬ (G1 = (0 : Int32))) (X00 : Old Z n0 h0) (O4 : Sta Z Z.heap "jdk/internal/util/Preconditions" "SIOOBE_FORMATTER" "Ljava/util/function/BiFunction;" G3) (rG3 : G3.isRef = true) (OA : Sta Z Z.heap "java/lang/StringUTF16" "$assertionsDisabled" "Z" (.int 1)) (OH : Sta Z Z.heap "java/lang/StringUTF16" "HI_BYTE_SHIFT" "I" (.int 0)) (OL : Sta Z Z.heap "java/lang/StringUTF16" "LO_BYTE_SHIFT" "I" (.int 8)) (E_x : Exa Z h0 x "java/lang/String") (F_c : Fld Z h0 x "java/lang/String" "coder" "B" (.int 0)) (F_v : Fld Z h0 x "java/lang/String" "value" "[B" (.ref t)) (V_t : Arv Z h0 t kb .byte (3 : Int32) [(.int (46 : Int32)), (.int (46 : Int32)), (.int (46 : Int32))] (.int 0)) (E_sb : Exa Z h0 sb "java/lang/StringBuilder") (F_sv : Fld Z h0 sb "java/lang/AbstractStringBuilder" "value" "[B" (.ref vb)) (F_sc : Fld Z h0 sb "java/lang/AbstractStringBuilder" "coder" "B" (.int 1)) (F_sn : Fld Z h0 sb "java/lang/AbstractStringBuilder" "count" "I" (.int 40)) (F_sm : Fld Z h0 sb "java/lang/AbstractStringBuilder" "maybeLatin1" "Z" (.int 0)) (V_b : Arv Z h0 vb kv .byte (Int32.ofNat 164) us (.int 0)) (gsb : n0 ≤ sb) (gvb : n0 ≤ vb) (htv : t ≠ vb) (hv : 2 * 82 ≤ us.length) :
    MetFree l y_46 (head1 (Jvm.Cond.code y_46 jdk_68_method_73_code 3 none :: ws) r_34) (fun αs U => αs = #[(.ref sb), (.int (40 : Int32)), (.ref x)] ∧ Z.Warmed39 U.vm ∧ U.heap = h0) (fun _ _ _ _ _ => True) (fun _ Us oS Us' => ∃ vR LR, oS = .returned vR ∧ Q_psb Z vb kv us h0 n0 vR Us'.heap LR ∧ FrameEnd Us oS Us' LR r_34.cells r_34.slots) := by
  refine MetFree.of_bodySF (plainFor_of_name pno_6) hisR ?_
  intro pP e s m args below meth cC s₁ Bd hml0 hP hK
  obtain ⟨rfl, hZ, hh⟩ := hP
  have hx := Bd.exec
  have W := own_W hw
  have hby := Bd.bytes
  have hml : cC.maxLocals = 3 := hml0
  have hown : s.vm.findClass "java/lang/AbstractStringBuilder" = some m.cls := findClass_of_methodNamed Bd.named
  have hnm := (name_of_methodNamed Bd.named Bd.method).1
  have X0 : Stand pP l e r_34 s m #[(.ref sb), (.int (40 : Int32)), (.ref x)] below meth cC s₁ [] 0 0 := Stand.of_body Bd
  have e0 : s₁.heap = h0 := by rw [← hh, Bd.state]; rfl
  have N0 := Fr.nil n0
  have KC0 : Keep h0 h0 [vb] := Keep.refl h0 _
  obtain ⟨A0, hA0⟩ : ∃ ζ, ζ = s₁.setTop (entryFrame m #[(.ref sb), (.int (40 : Int32)), (.ref x)] 3) := ⟨_, rfl⟩
  have pre0 : own_go pP e below A0 (s₁.setTop (mkF m 0 #[.val (.ref sb), .val (.int (40 : Int32)), .val (.ref x)] [])) := fun τ κ => by rw [hA0]; exact castTop (ef_rm_psb m sb (40 : Int32) x) κ
  obtain ⟨cq102, kq102, q102a, q102b, q102c⟩ := isOf hZ e0 E_sb
  obtain ⟨_, _, ⟨T101, L101, k101, n101⟩, -, X101, ⟨Lc101, hQ101, l101, y101, z101⟩, st101⟩ := X0.virtualBack hx (y := y_45) (z := y_45) hown (mvT hZ (W 207 rfl)) (mvT hZ (own_declares (W 208 rfl) (W 211 rfl))) (notFace_of_selects (args := #[]) (mvT hZ (W 210 rfl))) (mvT hZ (W 210 rfl)) (mvT hZ (W 208 rfl)) (by decide) (backOf (W := 0) (rm_ifB l Z a0 hw [] sb x G1 h0 n0 Z0 O2 P5 X00 E_sb F_sc E_x F_c) hZ (W 211 rfl) (W 95 rfl) (by decide) (by decide)) q102a q102c (g := (mkF m 2 #[.val (.ref sb), .val (.int (40 : Int32)), .val (.ref x)] [(.ref x), (.ref sb)])) rfl (by rw [hml]; rfl) (Steps.refl _) (argsL := [(.ref x)]) (rest := []) (lenOf pdo_28 rfl) rfl (Nat.le_of_eq rfl) (hb hby (own_d D_psb 2 rfl)) (fun _ _ => ⟨rfl, e0, (by decide : 0 + 0 ≤ _), (by decide : 0 + 0 ≤ _)⟩)
  dsimp only [Pt.U, Pt.locs, Pt.cells, Pt.slots] at X101 l101 y101 z101 st101 hQ101
  subst l101 y101 z101
  obtain ⟨rfl, Nq101, eq101⟩ := hQ101
  have N101 := Fr.app N0 Nq101
  have pq103 : own_go pP e below A0 (T101.setTop (mkF m 5 #[.val (.ref sb), .val (.int (40 : Int32)), .val (.ref x)] [])) := by
    intro τ κ
    refine pre0 τ ?_
    refine XS.aloadN X0.here hx rfl (hb hby (own_d D_psb 0 rfl)) rfl rfl ?_
    refine XS.aloadN X0.here hx rfl (hb hby (own_d D_psb 1 rfl)) rfl rfl ?_
    refine st101.trans ?_
    exact κ
  obtain ⟨T104, X104, e104, st104⟩ := getF X101 hx hZ hown (host := "") (Or.inl (W 99 rfl)) Via.refl eq101 F_sv (g := (mkF m 7 #[.val (.ref sb), .val (.int (40 : Int32)), .val (.ref x)] [(.ref sb), (.ref x)])) rfl rfl (hb hby (own_d D_psb 5 rfl))
  have pq105 : own_go pP e below A0 (T104.setTop (mkF m 10 #[.val (.ref sb), .val (.int (40 : Int32)), .val (.ref x)] [(.ref vb), (.ref x)])) := by
    intro τ κ
    refine pq103 τ ?_
    refine XS.aloadN X101.here hx rfl (hb hby (own_d D_psb 3 rfl)) rfl rfl ?_
    refine XS.aloadN X101.here hx rfl (hb hby (own_d D_psb 4 rfl)) rfl rfl ?_
    refine st104 _ ?_
    exact κ
  obtain ⟨T106, X106, e106, st106⟩ := getF X104 hx hZ hown (host := "") (Or.inl (W 101 rfl)) Via.refl e104 F_sc (g := (mkF m 12 #[.val (.ref sb), .val (.int (40 : Int32)), .val (.ref x)] [(.ref sb), (.int (40 : Int32)), (.ref vb), (.ref x)])) rfl rfl (hb hby (own_d D_psb 8 rfl))
  have pq107 : own_go pP e below A0 (T106.setTop (mkF m 15 #[.val (.ref sb), .val (.int (40 : Int32)), .val (.ref x)] [(.int (1 : Int32)), (.int (40 : Int32)), (.ref vb), (.ref x)])) := by
    intro τ κ
    refine pq105 τ ?_
    refine XS.iloadN X104.here hx rfl (hb hby (own_d D_psb 6 rfl)) rfl ?_
    refine XS.aloadN X104.here hx rfl (hb hby (own_d D_psb 7 rfl)) rfl rfl ?_
    refine st106 _ ?_
    exact κ
  obtain ⟨cq109, kq109, q109a, q109b, q109c⟩ := isOf hZ e106 E_x
  obtain ⟨_, _, ⟨T108, L108, k108, n108⟩, -, X108, ⟨Lc108, hQ108, l108, y108, z108⟩, st108⟩ := X106.virtualBack hx (y := y_43) (z := y_43) hown (mvT hZ (W 231 rfl)) (mvT hZ (W 232 rfl)) (notFace_of_selects (args := #[]) (mvT hZ (W 234 rfl))) (mvT hZ (W 234 rfl)) (mvT hZ (W 233 rfl)) (by decide) (backOf (W := 0) (rm_gbb l Z a0 hw [] x t vb kb kv us G3 G1 h0 n0 Z0 O2 P5 O4 rG3 OA OH OL X00 V_t V_b gvb htv hv E_x F_c F_v) hZ (W 235 rfl) (W 13 rfl) (by decide) (by decide)) q109a q109c (g := (mkF m 15 #[.val (.ref sb), .val (.int (40 : Int32)), .val (.ref x)] [(.int (1 : Int32)), (.int (40 : Int32)), (.ref vb), (.ref x)])) rfl (by rw [hml]; rfl) (Steps.refl _) (argsL := [(.ref vb), (.int (40 : Int32)), (.int (1 : Int32))]) (rest := []) (lenOf pdo_29 rfl) rfl (Nat.le_of_eq rfl) (hb hby (own_d D_psb 9 rfl)) (fun _ _ => ⟨rfl, e106, (by decide : 0 + 0 ≤ _), (by decide : 0 + 0 ≤ _)⟩)
  dsimp only [Pt.U, Pt.locs, Pt.cells, Pt.slots] at X108 l108 y108 z108 st108 hQ108
  subst l108 y108 z108
  obtain ⟨rfl, Nq108, K108, V108⟩ := hQ108
  have N108 := Fr.app N101 Nq108
  have pq110 : own_go pP e below A0 (T108.setTop (mkF m 18 #[.val (.ref sb), .val (.int (40 : Int32)), .val (.ref x)] [])) := by
    intro τ κ
    refine pq107 τ ?_
    refine st108.trans ?_
    exact κ
  have KC108 := KC0.trans K108 (allS (Or.inl (List.mem_of_getElem? (i := 0) rfl)) all0)
  obtain ⟨fs, hrE, hrun, hended, hW, hsame⟩ := X108.leave (v := none) (fun _ => rfl)
  have pqE := pq110
  rw [hA0] at pqE
  refine ⟨_, _, pqE _ ?_, hrun, hended, _, _, rfl, ?_, ⟨_, rfl⟩, hW, hsame.mono (by decide) (by decide)⟩
  · show Steps pP.tables e below (T108.setTop (mkF m 18 #[.val (.ref sb), .val (.int (40 : Int32)), .val (.ref x)] [])) _
    exact X108.returnOut hx Bd.returns (hb hby (own_d D_psb 10 rfl)) hrE
  · show Q_psb Z vb kv us h0 n0 _ T108.heap _
    exact ⟨rfl, N108, KC108, V108⟩
def Q_apb (Z : State) (sb : Addr) (vs : List Value) (h0 : Heap) (n0 : Nat) (v : Option Value) (h : Heap) (L : List Loc) : Prop := ∃ (u : Addr) (ku : ClassId), v = some (.ref sb) ∧ Fr n0 L ∧ Keep h0 h [sb] ∧ h0.size ≤ u ∧ Exa Z h sb "java/lang/StringBuilder" ∧ Fld Z h sb "java/lang/AbstractStringBuilder" "value" "[B" (.ref u) ∧ Fld Z h sb "java/lang/AbstractStringBuilder" "coder" "B" (.int 1) ∧ Fld Z h sb "java/lang/AbstractStringBuilder" "count" "I" (.int 43) ∧ Fld Z h sb "java/lang/AbstractStringBuilder" "maybeLatin1" "Z" (.int 0) ∧ Arv Z h u ku .byte (Int32.ofNat (2 * 82)) (((((((own_cp vs (80) ++ List.replicate (2 * 82) (Value.int 0)).set (2 * 40) (.int (own_b (46 : Int32) 0))).set (2 * 40 + 1) (.int (own_b (46 : Int32) 8))).set (2 * 41) (.int (own_b (46 : Int32) 0))).set (2 * 41 + 1) (.int (own_b (46 : Int32) 8))).set (2 * 42) (.int (own_b (46 : Int32) 0))).set (2 * 42 + 1) (.int (own_b (46 : Int32) 8))) (.int 0)
theorem D_apb : ∀ q ∈ ([(0, .aload_n 1, 1), (1, .ifnonnull 8, 3), (9, .aload_n 1, 1), (10, .invokevirtual 32, 3), (13, .istore_n 2, 1), (14, .aload_n 0, 1), (15, .aload_n 0, 1), (16, .getfield 79, 3), (19, .iload_n 2, 1), (20, .iadd, 1), (21, .invokevirtual 100, 3), (24, .aload_n 0, 1), (25, .aload_n 0, 1), (26, .getfield 79, 3), (29, .aload_n 1, 1), (30, .invokevirtual 208, 3), (33, .aload_n 0, 1), (34, .dup, 1), (35, .getfield 79, 3), (38, .iload_n 2, 1), (39, .iadd, 1), (40, .putfield 79, 3), (43, .aload_n 0, 1), (44, .areturn, 1)] : List (Nat × Instr × Nat)), decode jdk_68_method_22_code q.1 = .ok q.2 := by decide +kernel
theorem ef_rm_apb (m : MethodId) (x0 : Addr) (x1 : Addr) : entryFrame m #[(.ref x0), (.ref x1)] 3 = mkF m 0 #[.val (.ref x0), .val (.ref x1), .unset] [] := by first | (simp [entryFrame, mkF, argsToLocals, Value.category]; done) | rfl
theorem rm_apb (l : Launch) (Z : State) (a0 : Array Value) (hw : ∀ d ∈ tables_1, d.before a0 Z = true) (ws : List Jvm.Cond) (x t : Addr) (kb : ClassId) (sb vb : Addr) (kv : ClassId) (vs : List Value) (G1 : Int32) (G3 : Value) (h0 : Heap) (n0 : Nat) (Z0 : n0 ≤ h0.size) (O2 : Sta Z Z.heap "java/lang/String" "COMPACT_STRINGS" "Z" (.int G1)) (P5 : ¬ (G1 = (0 : Int32))) (X00 : Old Z n0 h0) (O4 : Sta Z Z.heap "jdk/internal/util/Preconditions" "SIOOBE_FORMATTER" "Ljava/util/function/BiFunction;" G3) (rG3 : G3.isRef = true) (OA : Sta Z Z.heap "java/lang/StringUTF16" "$assertionsDisabled" "Z" (.int 1)) (OH : Sta Z Z.heap "java/lang/StringUTF16" "HI_BYTE_SHIFT" "I" (.int 0)) (OL : Sta Z Z.heap "java/lang/StringUTF16" "LO_BYTE_SHIFT" "I" (.int 8)) (E_x : Exa Z h0 x "java/lang/String") (F_c : Fld Z h0 x "java/lang/String" "coder" "B" (.int 0)) (F_v : Fld Z h0 x "java/lang/String" "value" "[B" (.ref t)) (V_t : Arv Z h0 t kb .byte (3 : Int32) [(.int (46 : Int32)), (.int (46 : Int32)), (.int (46 : Int32))] (.int 0)) (E_sb : Exa Z h0 sb "java/lang/StringBuilder") (F_sv : Fld Z h0 sb "java/lang/AbstractStringBuilder" "value" "[B" (.ref vb)) (F_sc : Fld Z h0 sb "java/lang/AbstractStringBuilder" "coder" "B" (.int 1)) (F_sn : Fld Z h0 sb "java/lang/AbstractStringBuilder" "count" "I" (.int 40)) (F_sm : Fld Z h0 sb "java/lang/AbstractStringBuilder" "maybeLatin1" "Z" (.int 0)) (V_b : Arv Z h0 vb kv .byte (Int32.ofNat 80) vs (.int 0)) (gsb : n0 ≤ sb) :
    MetFree l y_47 (head1 (Jvm.Cond.code y_47 jdk_68_method_22_code 3 (some (.object "java/lang/AbstractStringBuilder")) :: ws) r_35) (fun αs U => αs = #[(.ref sb), (.ref x)] ∧ Z.Warmed39 U.vm ∧ U.heap = h0) (fun _ _ _ _ _ => True) (fun _ Us oS Us' => ∃ vR LR, oS = .returned vR ∧ Q_apb Z sb vs h0 n0 vR Us'.heap LR ∧ FrameEnd Us oS Us' LR r_35.cells r_35.slots) := by
  refine MetFree.of_bodySF (plainFor_of_name pno_6) hisR ?_
  intro pP e s m args below meth cC s₁ Bd hml0 hP hK
  obtain ⟨rfl, hZ, hh⟩ := hP
  have hx := Bd.exec
  have W := own_W hw
  have hby := Bd.bytes
  have hml : cC.maxLocals = 3 := hml0
  have hown : s.vm.findClass "java/lang/AbstractStringBuilder" = some m.cls := findClass_of_methodNamed Bd.named
  have hnm := (name_of_methodNamed Bd.named Bd.method).1
  have X0 : Stand pP l e r_35 s m #[(.ref sb), (.ref x)] below meth cC s₁ [] 0 0 := Stand.of_body Bd
  have e0 : s₁.heap = h0 := by rw [← hh, Bd.state]; rfl
  have N0 := Fr.nil n0
  have KC0 : Keep h0 h0 [sb] := Keep.refl h0 _
  obtain ⟨A0, hA0⟩ : ∃ ζ, ζ = s₁.setTop (entryFrame m #[(.ref sb), (.ref x)] 3) := ⟨_, rfl⟩
  have pre0 : own_go pP e below A0 (s₁.setTop (mkF m 0 #[.val (.ref sb), .val (.ref x), .unset] [])) := fun τ κ => by rw [hA0]; exact castTop (ef_rm_apb m sb x) κ
  obtain ⟨cq102, kq102, q102a, q102b, q102c⟩ := isOf hZ e0 E_x
  obtain ⟨_, _, ⟨T101, L101, k101, n101⟩, -, X101, ⟨Lc101, hQ101, l101, y101, z101⟩, st101⟩ := X0.virtualBack hx (y := y_8) (z := y_8) hown (mvT hZ (W 177 rfl)) (mvT hZ (W 71 rfl)) (notFace_of_selects (args := #[]) (mvT hZ (W 73 rfl))) (mvT hZ (W 73 rfl)) (mvT hZ (W 72 rfl)) (by decide) (backOf (W := 0) (rm_lenL l Z a0 hw [] x t kb ([(46 : Int32), (46 : Int32), (46 : Int32)] : List Int32) G1 h0 n0 Z0 O2 P5 X00 E_x F_c F_v V_t (by decide)) hZ (W 74 rfl) (W 13 rfl) (by decide) (by decide)) q102a q102c (g := (mkF m 10 #[.val (.ref sb), .val (.ref x), .unset] [(.ref x)])) rfl (by rw [hml]; rfl) (Steps.refl _) (argsL := []) (rest := []) (lenOf pdo_11 rfl) rfl (Nat.le_of_eq rfl) (hb hby (own_d D_apb 3 rfl)) (fun _ _ => ⟨rfl, e0, (by decide : 0 + 0 ≤ _), (by decide : 0 + 0 ≤ _)⟩)
  dsimp only [Pt.U, Pt.locs, Pt.cells, Pt.slots] at X101 l101 y101 z101 st101 hQ101
  subst l101 y101 z101
  obtain ⟨rfl, Nq101, eq101⟩ := hQ101
  have N101 := Fr.app N0 Nq101
  have pq103 : own_go pP e below A0 (T101.setTop (mkF m 13 #[.val (.ref sb), .val (.ref x), .unset] [(.int (Int32.ofNat (([(46 : Int32), (46 : Int32), (46 : Int32)] : List Int32)).length))])) := by
    intro τ κ
    refine pre0 τ ?_
    refine XS.aloadN X0.here hx rfl (hb hby (own_d D_apb 0 rfl)) rfl rfl ?_
    refine XS.ifnonnullYes X0.here hx rfl (pc0 := 1) (pc' := 9) rfl (hb hby (own_d D_apb 1 rfl)) rfl (by decide) (by decide) ?_
    refine XS.aloadN X0.here hx rfl (hb hby (own_d D_apb 2 rfl)) rfl rfl ?_
    refine st101.trans ?_
    exact κ
  have pq104 : own_go pP e below A0 (T101.setTop (mkF m 13 #[.val (.ref sb), .val (.ref x), .unset] [(.int (3 : Int32))])) := by intro τ κ; refine pq103 τ ?_; rw [show (Int32.ofNat (([(46 : Int32), (46 : Int32), (46 : Int32)] : List Int32)).length) = (3 : Int32) from rfl]; exact κ
  obtain ⟨T105, X105, e105, st105⟩ := getF X101 hx hZ hown (host := "") (Or.inl (W 178 rfl)) Via.refl eq101 F_sn (g := (mkF m 16 #[.val (.ref sb), .val (.ref x), .val (.int (3 : Int32))] [(.ref sb), (.ref sb)])) rfl rfl (hb hby (own_d D_apb 7 rfl))
  have pq106 : own_go pP e below A0 (T105.setTop (mkF m 19 #[.val (.ref sb), .val (.ref x), .val (.int (3 : Int32))] [(.int (40 : Int32)), (.ref sb)])) := by
    intro τ κ
    refine pq104 τ ?_
    refine XS.istoreN X101.here hx rfl (hb hby (own_d D_apb 4 rfl)) rfl (l' := #[.val (.ref sb), .val (.ref x), .val (.int (3 : Int32))]) rfl ?_
    refine XS.aloadN X101.here hx rfl (hb hby (own_d D_apb 5 rfl)) rfl rfl ?_
    refine XS.aloadN X101.here hx rfl (hb hby (own_d D_apb 6 rfl)) rfl rfl ?_
    refine st105 _ ?_
    exact κ
  obtain ⟨cq108, kq108, q108a, q108b, q108c⟩ := isOf hZ e105 E_sb
  obtain ⟨_, _, ⟨T107, L107, k107, n107⟩, -, X107, ⟨Lc107, hQ107, l107, y107, z107⟩, st107⟩ := X105.virtualBack hx (y := y_40) (z := y_40) hown (mvT hZ (W 180 rfl)) (mvT hZ (own_declares (W 181 rfl) (W 184 rfl))) (notFace_of_selects (args := #[]) (mvT hZ (W 183 rfl))) (mvT hZ (W 183 rfl)) (mvT hZ (W 181 rfl)) (by decide) (backOf (W := 0) (rm_enb l Z a0 hw [] sb vb kv vs h0 n0 Z0 E_sb F_sv F_sc F_sn F_sm V_b gsb) hZ (W 184 rfl) (W 95 rfl) (by decide) (by decide)) q108a q108c (g := (mkF m 21 #[.val (.ref sb), .val (.ref x), .val (.int (3 : Int32))] [(.int (43 : Int32)), (.ref sb)])) rfl (by rw [hml]; rfl) (Steps.refl _) (argsL := [(.int (43 : Int32))]) (rest := []) (lenOf pdo_24 rfl) rfl (Nat.le_of_eq rfl) (hb hby (own_d D_apb 10 rfl)) (fun _ _ => ⟨rfl, e105, (by decide : 0 + 1 ≤ _), (by decide : 0 + 400 ≤ _)⟩)
  dsimp only [Pt.U, Pt.locs, Pt.cells, Pt.slots] at X107 l107 y107 z107 st107 hQ107
  subst l107 y107 z107
  obtain ⟨u107, ku107, rfl, Nq107, K107, lb107, Ex107, Fv107, Fc107, Fn107, Fm107, V107⟩ := hQ107
  have N107 := Fr.app N101 Nq107
  have pq109 : own_go pP e below A0 (T107.setTop (mkF m 24 #[.val (.ref sb), .val (.ref x), .val (.int (3 : Int32))] [])) := by
    intro τ κ
    refine pq106 τ ?_
    refine XS.iloadN X105.here hx rfl (hb hby (own_d D_apb 8 rfl)) rfl ?_
    refine XS.iadd X105.here hx rfl (hb hby (own_d D_apb 9 rfl)) rfl ?_
    refine st107.trans ?_
    exact κ
  have KC107 := KC0.trans K107 (allS (Or.inl (List.mem_of_getElem? (i := 0) rfl)) all0)
  obtain ⟨T110, X110, e110, st110⟩ := getF X107 hx hZ hown (host := "") (Or.inl (W 178 rfl)) Via.refl rfl Fn107 (g := (mkF m 26 #[.val (.ref sb), .val (.ref x), .val (.int (3 : Int32))] [(.ref sb), (.ref sb)])) rfl rfl (hb hby (own_d D_apb 13 rfl))
  have pq111 : own_go pP e below A0 (T110.setTop (mkF m 29 #[.val (.ref sb), .val (.ref x), .val (.int (3 : Int32))] [(.int (40 : Int32)), (.ref sb)])) := by
    intro τ κ
    refine pq109 τ ?_
    refine XS.aloadN X107.here hx rfl (hb hby (own_d D_apb 11 rfl)) rfl rfl ?_
    refine XS.aloadN X107.here hx rfl (hb hby (own_d D_apb 12 rfl)) rfl rfl ?_
    refine st110 _ ?_
    exact κ
  have V112 : Arv Z T107.heap u107 ku107 .byte (Int32.ofNat 164) ((own_cp vs (80)) ++ List.replicate (2 * 82) (Value.int 0)) (.int 0) := V107.pad (pad_rep _ _ _)
  have f113 := (X00.keep K107 (allS gsb all0))
  have f114 := (E_x.keep K107)
  have f115 := (F_c.keep K107 (ninS (ne_exa E_x E_sb (by decide)) nin0))
  have f116 := (F_v.keep K107 (ninS (ne_exa E_x E_sb (by decide)) nin0))
  have f117 := (V_t.keep K107 (ninS (Ne.symm (own_ne_arv E_sb (W 86 rfl) V_t)) nin0))
  have f118 := (Nat.le_trans Z0 K107.1)
  obtain ⟨cq120, kq120, q120a, q120b, q120c⟩ := isOf hZ e110 Ex107
  obtain ⟨_, _, ⟨T119, L119, k119, n119⟩, -, X119, ⟨Lc119, hQ119, l119, y119, z119⟩, st119⟩ := X110.virtualBack hx (y := y_46) (z := y_46) hown (mvT hZ (W 202 rfl)) (mvT hZ (own_declares (W 203 rfl) (W 206 rfl))) (notFace_of_selects (args := #[]) (mvT hZ (W 205 rfl))) (mvT hZ (W 205 rfl)) (mvT hZ (W 203 rfl)) (by decide) (backOf (W := 0) (rm_psb l Z a0 hw [] x t kb sb u107 ku107 ((own_cp vs (80)) ++ List.replicate (2 * 82) (Value.int 0)) G1 G3 T107.heap n0 f118 O2 P5 f113 O4 rG3 OA OH OL f114 f115 f116 f117 Ex107 Fv107 Fc107 Fn107 Fm107 V112 gsb (Nat.le_trans Z0 lb107) (Nat.ne_of_lt (Nat.lt_of_lt_of_le V_t.lt lb107)) (by simp)) hZ (W 206 rfl) (W 95 rfl) (by decide) (by decide)) q120a q120c (g := (mkF m 30 #[.val (.ref sb), .val (.ref x), .val (.int (3 : Int32))] [(.ref x), (.int (40 : Int32)), (.ref sb)])) rfl (by rw [hml]; rfl) (Steps.refl _) (argsL := [(.int (40 : Int32)), (.ref x)]) (rest := []) (lenOf pdo_30 rfl) rfl (Nat.le_of_eq rfl) (hb hby (own_d D_apb 15 rfl)) (fun _ _ => ⟨rfl, e110, (by decide : 1 + 0 ≤ _), (by decide : 400 + 0 ≤ _)⟩)
  dsimp only [Pt.U, Pt.locs, Pt.cells, Pt.slots] at X119 l119 y119 z119 st119 hQ119
  subst l119 y119 z119
  obtain ⟨rfl, Nq119, K119, V119⟩ := hQ119
  have N119 := Fr.app N107 Nq119
  have pq121 : own_go pP e below A0 (T119.setTop (mkF m 33 #[.val (.ref sb), .val (.ref x), .val (.int (3 : Int32))] [])) := by
    intro τ κ
    refine pq111 τ ?_
    refine XS.aloadN X110.here hx rfl (hb hby (own_d D_apb 14 rfl)) rfl rfl ?_
    refine st119.trans ?_
    exact κ
  have KC119 := KC107.trans K119 (allS (Or.inr (Nat.le_trans (Nat.le_refl _) lb107)) all0)
  have f122 := (Fn107.keep K119 (ninS (Nat.ne_of_lt (Nat.lt_of_lt_of_le E_sb.lt lb107)) nin0))
  obtain ⟨T123, X123, e123, st123⟩ := getF X119 hx hZ hown (host := "") (Or.inl (W 178 rfl)) Via.refl rfl f122 (g := (mkF m 35 #[.val (.ref sb), .val (.ref x), .val (.int (3 : Int32))] [(.ref sb), (.ref sb)])) rfl rfl (hb hby (own_d D_apb 18 rfl))
  have pq124 : own_go pP e below A0 (T123.setTop (mkF m 38 #[.val (.ref sb), .val (.ref x), .val (.int (3 : Int32))] [(.int (40 : Int32)), (.ref sb)])) := by
    intro τ κ
    refine pq121 τ ?_
    refine XS.aloadN X119.here hx rfl (hb hby (own_d D_apb 16 rfl)) rfl rfl ?_
    refine XS.dup X119.here hx rfl (hb hby (own_d D_apb 17 rfl)) rfl rfl ?_
    refine st123 _ ?_
    exact κ
  have f125 := (Ex107.keep K119)
  obtain ⟨T126, h126, X126, e126, W126, st126⟩ := putF X123 hx hZ hown (host := "") (Or.inl (W 178 rfl)) Via.refl e123 f122 f125 (Or.inl (W 179 rfl)) (W 86 rfl) (ty := .int) (by decide) rfl rfl (g := (mkF m 40 #[.val (.ref sb), .val (.ref x), .val (.int (3 : Int32))] [(.int (43 : Int32)), (.ref sb)])) rfl rfl (hb hby (own_d D_apb 21 rfl))
  have pq127 : own_go pP e below A0 (T126.setTop (mkF m 43 #[.val (.ref sb), .val (.ref x), .val (.int (3 : Int32))] [])) := by
    intro τ κ
    refine pq124 τ ?_
    refine XS.iloadN X123.here hx rfl (hb hby (own_d D_apb 19 rfl)) rfl ?_
    refine XS.iadd X123.here hx rfl (hb hby (own_d D_apb 20 rfl)) rfl ?_
    refine st126 _ ?_
    exact κ
  have KC126 := KC119.wr W126 (Or.inl (List.mem_of_getElem? (i := 0) rfl))
  have Fw126 := f122.same W126
  have N126 := Fr.snoc X126 N119 gsb
  have f128 := (f125.wr W126)
  have f129 := ((Fv107.keep K119 (ninS (Nat.ne_of_lt (Nat.lt_of_lt_of_le E_sb.lt lb107)) nin0)).other W126 (Or.inr (slot_ne (Or.inl (W 100 rfl)) (Or.inl (W 179 rfl)) (by decide) (t := (.array .byte)) (t' := .int) (by decide) (by decide))))
  have f130 := ((Fc107.keep K119 (ninS (Nat.ne_of_lt (Nat.lt_of_lt_of_le E_sb.lt lb107)) nin0)).other W126 (Or.inr (slot_ne (Or.inl (W 102 rfl)) (Or.inl (W 179 rfl)) (by decide) (t := .byte) (t' := .int) (by decide) (by decide))))
  have f131 := ((Fm107.keep K119 (ninS (Nat.ne_of_lt (Nat.lt_of_lt_of_le E_sb.lt lb107)) nin0)).other W126 (Or.inr (slot_ne (Or.inl (W 266 rfl)) (Or.inl (W 179 rfl)) (by decide) (t := .boolean) (t' := .int) (by decide) (by decide))))
  have f132 := (V119.other W126 (Ne.symm (Nat.ne_of_lt (Nat.lt_of_lt_of_le E_sb.lt lb107))))
  obtain ⟨fs, hrE, hrun, hended, hW, hsame⟩ := X126.leave (v := some (.ref sb)) (fun h => by rw [Bd.returns] at h; cases h)
  have pqE := pq127
  rw [hA0] at pqE
  refine ⟨_, _, pqE _ ?_, hrun, hended, _, _, rfl, ?_, ⟨_, rfl⟩, hW, hsame.mono (by decide) (by decide)⟩
  · refine XS.aloadN X126.here hx rfl (hb hby (own_d D_apb 22 rfl)) rfl rfl ?_
    show Steps pP.tables e below (T126.setTop (mkF m 44 #[.val (.ref sb), .val (.ref x), .val (.int (3 : Int32))] [(.ref sb)])) _
    exact retOut X126 hx Bd.returns rfl (Or.inr (Or.inr (Or.inr (Or.inr ⟨rfl, rfl, rfl⟩)))) (hb hby (own_d D_apb 23 rfl)) hrE
  · show Q_apb Z sb vs h0 n0 _ T126.heap _
    rw [e126]
    exact ⟨u107, _, rfl, N126, KC126, (Nat.le_trans (Nat.le_refl _) lb107), f128, f129, f130, Fw126, f131, f132⟩
theorem D_apB : ∀ q ∈ ([(0, .aload_n 0, 1), (1, .aload_n 1, 1), (2, .invokespecial 29, 3), (5, .pop, 1), (6, .aload_n 0, 1), (7, .areturn, 1)] : List (Nat × Instr × Nat)), decode jdk_67_method_7_code q.1 = .ok q.2 := by decide +kernel
theorem ef_rm_apB (m : MethodId) (x0 : Addr) (x1 : Addr) : entryFrame m #[(.ref x0), (.ref x1)] 2 = mkF m 0 #[.val (.ref x0), .val (.ref x1)] [] := by first | (simp [entryFrame, mkF, argsToLocals, Value.category]; done) | rfl
theorem rm_apB (l : Launch) (Z : State) (a0 : Array Value) (hw : ∀ d ∈ tables_1, d.before a0 Z = true) (ws : List Jvm.Cond) (x t : Addr) (kb : ClassId) (sb vb : Addr) (kv : ClassId) (vs : List Value) (G1 : Int32) (G3 : Value) (h0 : Heap) (n0 : Nat) (Z0 : n0 ≤ h0.size) (O2 : Sta Z Z.heap "java/lang/String" "COMPACT_STRINGS" "Z" (.int G1)) (P5 : ¬ (G1 = (0 : Int32))) (X00 : Old Z n0 h0) (O4 : Sta Z Z.heap "jdk/internal/util/Preconditions" "SIOOBE_FORMATTER" "Ljava/util/function/BiFunction;" G3) (rG3 : G3.isRef = true) (OA : Sta Z Z.heap "java/lang/StringUTF16" "$assertionsDisabled" "Z" (.int 1)) (OH : Sta Z Z.heap "java/lang/StringUTF16" "HI_BYTE_SHIFT" "I" (.int 0)) (OL : Sta Z Z.heap "java/lang/StringUTF16" "LO_BYTE_SHIFT" "I" (.int 8)) (E_x : Exa Z h0 x "java/lang/String") (F_c : Fld Z h0 x "java/lang/String" "coder" "B" (.int 0)) (F_v : Fld Z h0 x "java/lang/String" "value" "[B" (.ref t)) (V_t : Arv Z h0 t kb .byte (3 : Int32) [(.int (46 : Int32)), (.int (46 : Int32)), (.int (46 : Int32))] (.int 0)) (E_sb : Exa Z h0 sb "java/lang/StringBuilder") (F_sv : Fld Z h0 sb "java/lang/AbstractStringBuilder" "value" "[B" (.ref vb)) (F_sc : Fld Z h0 sb "java/lang/AbstractStringBuilder" "coder" "B" (.int 1)) (F_sn : Fld Z h0 sb "java/lang/AbstractStringBuilder" "count" "I" (.int 40)) (F_sm : Fld Z h0 sb "java/lang/AbstractStringBuilder" "maybeLatin1" "Z" (.int 0)) (V_b : Arv Z h0 vb kv .byte (Int32.ofNat 80) vs (.int 0)) (gsb : n0 ≤ sb) :
    MetFree l y_48 (head1 (Jvm.Cond.code y_48 jdk_67_method_7_code 2 (some (.object "java/lang/StringBuilder")) :: ws) r_36) (fun αs U => αs = #[(.ref sb), (.ref x)] ∧ Z.Warmed39 U.vm ∧ U.heap = h0) (fun _ _ _ _ _ => True) (fun _ Us oS Us' => ∃ vR LR, oS = .returned vR ∧ Q_apb Z sb vs h0 n0 vR Us'.heap LR ∧ FrameEnd Us oS Us' LR r_36.cells r_36.slots) := by
  refine MetFree.of_bodySF (plainFor_of_name pno_7) hisR ?_
  intro pP e s m args below meth cC s₁ Bd hml0 hP hK
  obtain ⟨rfl, hZ, hh⟩ := hP
  have hx := Bd.exec
  have W := own_W hw
  have hby := Bd.bytes
  have hml : cC.maxLocals = 2 := hml0
  have hown : s.vm.findClass "java/lang/StringBuilder" = some m.cls := findClass_of_methodNamed Bd.named
  have hnm := (name_of_methodNamed Bd.named Bd.method).1
  have X0 : Stand pP l e r_36 s m #[(.ref sb), (.ref x)] below meth cC s₁ [] 0 0 := Stand.of_body Bd
  have e0 : s₁.heap = h0 := by rw [← hh, Bd.state]; rfl
  have N0 := Fr.nil n0
  have KC0 : Keep h0 h0 [sb] := Keep.refl h0 _
  obtain ⟨A0, hA0⟩ : ∃ ζ, ζ = s₁.setTop (entryFrame m #[(.ref sb), (.ref x)] 2) := ⟨_, rfl⟩
  have pre0 : own_go pP e below A0 (s₁.setTop (mkF m 0 #[.val (.ref sb), .val (.ref x)] [])) := fun τ κ => by rw [hA0]; exact castTop (ef_rm_apB m sb x) κ
  obtain ⟨_, _, ⟨T101, L101, k101, n101⟩, -, X101, ⟨Lc101, hQ101, l101, y101, z101⟩, st101⟩ := superBack X0 hx (y := y_47) hZ hown (W 172 rfl) (own_sameM (n := "ensureCapacityInternal") (d := "(I)V") (W 173 rfl) (by decide) (W 183 rfl)) (W 173 rfl) (W 174 rfl) (by decide) (backOf (W := 0) (rm_apb l Z a0 hw [] x t kb sb vb kv vs G1 G3 h0 n0 Z0 O2 P5 X00 O4 rG3 OA OH OL E_x F_c F_v V_t E_sb F_sv F_sc F_sn F_sm V_b gsb) hZ (W 176 rfl) (W 95 rfl) (by decide) (by decide)) e0 (Ins.self E_sb) (g := (mkF m 2 #[.val (.ref sb), .val (.ref x)] [(.ref x), (.ref sb)])) rfl (by rw [hml]; rfl) (W 176 rfl) (argsL := [(.ref x)]) (rest := []) (lenOf pdo_31 rfl) rfl (Nat.le_of_eq rfl) (hb hby (own_d D_apB 2 rfl)) (fun _ _ => ⟨rfl, e0, (by decide : 0 + 1 ≤ _), (by decide : 0 + 400 ≤ _)⟩)
  dsimp only [Pt.U, Pt.locs, Pt.cells, Pt.slots] at X101 l101 y101 z101 st101 hQ101
  subst l101 y101 z101
  obtain ⟨u101, ku101, rfl, Nq101, K101, lb101, Ex101, Fv101, Fc101, Fn101, Fm101, V101⟩ := hQ101
  have N101 := Fr.app N0 Nq101
  have pq102 : own_go pP e below A0 (T101.setTop (mkF m 5 #[.val (.ref sb), .val (.ref x)] [(.ref sb)])) := by
    intro τ κ
    refine pre0 τ ?_
    refine XS.aloadN X0.here hx rfl (hb hby (own_d D_apB 0 rfl)) rfl rfl ?_
    refine XS.aloadN X0.here hx rfl (hb hby (own_d D_apB 1 rfl)) rfl rfl ?_
    refine st101.trans ?_
    exact κ
  have KC101 := KC0.trans K101 (allS (Or.inl (List.mem_of_getElem? (i := 0) rfl)) all0)
  obtain ⟨fs, hrE, hrun, hended, hW, hsame⟩ := X101.leave (v := some (.ref sb)) (fun h => by rw [Bd.returns] at h; cases h)
  have pqE := pq102
  rw [hA0] at pqE
  refine ⟨_, _, pqE _ ?_, hrun, hended, _, _, rfl, ?_, ⟨_, rfl⟩, hW, hsame.mono (by decide) (by decide)⟩
  · refine XS.pop X101.here hx rfl (hb hby (own_d D_apB 3 rfl)) rfl rfl ?_
    refine XS.aloadN X101.here hx rfl (hb hby (own_d D_apB 4 rfl)) rfl rfl ?_
    show Steps pP.tables e below (T101.setTop (mkF m 7 #[.val (.ref sb), .val (.ref x)] [(.ref sb)])) _
    exact retOut X101 hx Bd.returns rfl (Or.inr (Or.inr (Or.inr (Or.inr ⟨rfl, rfl, rfl⟩)))) (hb hby (own_d D_apB 5 rfl)) hrE
  · show Q_apb Z sb vs h0 n0 _ T101.heap _
    exact ⟨u101, _, rfl, N101, KC101, (Nat.le_trans (Nat.le_refl _) lb101), Ex101, Fv101, Fc101, Fn101, Fm101, V101⟩
def Q_rm_gv (r : Addr) (h0 : Heap) (n0 : Nat) (v : Option Value) (h : Heap) (L : List Loc) : Prop := v = some (.ref r) ∧ Fr n0 L ∧ h = h0
theorem D_gv : ∀ q ∈ ([(0, .aload_n 0, 1), (1, .getfield 15, 3), (4, .areturn, 1)] : List (Nat × Instr × Nat)), decode jdk_68_method_64_code q.1 = .ok q.2 := by decide +kernel
theorem ef_rm_gv (m : MethodId) (x0 : Addr) : entryFrame m #[(.ref x0)] 1 = mkF m 0 #[.val (.ref x0)] [] := by first | (simp [entryFrame, mkF, argsToLocals, Value.category]; done) | rfl
theorem rm_gv (l : Launch) (Z : State) (a0 : Array Value) (hw : ∀ d ∈ tables_1, d.before a0 Z = true) (ws : List Jvm.Cond) (a : Addr) (r : Addr) (h0 : Heap) (n0 : Nat) (Z0 : n0 ≤ h0.size) (F : Fld Z h0 a "java/lang/AbstractStringBuilder" "value" "[B" (.ref r)) :
    MetFree l y_49 (head1 (Jvm.Cond.code y_49 jdk_68_method_64_code 1 (some (.array .byte)) :: ws) r_2) (fun αs U => αs = #[(.ref a)] ∧ Z.Warmed39 U.vm ∧ U.heap = h0) (fun _ _ _ _ _ => True) (fun _ Us oS Us' => ∃ vR LR, oS = .returned vR ∧ Q_rm_gv r h0 n0 vR Us'.heap LR ∧ FrameEnd Us oS Us' LR r_2.cells r_2.slots) := by
  refine MetFree.of_bodySF (plainFor_of_name pno_6) hisR ?_
  intro pP e s m args below meth cC s₁ Bd hml0 hP hK
  obtain ⟨rfl, hZ, hh⟩ := hP
  have hx := Bd.exec
  have W := own_W hw
  have hby := Bd.bytes
  have hml : cC.maxLocals = 1 := hml0
  have hown : s.vm.findClass "java/lang/AbstractStringBuilder" = some m.cls := findClass_of_methodNamed Bd.named
  have hnm := (name_of_methodNamed Bd.named Bd.method).1
  have X0 : Stand pP l e r_2 s m #[(.ref a)] below meth cC s₁ [] 0 0 := Stand.of_body Bd
  have e0 : s₁.heap = h0 := by rw [← hh, Bd.state]; rfl
  have N0 := Fr.nil n0
  have KC0 : Keep h0 h0 [] := Keep.refl h0 _
  obtain ⟨A0, hA0⟩ : ∃ ζ, ζ = s₁.setTop (entryFrame m #[(.ref a)] 1) := ⟨_, rfl⟩
  have pre0 : own_go pP e below A0 (s₁.setTop (mkF m 0 #[.val (.ref a)] [])) := fun τ κ => by rw [hA0]; exact castTop (ef_rm_gv m a) κ
  obtain ⟨T101, X101, e101, st101⟩ := getF X0 hx hZ hown (host := "") (Or.inl (W 99 rfl)) Via.refl e0 F (g := (mkF m 1 #[.val (.ref a)] [(.ref a)])) rfl rfl (hb hby (own_d D_gv 1 rfl))
  have pq102 : own_go pP e below A0 (T101.setTop (mkF m 4 #[.val (.ref a)] [(.ref r)])) := by
    intro τ κ
    refine pre0 τ ?_
    refine XS.aloadN X0.here hx rfl (hb hby (own_d D_gv 0 rfl)) rfl rfl ?_
    refine st101 _ ?_
    exact κ
  obtain ⟨fs, hrE, hrun, hended, hW, hsame⟩ := X101.leave (v := some (.ref r)) (fun h => by rw [Bd.returns] at h; cases h)
  have pqE := pq102
  rw [hA0] at pqE
  refine ⟨_, _, pqE _ ?_, hrun, hended, _, _, rfl, ?_, ⟨_, rfl⟩, hW, hsame.mono (by decide) (by decide)⟩
  · show Steps pP.tables e below (T101.setTop (mkF m 4 #[.val (.ref a)] [(.ref r)])) _
    exact retOut X101 hx Bd.returns rfl (Or.inr (Or.inr (Or.inr (Or.inr ⟨rfl, rfl, rfl⟩)))) (hb hby (own_d D_gv 2 rfl)) hrE
  · show Q_rm_gv r h0 n0 _ T101.heap _
    rw [e101]
    exact ⟨rfl, N0, rfl⟩
def Q_rm_al (r : Int32) (h0 : Heap) (n0 : Nat) (v : Option Value) (h : Heap) (L : List Loc) : Prop := v = some (.int r) ∧ Fr n0 L ∧ h = h0
theorem D_al : ∀ q ∈ ([(0, .aload_n 0, 1), (1, .getfield 79, 3), (4, .ireturn, 1)] : List (Nat × Instr × Nat)), decode jdk_68_method_6_code q.1 = .ok q.2 := by decide +kernel
theorem ef_rm_al (m : MethodId) (x0 : Addr) : entryFrame m #[(.ref x0)] 1 = mkF m 0 #[.val (.ref x0)] [] := by first | (simp [entryFrame, mkF, argsToLocals, Value.category]; done) | rfl
theorem rm_al (l : Launch) (Z : State) (a0 : Array Value) (hw : ∀ d ∈ tables_1, d.before a0 Z = true) (ws : List Jvm.Cond) (a : Addr) (r : Int32) (h0 : Heap) (n0 : Nat) (Z0 : n0 ≤ h0.size) (F : Fld Z h0 a "java/lang/AbstractStringBuilder" "count" "I" (.int r)) :
    MetFree l y_50 (head1 (Jvm.Cond.code y_50 jdk_68_method_6_code 1 (some .int) :: ws) r_2) (fun αs U => αs = #[(.ref a)] ∧ Z.Warmed39 U.vm ∧ U.heap = h0) (fun _ _ _ _ _ => True) (fun _ Us oS Us' => ∃ vR LR, oS = .returned vR ∧ Q_rm_al r h0 n0 vR Us'.heap LR ∧ FrameEnd Us oS Us' LR r_2.cells r_2.slots) := by
  refine MetFree.of_bodySF (plainFor_of_name pno_6) hisR ?_
  intro pP e s m args below meth cC s₁ Bd hml0 hP hK
  obtain ⟨rfl, hZ, hh⟩ := hP
  have hx := Bd.exec
  have W := own_W hw
  have hby := Bd.bytes
  have hml : cC.maxLocals = 1 := hml0
  have hown : s.vm.findClass "java/lang/AbstractStringBuilder" = some m.cls := findClass_of_methodNamed Bd.named
  have hnm := (name_of_methodNamed Bd.named Bd.method).1
  have X0 : Stand pP l e r_2 s m #[(.ref a)] below meth cC s₁ [] 0 0 := Stand.of_body Bd
  have e0 : s₁.heap = h0 := by rw [← hh, Bd.state]; rfl
  have N0 := Fr.nil n0
  have KC0 : Keep h0 h0 [] := Keep.refl h0 _
  obtain ⟨A0, hA0⟩ : ∃ ζ, ζ = s₁.setTop (entryFrame m #[(.ref a)] 1) := ⟨_, rfl⟩
  have pre0 : own_go pP e below A0 (s₁.setTop (mkF m 0 #[.val (.ref a)] [])) := fun τ κ => by rw [hA0]; exact castTop (ef_rm_al m a) κ
  obtain ⟨T101, X101, e101, st101⟩ := getF X0 hx hZ hown (host := "") (Or.inl (W 178 rfl)) Via.refl e0 F (g := (mkF m 1 #[.val (.ref a)] [(.ref a)])) rfl rfl (hb hby (own_d D_al 1 rfl))
  have pq102 : own_go pP e below A0 (T101.setTop (mkF m 4 #[.val (.ref a)] [(.int r)])) := by
    intro τ κ
    refine pre0 τ ?_
    refine XS.aloadN X0.here hx rfl (hb hby (own_d D_al 0 rfl)) rfl rfl ?_
    refine st101 _ ?_
    exact κ
  obtain ⟨fs, hrE, hrun, hended, hW, hsame⟩ := X101.leave (v := some (.int r)) (fun h => by rw [Bd.returns] at h; cases h)
  have pqE := pq102
  rw [hA0] at pqE
  refine ⟨_, _, pqE _ ?_, hrun, hended, _, _, rfl, ?_, ⟨_, rfl⟩, hW, hsame.mono (by decide) (by decide)⟩
  · show Steps pP.tables e below (T101.setTop (mkF m 4 #[.val (.ref a)] [(.int r)])) _
    exact retOut X101 hx Bd.returns rfl (Or.inl ⟨rfl, Or.inl rfl, _, rfl⟩) (hb hby (own_d D_al 2 rfl)) hrE
  · show Q_rm_al r h0 n0 _ T101.heap _
    rw [e101]
    exact ⟨rfl, N0, rfl⟩
theorem D_sl : ∀ q ∈ ([(0, .aload_n 0, 1), (1, .invokespecial 343, 3), (4, .ireturn, 1)] : List (Nat × Instr × Nat)), decode jdk_67_method_93_code q.1 = .ok q.2 := by decide +kernel
theorem ef_rm_sl (m : MethodId) (x0 : Addr) : entryFrame m #[(.ref x0)] 1 = mkF m 0 #[.val (.ref x0)] [] := by first | (simp [entryFrame, mkF, argsToLocals, Value.category]; done) | rfl
theorem rm_sl (l : Launch) (Z : State) (a0 : Array Value) (hw : ∀ d ∈ tables_1, d.before a0 Z = true) (ws : List Jvm.Cond) (a : Addr) (r : Int32) (h0 : Heap) (n0 : Nat) (Z0 : n0 ≤ h0.size) (E : Exa Z h0 a "java/lang/StringBuilder") (F : Fld Z h0 a "java/lang/AbstractStringBuilder" "count" "I" (.int r)) :
    MetFree l y_51 (head1 (Jvm.Cond.code y_51 jdk_67_method_93_code 1 (some .int) :: ws) r_19) (fun αs U => αs = #[(.ref a)] ∧ Z.Warmed39 U.vm ∧ U.heap = h0) (fun _ _ _ _ _ => True) (fun _ Us oS Us' => ∃ vR LR, oS = .returned vR ∧ Q_rm_al r h0 n0 vR Us'.heap LR ∧ FrameEnd Us oS Us' LR r_19.cells r_19.slots) := by
  refine MetFree.of_bodySF (plainFor_of_name pno_7) hisR ?_
  intro pP e s m args below meth cC s₁ Bd hml0 hP hK
  obtain ⟨rfl, hZ, hh⟩ := hP
  have hx := Bd.exec
  have W := own_W hw
  have hby := Bd.bytes
  have hml : cC.maxLocals = 1 := hml0
  have hown : s.vm.findClass "java/lang/StringBuilder" = some m.cls := findClass_of_methodNamed Bd.named
  have hnm := (name_of_methodNamed Bd.named Bd.method).1
  have X0 : Stand pP l e r_19 s m #[(.ref a)] below meth cC s₁ [] 0 0 := Stand.of_body Bd
  have e0 : s₁.heap = h0 := by rw [← hh, Bd.state]; rfl
  have N0 := Fr.nil n0
  have KC0 : Keep h0 h0 [] := Keep.refl h0 _
  obtain ⟨A0, hA0⟩ : ∃ ζ, ζ = s₁.setTop (entryFrame m #[(.ref a)] 1) := ⟨_, rfl⟩
  have pre0 : own_go pP e below A0 (s₁.setTop (mkF m 0 #[.val (.ref a)] [])) := fun τ κ => by rw [hA0]; exact castTop (ef_rm_sl m a) κ
  obtain ⟨_, _, ⟨T101, L101, k101, n101⟩, -, X101, ⟨Lc101, hQ101, l101, y101, z101⟩, st101⟩ := superBack X0 hx (y := y_50) hZ hown (W 262 rfl) (own_sameM (n := "ensureCapacityInternal") (d := "(I)V") (W 258 rfl) (by decide) (W 183 rfl)) (W 258 rfl) (W 174 rfl) (by decide) (backOf (W := 0) (rm_al l Z a0 hw [] a r h0 n0 Z0 F) hZ (W 263 rfl) (W 95 rfl) (by decide) (by decide)) e0 (Ins.self E) (g := (mkF m 1 #[.val (.ref a)] [(.ref a)])) rfl (by rw [hml]; rfl) (W 263 rfl) (argsL := []) (rest := []) (lenOf pdo_11 rfl) rfl (Nat.le_of_eq rfl) (hb hby (own_d D_sl 1 rfl)) (fun _ _ => ⟨rfl, e0, (by decide : 0 + 0 ≤ _), (by decide : 0 + 0 ≤ _)⟩)
  dsimp only [Pt.U, Pt.locs, Pt.cells, Pt.slots] at X101 l101 y101 z101 st101 hQ101
  subst l101 y101 z101
  obtain ⟨rfl, Nq101, eq101⟩ := hQ101
  have N101 := Fr.app N0 Nq101
  have pq102 : own_go pP e below A0 (T101.setTop (mkF m 4 #[.val (.ref a)] [(.int r)])) := by
    intro τ κ
    refine pre0 τ ?_
    refine XS.aloadN X0.here hx rfl (hb hby (own_d D_sl 0 rfl)) rfl rfl ?_
    refine st101.trans ?_
    exact κ
  obtain ⟨fs, hrE, hrun, hended, hW, hsame⟩ := X101.leave (v := some (.int r)) (fun h => by rw [Bd.returns] at h; cases h)
  have pqE := pq102
  rw [hA0] at pqE
  refine ⟨_, _, pqE _ ?_, hrun, hended, _, _, rfl, ?_, ⟨_, rfl⟩, hW, hsame.mono (by decide) (by decide)⟩
  · show Steps pP.tables e below (T101.setTop (mkF m 4 #[.val (.ref a)] [(.int r)])) _
    exact retOut X101 hx Bd.returns rfl (Or.inl ⟨rfl, Or.inl rfl, _, rfl⟩) (hb hby (own_d D_sl 2 rfl)) hrE
  · show Q_rm_al r h0 n0 _ T101.heap _
    rw [eq101]
    exact ⟨rfl, N101, rfl⟩
def Q_ts (Z : State) (a : Addr) (vs : List Value) (h0 : Heap) (n0 : Nat) (v : Option Value) (h : Heap) (L : List Loc) : Prop := ∃ (t : Addr) (kb : ClassId), v = none ∧ Fr n0 L ∧ Keep h0 h [a] ∧ h0.size ≤ t ∧ Exa Z h a "java/lang/String" ∧ Fld Z h a "java/lang/String" "coder" "B" (.int 1) ∧ Fld Z h a "java/lang/String" "value" "[B" (.ref t) ∧ Arv Z h t kb .byte (Int32.ofNat 86) (own_cp vs 86) (.int 0)
theorem D_sfa : ∀ q ∈ ([(0, .aload_n 0, 1), (1, .invokespecial 1, 3), (4, .aload_n 1, 1), (5, .invokevirtual 552, 3), (8, .astore_n 3, 1), (9, .aload_n 1, 1), (10, .invokevirtual 549, 3), (13, .istore 4, 2), (15, .aload_n 1, 1), (16, .invokevirtual 1047, 3), (19, .ifCond .eq 22, 3), (41, .getstatic 38, 3), (44, .ifCond .eq 35, 3), (47, .aload_n 1, 1), (48, .getfield 1048, 3), (51, .ifCond .eq 28, 3), (79, .aload_n 0, 1), (80, .iconst 1, 1), (81, .putfield 15, 3), (84, .aload_n 0, 1), (85, .aload_n 3, 1), (86, .iconst 0, 1), (87, .iload 4, 2), (89, .iconst 1, 1), (90, .ishl, 1), (91, .invokestatic 54, 3), (94, .putfield 9, 3), (97, .return_, 1)] : List (Nat × Instr × Nat)), decode jdk_42_method_150_code q.1 = .ok q.2 := by decide +kernel
theorem ef_rm_sfa (m : MethodId) (x0 : Addr) (x1 : Addr) : entryFrame m #[(.ref x0), (.ref x1), .null] 5 = mkF m 0 #[.val (.ref x0), .val (.ref x1), .val .null, .unset, .unset] [] := by first | (simp [entryFrame, mkF, argsToLocals, Value.category]; done) | rfl
theorem rm_sfa (l : Launch) (Z : State) (a0 : Array Value) (hw : ∀ d ∈ tables_1, d.before a0 Z = true) (ws : List Jvm.Cond) (a : Addr) (sb vb : Addr) (kv : ClassId) (vs : List Value) (G1 : Int32) (h0 : Heap) (n0 : Nat) (Z0 : n0 ≤ h0.size) (O2 : Sta Z Z.heap "java/lang/String" "COMPACT_STRINGS" "Z" (.int G1)) (P5 : ¬ (G1 = (0 : Int32))) (X00 : Old Z n0 h0) (E_a : Exa Z h0 a "java/lang/String") (ga : n0 ≤ a) (F_value : Fld Z h0 a "java/lang/String" "value" "[B" .null) (F_coder : Fld Z h0 a "java/lang/String" "coder" "B" (.int (0 : Int32))) (E_sb : Exa Z h0 sb "java/lang/StringBuilder") (F_sv : Fld Z h0 sb "java/lang/AbstractStringBuilder" "value" "[B" (.ref vb)) (F_sc : Fld Z h0 sb "java/lang/AbstractStringBuilder" "coder" "B" (.int 1)) (F_sn : Fld Z h0 sb "java/lang/AbstractStringBuilder" "count" "I" (.int 43)) (F_sm : Fld Z h0 sb "java/lang/AbstractStringBuilder" "maybeLatin1" "Z" (.int 0)) (V_b : Arv Z h0 vb kv .byte (Int32.ofNat (2 * 82)) vs (.int 0)) :
    MetFree l y_52 (head1 (Jvm.Cond.code y_52 jdk_42_method_150_code 5 none :: ws) r_37) (fun αs U => αs = #[(.ref a), (.ref sb), .null] ∧ Z.Warmed39 U.vm ∧ U.heap = h0) (fun _ _ _ _ _ => True) (fun _ Us oS Us' => ∃ vR LR, oS = .returned vR ∧ Q_ts Z a vs h0 n0 vR Us'.heap LR ∧ FrameEnd Us oS Us' LR r_37.cells r_37.slots) := by
  refine MetFree.of_bodySF (plainFor_of_name pno_1) hisR ?_
  intro pP e s m args below meth cC s₁ Bd hml0 hP hK
  obtain ⟨rfl, hZ, hh⟩ := hP
  have hx := Bd.exec
  have W := own_W hw
  have hby := Bd.bytes
  have hml : cC.maxLocals = 5 := hml0
  have hown : s.vm.findClass "java/lang/String" = some m.cls := findClass_of_methodNamed Bd.named
  have hnm := (name_of_methodNamed Bd.named Bd.method).1
  have X0 : Stand pP l e r_37 s m #[(.ref a), (.ref sb), .null] below meth cC s₁ [] 0 0 := Stand.of_body Bd
  have e0 : s₁.heap = h0 := by rw [← hh, Bd.state]; rfl
  have N0 := Fr.nil n0
  have KC0 : Keep h0 h0 [a] := Keep.refl h0 _
  obtain ⟨A0, hA0⟩ : ∃ ζ, ζ = s₁.setTop (entryFrame m #[(.ref a), (.ref sb), .null] 5) := ⟨_, rfl⟩
  have pre0 : own_go pP e below A0 (s₁.setTop (mkF m 0 #[.val (.ref a), .val (.ref sb), .val .null, .unset, .unset] [])) := fun τ κ => by rw [hA0]; exact castTop (ef_rm_sfa m a sb) κ
  obtain ⟨T101, X101, e101, st101⟩ := initO X0 hx hZ hown (W 21 rfl) (W 22 rfl) (W 23 rfl) e0 (g := (mkF m 1 #[.val (.ref a), .val (.ref sb), .val .null, .unset, .unset] [(.ref a)])) rfl (by rw [hml]; rfl) rfl (hb hby (own_d D_sfa 1 rfl)) (by decide) (W := 0) (Nat.le_of_eq rfl) (by decide)
  have pq102 : own_go pP e below A0 (T101.setTop (mkF m 4 #[.val (.ref a), .val (.ref sb), .val .null, .unset, .unset] [])) := by
    intro τ κ
    refine pre0 τ ?_
    refine XS.aloadN X0.here hx rfl (hb hby (own_d D_sfa 0 rfl)) rfl rfl ?_
    refine st101 _ ?_
    exact κ
  obtain ⟨cq104, kq104, q104a, q104b, q104c⟩ := isOf hZ e101 E_sb
  obtain ⟨_, _, ⟨T103, L103, k103, n103⟩, -, X103, ⟨Lc103, hQ103, l103, y103, z103⟩, st103⟩ := X101.virtualBack hx (y := y_49) (z := y_49) hown (mvT hZ (W 251 rfl)) (mvT hZ (W 252 rfl)) (notFace_of_selects (args := #[]) (mvT hZ (W 254 rfl))) (mvT hZ (W 254 rfl)) (mvT hZ (W 253 rfl)) (by decide) (backOf (W := 0) (rm_gv l Z a0 hw [] sb vb h0 n0 Z0 F_sv) hZ (W 255 rfl) (W 95 rfl) (by decide) (by decide)) q104a q104c (g := (mkF m 5 #[.val (.ref a), .val (.ref sb), .val .null, .unset, .unset] [(.ref sb)])) rfl (by rw [hml]; rfl) (Steps.refl _) (argsL := []) (rest := []) (lenOf pdo_32 rfl) rfl (Nat.le_of_eq rfl) (hb hby (own_d D_sfa 3 rfl)) (fun _ _ => ⟨rfl, e101, (by decide : 0 + 0 ≤ _), (by decide : 0 + 0 ≤ _)⟩)
  dsimp only [Pt.U, Pt.locs, Pt.cells, Pt.slots] at X103 l103 y103 z103 st103 hQ103
  subst l103 y103 z103
  obtain ⟨rfl, Nq103, eq103⟩ := hQ103
  have N103 := Fr.app N0 Nq103
  have pq105 : own_go pP e below A0 (T103.setTop (mkF m 8 #[.val (.ref a), .val (.ref sb), .val .null, .unset, .unset] [(.ref vb)])) := by
    intro τ κ
    refine pq102 τ ?_
    refine XS.aloadN X101.here hx rfl (hb hby (own_d D_sfa 2 rfl)) rfl rfl ?_
    refine st103.trans ?_
    exact κ
  obtain ⟨cq107, kq107, q107a, q107b, q107c⟩ := isOf hZ eq103 E_sb
  obtain ⟨_, _, ⟨T106, L106, k106, n106⟩, -, X106, ⟨Lc106, hQ106, l106, y106, z106⟩, st106⟩ := X103.virtualBack hx (y := y_50) (z := y_51) hown (mvT hZ (W 256 rfl)) (mvT hZ (W 257 rfl)) (own_notFace (args := #[]) (z := y_40) (mvT hZ (W 183 rfl)) rfl) (mvT hZ (W 259 rfl)) (mvT hZ (W 260 rfl)) (by decide) (backOf (W := 0) (rm_sl l Z a0 hw [] sb (43 : Int32) h0 n0 Z0 E_sb F_sn) hZ (W 261 rfl) (W 87 rfl) (by decide) (by decide)) q107a q107c (g := (mkF m 10 #[.val (.ref a), .val (.ref sb), .val .null, .val (.ref vb), .unset] [(.ref sb)])) rfl (by rw [hml]; rfl) (Steps.refl _) (argsL := []) (rest := []) (lenOf pdo_11 rfl) rfl (Nat.le_of_eq rfl) (hb hby (own_d D_sfa 6 rfl)) (fun _ _ => ⟨rfl, eq103, (by decide : 0 + 0 ≤ _), (by decide : 0 + 0 ≤ _)⟩)
  dsimp only [Pt.U, Pt.locs, Pt.cells, Pt.slots] at X106 l106 y106 z106 st106 hQ106
  subst l106 y106 z106
  obtain ⟨rfl, Nq106, eq106⟩ := hQ106
  have N106 := Fr.app N103 Nq106
  have pq108 : own_go pP e below A0 (T106.setTop (mkF m 13 #[.val (.ref a), .val (.ref sb), .val .null, .val (.ref vb), .unset] [(.int (43 : Int32))])) := by
    intro τ κ
    refine pq105 τ ?_
    refine XS.astoreN X103.here hx rfl (hb hby (own_d D_sfa 4 rfl)) rfl rfl (l' := #[.val (.ref a), .val (.ref sb), .val .null, .val (.ref vb), .unset]) rfl ?_
    refine XS.aloadN X103.here hx rfl (hb hby (own_d D_sfa 5 rfl)) rfl rfl ?_
    refine st106.trans ?_
    exact κ
  obtain ⟨cq110, kq110, q110a, q110b, q110c⟩ := isOf hZ eq106 E_sb
  obtain ⟨_, _, ⟨T109, L109, k109, n109⟩, -, X109, ⟨Lc109, hQ109, l109, y109, z109⟩, st109⟩ := X106.virtualBack hx (y := y_35) (z := y_35) hown (mvT hZ (W 264 rfl)) (mvT hZ (W 219 rfl)) (notFace_of_selects (args := #[]) (mvT hZ (W 221 rfl))) (mvT hZ (W 221 rfl)) (mvT hZ (W 220 rfl)) (by decide) (backOf (W := 0) (rm_bl1 l Z a0 hw [] sb G1 h0 n0 Z0 O2 P5 X00 F_sc) hZ (W 222 rfl) (W 95 rfl) (by decide) (by decide)) q110a q110c (g := (mkF m 16 #[.val (.ref a), .val (.ref sb), .val .null, .val (.ref vb), .val (.int (43 : Int32))] [(.ref sb)])) rfl (by rw [hml]; rfl) (Steps.refl _) (argsL := []) (rest := []) (lenOf pdo_22 rfl) rfl (Nat.le_of_eq rfl) (hb hby (own_d D_sfa 9 rfl)) (fun _ _ => ⟨rfl, eq106, (by decide : 0 + 0 ≤ _), (by decide : 0 + 0 ≤ _)⟩)
  dsimp only [Pt.U, Pt.locs, Pt.cells, Pt.slots] at X109 l109 y109 z109 st109 hQ109
  subst l109 y109 z109
  obtain ⟨rfl, Nq109, eq109⟩ := hQ109
  have N109 := Fr.app N106 Nq109
  have pq111 : own_go pP e below A0 (T109.setTop (mkF m 19 #[.val (.ref a), .val (.ref sb), .val .null, .val (.ref vb), .val (.int (43 : Int32))] [(.int (0 : Int32))])) := by
    intro τ κ
    refine pq108 τ ?_
    refine XS.istore X106.here hx rfl (hb hby (own_d D_sfa 7 rfl)) rfl (l' := #[.val (.ref a), .val (.ref sb), .val .null, .val (.ref vb), .val (.int (43 : Int32))]) rfl ?_
    refine XS.aloadN X106.here hx rfl (hb hby (own_d D_sfa 8 rfl)) rfl rfl ?_
    refine st109.trans ?_
    exact κ
  obtain ⟨T112, X112, e112, st112⟩ := getS2 X109 hx hZ hown (host := "") (Or.inl (W 36 rfl)) Via.refl eq109 (O2.ext X00.2) (g := (mkF m 41 #[.val (.ref a), .val (.ref sb), .val .null, .val (.ref vb), .val (.int (43 : Int32))] [])) rfl (hb hby (own_d D_sfa 11 rfl))
  have pq113 : own_go pP e below A0 (T112.setTop (mkF m 44 #[.val (.ref a), .val (.ref sb), .val .null, .val (.ref vb), .val (.int (43 : Int32))] [(.int G1)])) := by
    intro τ κ
    refine pq111 τ ?_
    refine XS.ifYes X109.here hx rfl (pc0 := 19) (pc' := 41) rfl (hb hby (own_d D_sfa 10 rfl)) rfl ((if0 _ _).trans (teq (by decide : ((0 : Int32) = (0 : Int32)))).1) (by decide) (by decide) ?_
    refine st112 _ ?_
    exact κ
  obtain ⟨T114, X114, e114, st114⟩ := getF X112 hx hZ hown (host := "") (Or.inl (W 265 rfl)) Via.refl e112 F_sm (g := (mkF m 48 #[.val (.ref a), .val (.ref sb), .val .null, .val (.ref vb), .val (.int (43 : Int32))] [(.ref sb)])) rfl rfl (hb hby (own_d D_sfa 14 rfl))
  have pq115 : own_go pP e below A0 (T114.setTop (mkF m 51 #[.val (.ref a), .val (.ref sb), .val .null, .val (.ref vb), .val (.int (43 : Int32))] [(.int (0 : Int32))])) := by
    intro τ κ
    refine pq113 τ ?_
    refine XS.ifNo X112.here hx rfl (hb hby (own_d D_sfa 12 rfl)) rfl ((if0 _ _).trans (feq P5).1) ?_
    refine XS.aloadN X112.here hx rfl (hb hby (own_d D_sfa 13 rfl)) rfl rfl ?_
    refine st114 _ ?_
    exact κ
  obtain ⟨T116, h116, X116, e116, W116, st116⟩ := putFN X114 hx hZ hown (W 31 rfl) Via.refl e114 F_coder E_a (Or.inr ⟨(W 27 rfl), rfl, hnm⟩) (W 12 rfl) (ty := .byte) (v' := (.int (1 : Int32))) (by decide) rfl (by decide) (g := (mkF m 81 #[.val (.ref a), .val (.ref sb), .val .null, .val (.ref vb), .val (.int (43 : Int32))] [(.int (1 : Int32)), (.ref a)])) rfl rfl (hb hby (own_d D_sfa 18 rfl))
  have pq117 : own_go pP e below A0 (T116.setTop (mkF m 84 #[.val (.ref a), .val (.ref sb), .val .null, .val (.ref vb), .val (.int (43 : Int32))] [])) := by
    intro τ κ
    refine pq115 τ ?_
    refine XS.ifYes X114.here hx rfl (pc0 := 51) (pc' := 79) rfl (hb hby (own_d D_sfa 15 rfl)) rfl ((if0 _ _).trans (teq (by decide : ((0 : Int32) = (0 : Int32)))).1) (by decide) (by decide) ?_
    refine XS.aloadN X114.here hx rfl (hb hby (own_d D_sfa 16 rfl)) rfl rfl ?_
    refine XS.iconst X114.here hx rfl (hb hby (own_d D_sfa 17 rfl)) ?_
    refine st116 _ ?_
    exact κ
  have KC116 := KC0.wr W116 (Or.inl (List.mem_of_getElem? (i := 0) rfl))
  have Fw116 := F_coder.same W116
  have N116 := Fr.snoc X116 N109 ga
  have pq118 : own_go pP e below A0 (T116.setTop (mkF m 91 #[.val (.ref a), .val (.ref sb), .val .null, .val (.ref vb), .val (.int (43 : Int32))] [(.int ((43 : Int32) <<< ((1 : Int32) &&& 31))), (.int (0 : Int32)), (.ref vb), (.ref a)])) := by
    intro τ κ
    refine pq117 τ ?_
    refine XS.aloadN X116.here hx rfl (hb hby (own_d D_sfa 19 rfl)) rfl rfl ?_
    refine XS.aloadN X116.here hx rfl (hb hby (own_d D_sfa 20 rfl)) rfl rfl ?_
    refine XS.iconst X116.here hx rfl (hb hby (own_d D_sfa 21 rfl)) ?_
    refine XS.iload X116.here hx rfl (hb hby (own_d D_sfa 22 rfl)) rfl ?_
    refine XS.iconst X116.here hx rfl (hb hby (own_d D_sfa 23 rfl)) ?_
    refine XS.ishl X116.here hx rfl (hb hby (own_d D_sfa 24 rfl)) rfl ?_
    exact κ
  have pq119 : own_go pP e below A0 (T116.setTop (mkF m 91 #[.val (.ref a), .val (.ref sb), .val .null, .val (.ref vb), .val (.int (43 : Int32))] [(.int (Int32.ofNat 86)), (.int (0 : Int32)), (.ref vb), (.ref a)])) := by intro τ κ; refine pq118 τ ?_; rw [show ((43 : Int32) <<< ((1 : Int32) &&& 31)) = (Int32.ofNat 86) from (by decide)]; exact κ
  have f120 := (V_b.other W116 (Ne.symm (own_ne_arv E_a (W 12 rfl) V_b)))
  have f121 := (Nat.le_trans Z0 (Keep.of_wr W116).1)
  obtain ⟨_, _, ⟨T122, L122, k122, n122⟩, -, X122, ⟨Lc122, hQ122, l122, y122, z122⟩, st122⟩ := Jvm.LawKit.callS X116 hx (y := y_28) hown (mvT hZ (W 267 rfl)) (mvT hZ (W 145 rfl)) (mvT hZ (W 146 rfl)) (mvT hZ (W 147 rfl)) (by decide) (backOf (W := 1) (rm_cor l Z a0 hw [] vb kv (2 * 82) 86 vs h116 n0 f121 f120 (by decide) (by decide)) hZ (W 147 rfl) (W 146 rfl) (by decide) (by decide)) (g := (mkF m 91 #[.val (.ref a), .val (.ref sb), .val .null, .val (.ref vb), .val (.int (43 : Int32))] [(.int (Int32.ofNat 86)), (.int (0 : Int32)), (.ref vb), (.ref a)])) rfl (by rw [hml]; rfl) (argsL := [(.ref vb), (.int (0 : Int32)), (.int (Int32.ofNat 86))]) (rest := [(.ref a)]) (lenOf pdo_18 rfl) rfl (Nat.le_of_eq rfl) (hb hby (own_d D_sfa 25 rfl)) (fun _ _ => ⟨rfl, e116, (by decide : 0 + 1 ≤ _), (by decide : 0 + 400 ≤ _)⟩)
  dsimp only [Pt.U, Pt.locs, Pt.cells, Pt.slots] at X122 l122 y122 z122 st122 hQ122
  subst l122 y122 z122
  obtain ⟨b122, kb122, rfl, Nq122, K122, lb122, V122⟩ := hQ122
  have N122 := Fr.app N116 Nq122
  have pq123 : own_go pP e below A0 (T122.setTop (mkF m 94 #[.val (.ref a), .val (.ref sb), .val .null, .val (.ref vb), .val (.int (43 : Int32))] [(.ref b122), (.ref a)])) := by
    intro τ κ
    refine pq119 τ ?_
    refine st122 _ ?_
    exact κ
  have KC122 := KC116.trans K122 all0
  have f124 := ((E_a.wr W116).keep K122)
  have f125 := ((F_value.other W116 (Or.inr (slot_ne (Or.inr (W 26 rfl)) (Or.inr (W 27 rfl)) (by decide) (t := (.array .byte)) (t' := .byte) (by decide) (by decide)))).keep K122 nin0)
  obtain ⟨T126, h126, X126, e126, W126, st126⟩ := putF X122 hx hZ hown (host := "") (Or.inl (W 30 rfl)) Via.refl rfl f125 f124 (Or.inr ⟨(W 26 rfl), rfl, hnm⟩) (W 12 rfl) (ty := (.array .byte)) (by decide) rfl rfl (g := (mkF m 94 #[.val (.ref a), .val (.ref sb), .val .null, .val (.ref vb), .val (.int (43 : Int32))] [(.ref b122), (.ref a)])) rfl rfl (hb hby (own_d D_sfa 26 rfl))
  have pq127 : own_go pP e below A0 (T126.setTop (mkF m 97 #[.val (.ref a), .val (.ref sb), .val .null, .val (.ref vb), .val (.int (43 : Int32))] [])) := by
    intro τ κ
    refine pq123 τ ?_
    refine st126 _ ?_
    exact κ
  have KC126 := KC122.wr W126 (Or.inl (List.mem_of_getElem? (i := 0) rfl))
  have Fw126 := f125.same W126
  have N126 := Fr.snoc X126 N122 ga
  have f128 := (f124.wr W126)
  have f129 := ((Fw116.keep K122 nin0).other W126 (Or.inr (slot_ne (Or.inr (W 27 rfl)) (Or.inr (W 26 rfl)) (by decide) (t := .byte) (t' := (.array .byte)) (by decide) (by decide))))
  have f130 := (V122.other W126 (Ne.symm (Nat.ne_of_lt (Nat.lt_of_lt_of_le (E_a.wr W116).lt lb122))))
  obtain ⟨fs, hrE, hrun, hended, hW, hsame⟩ := X126.leave (v := none) (fun _ => rfl)
  have pqE := pq127
  rw [hA0] at pqE
  refine ⟨_, _, pqE _ ?_, hrun, hended, _, _, rfl, ?_, ⟨_, rfl⟩, hW, hsame.mono (by decide) (by decide)⟩
  · show Steps pP.tables e below (T126.setTop (mkF m 97 #[.val (.ref a), .val (.ref sb), .val .null, .val (.ref vb), .val (.int (43 : Int32))] [])) _
    exact X126.returnOut hx Bd.returns (hb hby (own_d D_sfa 27 rfl)) hrE
  · show Q_ts Z a vs h0 n0 _ T126.heap _
    rw [e126]
    exact ⟨b122, _, rfl, N126, KC126, (Nat.le_trans (Nat.le_trans (Nat.le_refl _) (Keep.of_wr W116).1) lb122), f128, f129, Fw126, f130⟩
theorem D_sfb : ∀ q ∈ ([(0, .aload_n 0, 1), (1, .aload_n 1, 1), (2, .aconst_null, 1), (3, .invokespecial 489, 3), (6, .return_, 1)] : List (Nat × Instr × Nat)), decode jdk_42_method_53_code q.1 = .ok q.2 := by decide +kernel
theorem ef_rm_sfb (m : MethodId) (x0 : Addr) (x1 : Addr) : entryFrame m #[(.ref x0), (.ref x1)] 2 = mkF m 0 #[.val (.ref x0), .val (.ref x1)] [] := by first | (simp [entryFrame, mkF, argsToLocals, Value.category]; done) | rfl
theorem rm_sfb (l : Launch) (Z : State) (a0 : Array Value) (hw : ∀ d ∈ tables_1, d.before a0 Z = true) (ws : List Jvm.Cond) (a : Addr) (sb vb : Addr) (kv : ClassId) (vs : List Value) (G1 : Int32) (h0 : Heap) (n0 : Nat) (Z0 : n0 ≤ h0.size) (O2 : Sta Z Z.heap "java/lang/String" "COMPACT_STRINGS" "Z" (.int G1)) (P5 : ¬ (G1 = (0 : Int32))) (X00 : Old Z n0 h0) (E_a : Exa Z h0 a "java/lang/String") (ga : n0 ≤ a) (F_value : Fld Z h0 a "java/lang/String" "value" "[B" .null) (F_coder : Fld Z h0 a "java/lang/String" "coder" "B" (.int (0 : Int32))) (E_sb : Exa Z h0 sb "java/lang/StringBuilder") (F_sv : Fld Z h0 sb "java/lang/AbstractStringBuilder" "value" "[B" (.ref vb)) (F_sc : Fld Z h0 sb "java/lang/AbstractStringBuilder" "coder" "B" (.int 1)) (F_sn : Fld Z h0 sb "java/lang/AbstractStringBuilder" "count" "I" (.int 43)) (F_sm : Fld Z h0 sb "java/lang/AbstractStringBuilder" "maybeLatin1" "Z" (.int 0)) (V_b : Arv Z h0 vb kv .byte (Int32.ofNat (2 * 82)) vs (.int 0)) :
    MetFree l y_53 (head1 (Jvm.Cond.code y_53 jdk_42_method_53_code 2 none :: ws) r_38) (fun αs U => αs = #[(.ref a), (.ref sb)] ∧ Z.Warmed39 U.vm ∧ U.heap = h0) (fun _ _ _ _ _ => True) (fun _ Us oS Us' => ∃ vR LR, oS = .returned vR ∧ Q_ts Z a vs h0 n0 vR Us'.heap LR ∧ FrameEnd Us oS Us' LR r_38.cells r_38.slots) := by
  refine MetFree.of_bodySF (plainFor_of_name pno_1) hisR ?_
  intro pP e s m args below meth cC s₁ Bd hml0 hP hK
  obtain ⟨rfl, hZ, hh⟩ := hP
  have hx := Bd.exec
  have W := own_W hw
  have hby := Bd.bytes
  have hml : cC.maxLocals = 2 := hml0
  have hown : s.vm.findClass "java/lang/String" = some m.cls := findClass_of_methodNamed Bd.named
  have hnm := (name_of_methodNamed Bd.named Bd.method).1
  have X0 : Stand pP l e r_38 s m #[(.ref a), (.ref sb)] below meth cC s₁ [] 0 0 := Stand.of_body Bd
  have e0 : s₁.heap = h0 := by rw [← hh, Bd.state]; rfl
  have N0 := Fr.nil n0
  have KC0 : Keep h0 h0 [a] := Keep.refl h0 _
  obtain ⟨A0, hA0⟩ : ∃ ζ, ζ = s₁.setTop (entryFrame m #[(.ref a), (.ref sb)] 2) := ⟨_, rfl⟩
  have pre0 : own_go pP e below A0 (s₁.setTop (mkF m 0 #[.val (.ref a), .val (.ref sb)] [])) := fun τ κ => by rw [hA0]; exact castTop (ef_rm_sfb m a sb) κ
  obtain ⟨_, _, ⟨T101, L101, k101, n101⟩, -, X101, ⟨Lc101, hQ101, l101, y101, z101⟩, st101⟩ := X0.specialBack hx (y := y_52) rfl hown (mvT hZ (W 248 rfl)) (mvT hZ (W 249 rfl)) (mvT hZ (W 250 rfl)) (by decide) (backOf (W := 0) (rm_sfa l Z a0 hw [] a sb vb kv vs G1 h0 n0 Z0 O2 P5 X00 E_a ga F_value F_coder E_sb F_sv F_sc F_sn F_sm V_b) hZ (W 250 rfl) (W 13 rfl) (by decide) (by decide)) (g := (mkF m 3 #[.val (.ref a), .val (.ref sb)] [.null, (.ref sb), (.ref a)])) rfl (by rw [hml]; rfl) (Steps.refl _) (a := a) (argsL := [(.ref sb), .null]) (rest := []) (lenOf pdo_33 rfl) rfl (Nat.le_of_eq rfl) (hb hby (own_d D_sfb 3 rfl)) (fun _ _ => ⟨rfl, e0, (by decide : 0 + 1 ≤ _), (by decide : 0 + 400 ≤ _)⟩)
  dsimp only [Pt.U, Pt.locs, Pt.cells, Pt.slots] at X101 l101 y101 z101 st101 hQ101
  subst l101 y101 z101
  obtain ⟨t101, kb101, rfl, Nq101, K101, lb101, Ex101, Fc101, Fv101, Vt101⟩ := hQ101
  have N101 := Fr.app N0 Nq101
  have pq102 : own_go pP e below A0 (T101.setTop (mkF m 6 #[.val (.ref a), .val (.ref sb)] [])) := by
    intro τ κ
    refine pre0 τ ?_
    refine XS.aloadN X0.here hx rfl (hb hby (own_d D_sfb 0 rfl)) rfl rfl ?_
    refine XS.aloadN X0.here hx rfl (hb hby (own_d D_sfb 1 rfl)) rfl rfl ?_
    refine XS.aconstNull X0.here hx rfl (hb hby (own_d D_sfb 2 rfl)) ?_
    refine st101.trans ?_
    exact κ
  have KC101 := KC0.trans K101 (allS (Or.inl (List.mem_of_getElem? (i := 0) rfl)) all0)
  obtain ⟨fs, hrE, hrun, hended, hW, hsame⟩ := X101.leave (v := none) (fun _ => rfl)
  have pqE := pq102
  rw [hA0] at pqE
  refine ⟨_, _, pqE _ ?_, hrun, hended, _, _, rfl, ?_, ⟨_, rfl⟩, hW, hsame.mono (by decide) (by decide)⟩
  · show Steps pP.tables e below (T101.setTop (mkF m 6 #[.val (.ref a), .val (.ref sb)] [])) _
    exact X101.returnOut hx Bd.returns (hb hby (own_d D_sfb 4 rfl)) hrE
  · show Q_ts Z a vs h0 n0 _ T101.heap _
    exact ⟨t101, _, rfl, N101, KC101, (Nat.le_trans (Nat.le_refl _) lb101), Ex101, Fc101, Fv101, Vt101⟩
def Q_tos (Z : State) (ds : List Int32) (h0 : Heap) (n0 : Nat) (v : Option Value) (h : Heap) (L : List Loc) : Prop := ∃ a, v = some (.ref a) ∧ Fr n0 L ∧ Keep h0 h [] ∧ h0.size ≤ a ∧ USt Z h a ds
theorem D_tos : ∀ q ∈ ([(0, .new 18, 3), (3, .dup, 1), (4, .aload_n 0, 1), (5, .invokespecial 137, 3), (8, .areturn, 1)] : List (Nat × Instr × Nat)), decode jdk_67_method_42_code q.1 = .ok q.2 := by decide +kernel
theorem ef_rm_tos (m : MethodId) (x0 : Addr) : entryFrame m #[(.ref x0)] 1 = mkF m 0 #[.val (.ref x0)] [] := by first | (simp [entryFrame, mkF, argsToLocals, Value.category]; done) | rfl
theorem rm_tos (l : Launch) (Z : State) (a0 : Array Value) (hw : ∀ d ∈ tables_1, d.before a0 Z = true) (ws : List Jvm.Cond) (sb vb : Addr) (kv : ClassId) (vs : List Value) (G1 : Int32) (ds : List Int32) (h0 : Heap) (n0 : Nat) (Z0 : n0 ≤ h0.size) (O2 : Sta Z Z.heap "java/lang/String" "COMPACT_STRINGS" "Z" (.int G1)) (P5 : ¬ (G1 = (0 : Int32))) (X00 : Old Z n0 h0) (E_sb : Exa Z h0 sb "java/lang/StringBuilder") (F_sv : Fld Z h0 sb "java/lang/AbstractStringBuilder" "value" "[B" (.ref vb)) (F_sc : Fld Z h0 sb "java/lang/AbstractStringBuilder" "coder" "B" (.int 1)) (F_sn : Fld Z h0 sb "java/lang/AbstractStringBuilder" "count" "I" (.int 43)) (F_sm : Fld Z h0 sb "java/lang/AbstractStringBuilder" "maybeLatin1" "Z" (.int 0)) (V_b : Arv Z h0 vb kv .byte (Int32.ofNat (2 * 82)) vs (.int 0)) (hlen : (ds).length = 43) (hU : own_u16 (own_cp vs 86) ds) (hp : ∀ c ∈ ds, ¬ c < 0 ∧ ¬ (65535 : Int32) < c) :
    MetFree l y_54 (head1 (Jvm.Cond.code y_54 jdk_67_method_42_code 1 (some (.object "java/lang/String")) :: ws) r_39) (fun αs U => αs = #[(.ref sb)] ∧ Z.Warmed39 U.vm ∧ U.heap = h0) (fun _ _ _ _ _ => True) (fun _ Us oS Us' => ∃ vR LR, oS = .returned vR ∧ Q_tos Z ds h0 n0 vR Us'.heap LR ∧ FrameEnd Us oS Us' LR r_39.cells r_39.slots) := by
  refine MetFree.of_bodySF (plainFor_of_name pno_7) hisR ?_
  intro pP e s m args below meth cC s₁ Bd hml0 hP hK
  obtain ⟨rfl, hZ, hh⟩ := hP
  have hx := Bd.exec
  have W := own_W hw
  have hby := Bd.bytes
  have hml : cC.maxLocals = 1 := hml0
  have hown : s.vm.findClass "java/lang/StringBuilder" = some m.cls := findClass_of_methodNamed Bd.named
  have hnm := (name_of_methodNamed Bd.named Bd.method).1
  have X0 : Stand pP l e r_39 s m #[(.ref sb)] below meth cC s₁ [] 0 0 := Stand.of_body Bd
  have e0 : s₁.heap = h0 := by rw [← hh, Bd.state]; rfl
  have N0 := Fr.nil n0
  have KC0 : Keep h0 h0 [] := Keep.refl h0 _
  obtain ⟨A0, hA0⟩ : ∃ ζ, ζ = s₁.setTop (entryFrame m #[(.ref sb)] 1) := ⟨_, rfl⟩
  have pre0 : own_go pP e below A0 (s₁.setTop (mkF m 0 #[.val (.ref sb)] [])) := fun τ κ => by rw [hA0]; exact castTop (ef_rm_tos m sb) κ
  obtain ⟨T101, h101, X101, e101, E101, A101, D101, -, st101⟩ := newO X0 hx hZ hown (W 244 rfl) (W 12 rfl) (W 13 rfl) e0 (g := (mkF m 0 #[.val (.ref sb)] [])) rfl (hb hby (own_d D_tos 0 rfl)) (by decide) (by decide)
  obtain ⟨b101, g101⟩ : ∃ z, z = h0.size := ⟨_, rfl⟩
  rw [← g101] at A101 D101 st101
  have pq102 : own_go pP e below A0 (T101.setTop (mkF m 3 #[.val (.ref sb)] [(.ref b101)])) := by
    intro τ κ
    refine pre0 τ ?_
    refine st101 _ ?_
    exact κ
  have KC101 := KC0.ext E101
  have F_value_b101 : Fld Z h101 b101 "java/lang/String" "value" "[B" .null := D101 (Or.inr (W 26 rfl)) (ty := (.array .byte)) (by decide)
  have F_coder_b101 : Fld Z h101 b101 "java/lang/String" "coder" "B" (.int (0 : Int32)) := D101 (Or.inr (W 27 rfl)) (ty := .byte) (by decide)
  have f103 := (X00.ext E101)
  have f104 := (E_sb.ext E101)
  have f105 := (F_sv.ext E101)
  have f106 := (F_sc.ext E101)
  have f107 := (F_sn.ext E101)
  have f108 := (F_sm.ext E101)
  have f109 := (V_b.ext E101)
  have f110 := (Nat.le_trans Z0 E101.1)
  obtain ⟨_, _, ⟨T111, L111, k111, n111⟩, -, X111, ⟨Lc111, hQ111, l111, y111, z111⟩, st111⟩ := X101.specialBack hx (y := y_53) rfl hown (mvT hZ (W 245 rfl)) (mvT hZ (W 246 rfl)) (mvT hZ (W 247 rfl)) (by decide) (backOf (W := 1) (rm_sfb l Z a0 hw [] b101 sb vb kv vs G1 h101 n0 f110 O2 P5 f103 A101 (Nat.le_trans Z0 (Nat.le_of_eq g101.symm)) F_value_b101 F_coder_b101 f104 f105 f106 f107 f108 f109) hZ (W 247 rfl) (W 13 rfl) (by decide) (by decide)) (g := (mkF m 5 #[.val (.ref sb)] [(.ref sb), (.ref b101), (.ref b101)])) rfl (by rw [hml]; rfl) (Steps.refl _) (a := b101) (argsL := [(.ref sb)]) (rest := [(.ref b101)]) (lenOf pdo_34 rfl) rfl (Nat.le_of_eq rfl) (hb hby (own_d D_tos 3 rfl)) (fun _ _ => ⟨rfl, e101, (by decide : 1 + 1 ≤ _), (by decide : 4 + 400 ≤ _)⟩)
  dsimp only [Pt.U, Pt.locs, Pt.cells, Pt.slots] at X111 l111 y111 z111 st111 hQ111
  subst l111 y111 z111
  obtain ⟨t111, kb111, rfl, Nq111, K111, lb111, Ex111, Fc111, Fv111, Vt111⟩ := hQ111
  have N111 := Fr.app N0 Nq111
  have pq112 : own_go pP e below A0 (T111.setTop (mkF m 8 #[.val (.ref sb)] [(.ref b101)])) := by
    intro τ κ
    refine pq102 τ ?_
    refine XS.dup X101.here hx rfl (hb hby (own_d D_tos 1 rfl)) rfl rfl ?_
    refine XS.aloadN X101.here hx rfl (hb hby (own_d D_tos 2 rfl)) rfl rfl ?_
    refine st111.trans ?_
    exact κ
  have KC111 := KC101.trans K111 (allS (Or.inr (Nat.le_trans (Nat.le_refl _) (Nat.le_of_eq g101.symm))) all0)
  obtain ⟨fs, hrE, hrun, hended, hW, hsame⟩ := X111.leave (v := some (.ref b101)) (fun h => by rw [Bd.returns] at h; cases h)
  have pqE := pq112
  rw [hA0] at pqE
  refine ⟨_, _, pqE _ ?_, hrun, hended, _, _, rfl, ?_, ⟨_, rfl⟩, hW, hsame.mono (by decide) (by decide)⟩
  · show Steps pP.tables e below (T111.setTop (mkF m 8 #[.val (.ref sb)] [(.ref b101)])) _
    exact retOut X111 hx Bd.returns rfl (Or.inr (Or.inr (Or.inr (Or.inr ⟨rfl, rfl, rfl⟩)))) (hb hby (own_d D_tos 4 rfl)) hrE
  · show Q_tos Z ds h0 n0 _ T111.heap _
    exact ⟨b101, rfl, N111, KC111, (Nat.le_trans (Nat.le_refl _) (Nat.le_of_eq g101.symm)), t111, _, Ex111, Fv111, Fc111, _, by rw [hlen]; exact Vt111, hU, hp⟩
def Q_leq (h0 : Heap) (n0 : Nat) (v : Option Value) (h : Heap) (L : List Loc) : Prop := v = some (.int 1) ∧ Fr n0 L ∧ h = h0
theorem D_leq : ∀ q ∈ ([(0, .aload_n 0, 1), (1, .arraylength, 1), (2, .aload_n 1, 1), (3, .arraylength, 1), (4, .if_icmp .ne 30, 3), (7, .iconst 0, 1), (8, .istore_n 2, 1), (9, .iload_n 2, 1), (10, .aload_n 0, 1), (11, .arraylength, 1), (12, .if_icmp .ge 20, 3), (15, .aload_n 0, 1), (16, .iload_n 2, 1), (17, .baload, 1), (18, .aload_n 1, 1), (19, .iload_n 2, 1), (20, .baload, 1), (21, .if_icmp .eq 5, 3), (26, .iinc 2 1, 3), (29, .goto (-20), 3), (32, .iconst 1, 1), (33, .ireturn, 1)] : List (Nat × Instr × Nat)), decode jdk_43_method_13_code q.1 = .ok q.2 := by decide +kernel
theorem ef_rm_leq (m : MethodId) (x0 : Addr) (x1 : Addr) : entryFrame m #[(.ref x0), (.ref x1)] 3 = mkF m 0 #[.val (.ref x0), .val (.ref x1), .unset] [] := by first | (simp [entryFrame, mkF, argsToLocals, Value.category]; done) | rfl
theorem rm_leq (l : Launch) (Z : State) (a0 : Array Value) (hw : ∀ d ∈ tables_1, d.before a0 Z = true) (ws : List Jvm.Cond) (t1 t2 : Addr) (k1 k2 : ClassId) (ds : List Int32) (v1 v2 : List Value) (h0 : Heap) (n0 : Nat) (Z0 : n0 ≤ h0.size) (V_1 : Arv Z h0 t1 k1 .byte (Int32.ofNat (2 * (ds).length)) v1 (.int 0)) (V_2 : Arv Z h0 t2 k2 .byte (Int32.ofNat (2 * (ds).length)) v2 (.int 0)) (hu1 : own_u16 v1 ds) (hu2 : own_u16 v2 ds) (hl : (ds).length ≤ 45) :
    MetFree l y_55 (head1 (Jvm.Cond.code y_55 jdk_43_method_13_code 3 (some .boolean) :: ws) r_2) (fun αs U => αs = #[(.ref t1), (.ref t2)] ∧ Z.Warmed39 U.vm ∧ U.heap = h0) (fun _ _ _ _ _ => True) (fun _ Us oS Us' => ∃ vR LR, oS = .returned vR ∧ Q_leq h0 n0 vR Us'.heap LR ∧ FrameEnd Us oS Us' LR r_2.cells r_2.slots) := by
  refine MetFree.of_bodySF (plainFor_of_name pno_9) hisR ?_
  intro pP e s m args below meth cC s₁ Bd hml0 hP hK
  obtain ⟨rfl, hZ, hh⟩ := hP
  have hx := Bd.exec
  have hby := Bd.bytes
  have hml : cC.maxLocals = 3 := hml0
  have hown : s.vm.findClass "java/lang/StringLatin1" = some m.cls := findClass_of_methodNamed Bd.named
  have hnm := (name_of_methodNamed Bd.named Bd.method).1
  have X0 : Stand pP l e r_2 s m #[(.ref t1), (.ref t2)] below meth cC s₁ [] 0 0 := Stand.of_body Bd
  have e0 : s₁.heap = h0 := by rw [← hh, Bd.state]; rfl
  have N0 := Fr.nil n0
  have KC0 : Keep h0 h0 [] := Keep.refl h0 _
  obtain ⟨A0, hA0⟩ : ∃ ζ, ζ = s₁.setTop (entryFrame m #[(.ref t1), (.ref t2)] 3) := ⟨_, rfl⟩
  have pre0 : own_go pP e below A0 (s₁.setTop (mkF m 0 #[.val (.ref t1), .val (.ref t2), .unset] [])) := fun τ κ => by rw [hA0]; exact castTop (ef_rm_leq m t1 t2) κ
  obtain ⟨cl101, Ar101, q101, S101, M101, Hs101, G101⟩ := id V_1
  obtain ⟨cl102, Ar102, q102, S102, M102, Hs102, G102⟩ := id V_2
  have pq103 : own_go pP e below A0 (s₁.setTop (mkF m 9 #[.val (.ref t1), .val (.ref t2), .val (.int (0 : Int32))] [])) := by
    intro τ κ
    refine pre0 τ ?_
    refine XS.aloadN X0.here hx rfl (hb hby (own_d D_leq 0 rfl)) rfl rfl ?_
    refine X0.arraylength hx (by rw [e0]; exact Ar101.1) (State.isArrayOf_alike hZ.alike Ar101.2.1) (g := (mkF m 1 #[.val (.ref t1), .val (.ref t2), .unset] [(.ref t1)])) rfl rfl (hb hby (own_d D_leq 1 rfl)) _ ?_
    rw [len_of S101 M101]
    refine XS.aloadN X0.here hx rfl (hb hby (own_d D_leq 2 rfl)) rfl rfl ?_
    refine X0.arraylength hx (by rw [e0]; exact Ar102.1) (State.isArrayOf_alike hZ.alike Ar102.2.1) (g := (mkF m 3 #[.val (.ref t1), .val (.ref t2), .unset] [(.ref t2), (.int (Int32.ofNat (2 * (ds).length)))])) rfl rfl (hb hby (own_d D_leq 3 rfl)) _ ?_
    rw [len_of S102 M102]
    refine XS.icmpNo X0.here hx rfl (hb hby (own_d D_leq 4 rfl)) rfl (teq (rfl : (Int32.ofNat (2 * (ds).length)) = (Int32.ofNat (2 * (ds).length)))).2 ?_
    refine XS.iconst X0.here hx rfl (hb hby (own_d D_leq 5 rfl)) ?_
    refine XS.istoreN X0.here hx rfl (hb hby (own_d D_leq 6 rfl)) rfl (l' := #[.val (.ref t1), .val (.ref t2), .val (.int (0 : Int32))]) rfl ?_
    exact κ
  refine Classical.byContradiction fun hG => ?_
  have loop104 : ∀ (mm i : Nat), i + mm = (2 * (ds).length) → ∀ (Tlp : State) (Llp : List Loc) (hlp : Heap), Stand pP l e r_2 s m #[(.ref t1), (.ref t2)] below meth cC Tlp Llp 0 0 → Tlp.heap = hlp → Fr n0 Llp → Keep h0 hlp [] → Arv Z hlp t1 k1 .byte (Int32.ofNat (2 * (ds).length)) v1 (.int 0) → Arv Z hlp t2 k2 .byte (Int32.ofNat (2 * (ds).length)) v2 (.int 0) → hlp = h0 → (own_go pP e below A0 (Tlp.setTop (mkF m 9 #[.val (.ref t1), .val (.ref t2), .val (.int (Int32.ofNat i))] []))) → False := by
    intro mm
    induction mm with
    | zero =>
      intro i hi Tlp Llp hlp Xlp elp Nlp KClp Va Vb hm0  pqlp
      obtain ⟨cl105, Ar105, q105, S105, M105, Hs105, G105⟩ := id Va
      refine hG ?_
      obtain ⟨fs, hrE, hrun, hended, hW, hsame⟩ := Xlp.leave (v := some (.int (1 : Int32))) (fun h => by rw [Bd.returns] at h; cases h)
      have pqE := pqlp
      rw [hA0] at pqE
      refine ⟨_, _, pqE _ ?_, hrun, hended, _, _, rfl, ?_, ⟨_, rfl⟩, hW, hsame.mono (by decide) (by decide)⟩
      · refine XS.iloadN Xlp.here hx rfl (hb hby (own_d D_leq 7 rfl)) rfl ?_
        refine XS.aloadN Xlp.here hx rfl (hb hby (own_d D_leq 8 rfl)) rfl rfl ?_
        refine Xlp.arraylength hx (by rw [elp]; exact Ar105.1) (State.isArrayOf_alike hZ.alike Ar105.2.1) (g := (mkF m 11 #[.val (.ref t1), .val (.ref t2), .val (.int (Int32.ofNat i))] [(.ref t1), (.int (Int32.ofNat i))])) rfl rfl (hb hby (own_d D_leq 9 rfl)) _ ?_
        rw [len_of S105 M105]
        refine XS.icmpYes Xlp.here hx rfl (pc0 := 12) (pc' := 32) rfl (hb hby (own_d D_leq 10 rfl)) rfl (flt (by rw [show i = 2 * (ds).length by omega]; exact fun q => Int32.lt_irrefl q)).2.1 (by decide) (by decide) ?_
        refine XS.iconst Xlp.here hx rfl (hb hby (own_d D_leq 20 rfl)) ?_
        show Steps pP.tables e below (Tlp.setTop (mkF m 33 #[.val (.ref t1), .val (.ref t2), .val (.int (Int32.ofNat i))] [(.int (1 : Int32))])) _
        exact retN Xlp hx (t := .boolean) Bd.returns (by simp) (hb hby (own_d D_leq 21 rfl)) hrE
      · show Q_leq h0 n0 _ Tlp.heap _
        rw [elp]
        exact ⟨rfl, Nlp, hm0⟩
    | succ mm ih =>
      intro i hi Tlp Llp hlp Xlp elp Nlp KClp Va Vb hm0  pqlp
      obtain ⟨cl106, Ar106, q106, S106, M106, Hs106, G106⟩ := id Va
      obtain ⟨cl107, Ar107, q107, S107, M107, Hs107, G107⟩ := id Va
      have hin107 := inb_of (j := (Int32.ofNat i)) S107 ⟨own_nn (by omega), (own_ltN (by omega) (by omega)).mpr (by omega)⟩
      obtain ⟨cl108, Ar108, q108, S108, M108, Hs108, G108⟩ := id Vb
      have hin108 := inb_of (j := (Int32.ofNat i)) S108 ⟨own_nn (by omega), (own_ltN (by omega) (by omega)).mpr (by omega)⟩
      have pq109 : own_go pP e below A0 (Tlp.setTop (mkF m 9 #[.val (.ref t1), .val (.ref t2), .val (.int ((Int32.ofNat i) + (1 : Int32)))] [])) := by
        intro τ κ
        refine pqlp τ ?_
        refine XS.iloadN Xlp.here hx rfl (hb hby (own_d D_leq 7 rfl)) rfl ?_
        refine XS.aloadN Xlp.here hx rfl (hb hby (own_d D_leq 8 rfl)) rfl rfl ?_
        refine Xlp.arraylength hx (by rw [elp]; exact Ar106.1) (State.isArrayOf_alike hZ.alike Ar106.2.1) (g := (mkF m 11 #[.val (.ref t1), .val (.ref t2), .val (.int (Int32.ofNat i))] [(.ref t1), (.int (Int32.ofNat i))])) rfl rfl (hb hby (own_d D_leq 9 rfl)) _ ?_
        rw [len_of S106 M106]
        refine XS.icmpNo Xlp.here hx rfl (hb hby (own_d D_leq 10 rfl)) rfl (tlt ((own_ltN (by omega) (by omega)).mpr (by omega))).2.1 ?_
        refine XS.aloadN Xlp.here hx rfl (hb hby (own_d D_leq 11 rfl)) rfl rfl ?_
        refine XS.iloadN Xlp.here hx rfl (hb hby (own_d D_leq 12 rfl)) rfl ?_
        refine Xlp.baloadBytes hx (j := (Int32.ofNat i)) (v := (.int (own_by ds i))) (by rw [elp]; exact Ar107.1) (State.isArrayOf_alike hZ.alike Ar107.2.1) Ar107.2.2 hin107 (Has.at Hs107 hin107 (by rw [own_ofn (by omega)]; exact own_u16_get hu1 (by omega))) (g := (mkF m 17 #[.val (.ref t1), .val (.ref t2), .val (.int (Int32.ofNat i))] [(.int (Int32.ofNat i)), (.ref t1)])) rfl rfl (hb hby (own_d D_leq 13 rfl)) _ ?_
        refine XS.aloadN Xlp.here hx rfl (hb hby (own_d D_leq 14 rfl)) rfl rfl ?_
        refine XS.iloadN Xlp.here hx rfl (hb hby (own_d D_leq 15 rfl)) rfl ?_
        refine Xlp.baloadBytes hx (j := (Int32.ofNat i)) (v := (.int (own_by ds i))) (by rw [elp]; exact Ar108.1) (State.isArrayOf_alike hZ.alike Ar108.2.1) Ar108.2.2 hin108 (Has.at Hs108 hin108 (by rw [own_ofn (by omega)]; exact own_u16_get hu2 (by omega))) (g := (mkF m 20 #[.val (.ref t1), .val (.ref t2), .val (.int (Int32.ofNat i))] [(.int (Int32.ofNat i)), (.ref t2), (.int (own_by ds i))])) rfl rfl (hb hby (own_d D_leq 16 rfl)) _ ?_
        refine XS.icmpYes Xlp.here hx rfl (pc0 := 21) (pc' := 26) rfl (hb hby (own_d D_leq 17 rfl)) rfl (teq (rfl : (own_by ds i) = (own_by ds i))).1 (by decide) (by decide) ?_
        refine XS.iinc Xlp.here hx rfl (hb hby (own_d D_leq 18 rfl)) rfl (l' := #[.val (.ref t1), .val (.ref t2), .val (.int ((Int32.ofNat i) + (1 : Int32)))]) rfl ?_
        refine XS.goto Xlp.here hx rfl (pc0 := 29) (pc' := 9) rfl (hb hby (own_d D_leq 19 rfl)) (by decide) (by decide) ?_
        exact κ
      exact ih (i + 1) (by omega) Tlp _ hlp Xlp elp Nlp KClp Va Vb hm0  (fun τ κ => pq109 τ (by rw [show ((Int32.ofNat i) + (1 : Int32)) = (Int32.ofNat (i + 1)) from own_suc (by omega)]; exact κ))
  exact loop104 (2 * (ds).length) 0 (by omega) s₁ _ h0 X0 e0 N0 KC0 V_1 V_2 rfl  (fun τ κ => pq103 τ (by rw [show (0 : Int32) = (Int32.ofNat 0) from rfl]; exact κ))
theorem D_equ : ∀ q ∈ ([(0, .aload_n 0, 1), (1, .aload_n 1, 1), (2, .if_acmp .ne 5, 3), (5, .iconst 1, 1), (6, .ireturn, 1), (7, .aload_n 1, 1), (8, .instanceof 10, 3), (11, .ifCond .eq 43, 3), (14, .aload_n 1, 1), (15, .checkcast 10, 3), (18, .astore_n 2, 1), (19, .getstatic 38, 3), (22, .ifCond .eq 14, 3), (25, .aload_n 0, 1), (26, .getfield 15, 3), (29, .aload_n 2, 1), (30, .getfield 15, 3), (33, .if_icmp .ne 21, 3), (36, .aload_n 0, 1), (37, .getfield 9, 3), (40, .aload_n 2, 1), (41, .getfield 9, 3), (44, .invokestatic 541, 3), (47, .ifCond .eq 7, 3), (50, .iconst 1, 1), (51, .goto 4, 3), (55, .ireturn, 1)] : List (Nat × Instr × Nat)), decode jdk_42_method_66_code q.1 = .ok q.2 := by decide +kernel
theorem ef_rm_equ (m : MethodId) (x0 : Addr) (x1 : Addr) : entryFrame m #[(.ref x0), (.ref x1)] 3 = mkF m 0 #[.val (.ref x0), .val (.ref x1), .unset] [] := by first | (simp [entryFrame, mkF, argsToLocals, Value.category]; done) | rfl
theorem rm_equ (l : Launch) (Z : State) (a0 : Array Value) (hw : ∀ d ∈ tables_1, d.before a0 Z = true) (ws : List Jvm.Cond) (x y : Addr) (t1 t2 : Addr) (k1 k2 : ClassId) (ds : List Int32) (v1 v2 : List Value) (G1 : Int32) (h0 : Heap) (n0 : Nat) (Z0 : n0 ≤ h0.size) (O2 : Sta Z Z.heap "java/lang/String" "COMPACT_STRINGS" "Z" (.int G1)) (P5 : ¬ (G1 = (0 : Int32))) (X00 : Old Z n0 h0) (E_x : Exa Z h0 x "java/lang/String") (F_cx : Fld Z h0 x "java/lang/String" "coder" "B" (.int 1)) (F_vx : Fld Z h0 x "java/lang/String" "value" "[B" (.ref t1)) (E_y : Exa Z h0 y "java/lang/String") (F_cy : Fld Z h0 y "java/lang/String" "coder" "B" (.int 1)) (F_vy : Fld Z h0 y "java/lang/String" "value" "[B" (.ref t2)) (V_1 : Arv Z h0 t1 k1 .byte (Int32.ofNat (2 * (ds).length)) v1 (.int 0)) (V_2 : Arv Z h0 t2 k2 .byte (Int32.ofNat (2 * (ds).length)) v2 (.int 0)) (hu1 : own_u16 v1 ds) (hu2 : own_u16 v2 ds) (hl : (ds).length ≤ 45) :
    MetFree l y_56 (head1 (Jvm.Cond.code y_56 jdk_42_method_66_code 3 (some .boolean) :: ws) r_24) (fun αs U => αs = #[(.ref x), (.ref y)] ∧ Z.Warmed39 U.vm ∧ U.heap = h0) (fun _ _ _ _ _ => True) (fun _ Us oS Us' => ∃ vR LR, oS = .returned vR ∧ Q_leq h0 n0 vR Us'.heap LR ∧ FrameEnd Us oS Us' LR r_24.cells r_24.slots) := by
  refine MetFree.of_bodySF (plainFor_of_name pno_1) hisR ?_
  intro pP e s m args below meth cC s₁ Bd hml0 hP hK
  obtain ⟨rfl, hZ, hh⟩ := hP
  have hx := Bd.exec
  have W := own_W hw
  have hby := Bd.bytes
  have hml : cC.maxLocals = 3 := hml0
  have hown : s.vm.findClass "java/lang/String" = some m.cls := findClass_of_methodNamed Bd.named
  have hnm := (name_of_methodNamed Bd.named Bd.method).1
  have X0 : Stand pP l e r_24 s m #[(.ref x), (.ref y)] below meth cC s₁ [] 0 0 := Stand.of_body Bd
  have e0 : s₁.heap = h0 := by rw [← hh, Bd.state]; rfl
  have N0 := Fr.nil n0
  have KC0 : Keep h0 h0 [] := Keep.refl h0 _
  obtain ⟨A0, hA0⟩ : ∃ ζ, ζ = s₁.setTop (entryFrame m #[(.ref x), (.ref y)] 3) := ⟨_, rfl⟩
  have pre0 : own_go pP e below A0 (s₁.setTop (mkF m 0 #[.val (.ref x), .val (.ref y), .unset] [])) := fun τ κ => by rw [hA0]; exact castTop (ef_rm_equ m x y) κ
  have pq101 : own_go pP e below A0 (s₁.setTop (mkF m 2 #[.val (.ref x), .val (.ref y), .unset] [(.ref y), (.ref x)])) := by
    intro τ κ
    refine pre0 τ ?_
    refine XS.aloadN X0.here hx rfl (hb hby (own_d D_equ 0 rfl)) rfl rfl ?_
    refine XS.aloadN X0.here hx rfl (hb hby (own_d D_equ 1 rfl)) rfl rfl ?_
    exact κ
  by_cases ha2_102 : ((.ref x) : Value) = (.ref y)
  · skip
    obtain ⟨fs, hrE, hrun, hended, hW, hsame⟩ := X0.leave (v := some (.int (1 : Int32))) (fun h => by rw [Bd.returns] at h; cases h)
    have pqE := pq101
    rw [hA0] at pqE
    refine ⟨_, _, pqE _ ?_, hrun, hended, _, _, rfl, ?_, ⟨_, rfl⟩, hW, hsame.mono (by decide) (by decide)⟩
    · refine Jvm.RoadKit.acmp (g := (mkF m 2 #[.val (.ref x), .val (.ref y), .unset] [(.ref y), (.ref x)])) X0 hx rfl rfl rfl (pc0 := 2) (pc' := 5) (same := true) rfl (hb hby (own_d D_equ 2 rfl)) rfl (decide_eq_true ha2_102) (by decide) (by decide) ?_
      refine XS.iconst X0.here hx rfl (hb hby (own_d D_equ 3 rfl)) ?_
      show Steps pP.tables e below (s₁.setTop (mkF m 6 #[.val (.ref x), .val (.ref y), .unset] [(.int (1 : Int32))])) _
      exact retN X0 hx (t := .boolean) Bd.returns (by simp) (hb hby (own_d D_equ 4 rfl)) hrE
    · show Q_leq h0 n0 _ s₁.heap _
      rw [e0]
      exact ⟨rfl, N0, rfl⟩
  · skip
    obtain ⟨T103, X103, e103, st103⟩ := instY X0 hx hZ hown (W 268 rfl) e0 (Ins.self E_y) (g := (mkF m 8 #[.val (.ref x), .val (.ref y), .unset] [(.ref y)])) rfl rfl (hb hby (own_d D_equ 6 rfl))
    have pq104 : own_go pP e below A0 (T103.setTop (mkF m 11 #[.val (.ref x), .val (.ref y), .unset] [(.int (1 : Int32))])) := by
      intro τ κ
      refine pq101 τ ?_
      refine Jvm.RoadKit.acmp (g := (mkF m 2 #[.val (.ref x), .val (.ref y), .unset] [(.ref y), (.ref x)])) X0 hx rfl rfl rfl (pc0 := 2) (pc' := 7) (same := false) rfl (hb hby (own_d D_equ 2 rfl)) rfl (decide_eq_false ha2_102) (by decide) (by decide) ?_
      refine XS.aloadN X0.here hx rfl (hb hby (own_d D_equ 5 rfl)) rfl rfl ?_
      refine st103 _ ?_
      exact κ
    obtain ⟨T105, X105, e105, st105⟩ := castY X103 hx hZ hown (W 268 rfl) e103 (Ins.self E_y) (g := (mkF m 15 #[.val (.ref x), .val (.ref y), .unset] [(.ref y)])) rfl rfl (hb hby (own_d D_equ 9 rfl))
    have pq106 : own_go pP e below A0 (T105.setTop (mkF m 18 #[.val (.ref x), .val (.ref y), .unset] [(.ref y)])) := by
      intro τ κ
      refine pq104 τ ?_
      refine XS.ifNo X103.here hx rfl (hb hby (own_d D_equ 7 rfl)) rfl ((if0 _ _).trans (feq (by decide : ¬ ((1 : Int32) = (0 : Int32)))).1) ?_
      refine XS.aloadN X103.here hx rfl (hb hby (own_d D_equ 8 rfl)) rfl rfl ?_
      refine st105 _ ?_
      exact κ
    obtain ⟨T107, X107, e107, st107⟩ := getS2 X105 hx hZ hown (host := "") (Or.inl (W 36 rfl)) Via.refl e105 (O2.ext X00.2) (g := (mkF m 19 #[.val (.ref x), .val (.ref y), .val (.ref y)] [])) rfl (hb hby (own_d D_equ 11 rfl))
    have pq108 : own_go pP e below A0 (T107.setTop (mkF m 22 #[.val (.ref x), .val (.ref y), .val (.ref y)] [(.int G1)])) := by
      intro τ κ
      refine pq106 τ ?_
      refine XS.astoreN X105.here hx rfl (hb hby (own_d D_equ 10 rfl)) rfl rfl (l' := #[.val (.ref x), .val (.ref y), .val (.ref y)]) rfl ?_
      refine st107 _ ?_
      exact κ
    obtain ⟨T109, X109, e109, st109⟩ := getF X107 hx hZ hown (host := "") (Or.inl (W 31 rfl)) Via.refl e107 F_cx (g := (mkF m 26 #[.val (.ref x), .val (.ref y), .val (.ref y)] [(.ref x)])) rfl rfl (hb hby (own_d D_equ 14 rfl))
    have pq110 : own_go pP e below A0 (T109.setTop (mkF m 29 #[.val (.ref x), .val (.ref y), .val (.ref y)] [(.int (1 : Int32))])) := by
      intro τ κ
      refine pq108 τ ?_
      refine XS.ifNo X107.here hx rfl (hb hby (own_d D_equ 12 rfl)) rfl ((if0 _ _).trans (feq P5).1) ?_
      refine XS.aloadN X107.here hx rfl (hb hby (own_d D_equ 13 rfl)) rfl rfl ?_
      refine st109 _ ?_
      exact κ
    obtain ⟨T111, X111, e111, st111⟩ := getF X109 hx hZ hown (host := "") (Or.inl (W 31 rfl)) Via.refl e109 F_cy (g := (mkF m 30 #[.val (.ref x), .val (.ref y), .val (.ref y)] [(.ref y), (.int (1 : Int32))])) rfl rfl (hb hby (own_d D_equ 16 rfl))
    have pq112 : own_go pP e below A0 (T111.setTop (mkF m 33 #[.val (.ref x), .val (.ref y), .val (.ref y)] [(.int (1 : Int32)), (.int (1 : Int32))])) := by
      intro τ κ
      refine pq110 τ ?_
      refine XS.aloadN X109.here hx rfl (hb hby (own_d D_equ 15 rfl)) rfl rfl ?_
      refine st111 _ ?_
      exact κ
    obtain ⟨T113, X113, e113, st113⟩ := getF X111 hx hZ hown (host := "") (Or.inl (W 30 rfl)) Via.refl e111 F_vx (g := (mkF m 37 #[.val (.ref x), .val (.ref y), .val (.ref y)] [(.ref x)])) rfl rfl (hb hby (own_d D_equ 19 rfl))
    have pq114 : own_go pP e below A0 (T113.setTop (mkF m 40 #[.val (.ref x), .val (.ref y), .val (.ref y)] [(.ref t1)])) := by
      intro τ κ
      refine pq112 τ ?_
      refine XS.icmpNo X111.here hx rfl (hb hby (own_d D_equ 17 rfl)) rfl (teq (by decide : ((1 : Int32) = (1 : Int32)))).2 ?_
      refine XS.aloadN X111.here hx rfl (hb hby (own_d D_equ 18 rfl)) rfl rfl ?_
      refine st113 _ ?_
      exact κ
    obtain ⟨T115, X115, e115, st115⟩ := getF X113 hx hZ hown (host := "") (Or.inl (W 30 rfl)) Via.refl e113 F_vy (g := (mkF m 41 #[.val (.ref x), .val (.ref y), .val (.ref y)] [(.ref y), (.ref t1)])) rfl rfl (hb hby (own_d D_equ 21 rfl))
    have pq116 : own_go pP e below A0 (T115.setTop (mkF m 44 #[.val (.ref x), .val (.ref y), .val (.ref y)] [(.ref t2), (.ref t1)])) := by
      intro τ κ
      refine pq114 τ ?_
      refine XS.aloadN X113.here hx rfl (hb hby (own_d D_equ 20 rfl)) rfl rfl ?_
      refine st115 _ ?_
      exact κ
    obtain ⟨_, _, ⟨T117, L117, k117, n117⟩, -, X117, ⟨Lc117, hQ117, l117, y117, z117⟩, st117⟩ := Jvm.LawKit.callS X115 hx (y := y_55) hown (mvT hZ (W 269 rfl)) (mvT hZ (W 270 rfl)) (mvT hZ (W 226 rfl)) (mvT hZ (W 271 rfl)) (by decide) (backOf (W := 0) (rm_leq l Z a0 hw [] t1 t2 k1 k2 ds v1 v2 h0 n0 Z0 V_1 V_2 hu1 hu2 hl) hZ (W 271 rfl) (W 226 rfl) (by decide) (by decide)) (g := (mkF m 44 #[.val (.ref x), .val (.ref y), .val (.ref y)] [(.ref t2), (.ref t1)])) rfl (by rw [hml]; rfl) (argsL := [(.ref t1), (.ref t2)]) (rest := []) (lenOf pdo_35 rfl) rfl (Nat.le_of_eq rfl) (hb hby (own_d D_equ 22 rfl)) (fun _ _ => ⟨rfl, e115, (by decide : 0 + 0 ≤ _), (by decide : 0 + 0 ≤ _)⟩)
    dsimp only [Pt.U, Pt.locs, Pt.cells, Pt.slots] at X117 l117 y117 z117 st117 hQ117
    subst l117 y117 z117
    obtain ⟨rfl, Nq117, eq117⟩ := hQ117
    have N117 := Fr.app N0 Nq117
    have pq118 : own_go pP e below A0 (T117.setTop (mkF m 47 #[.val (.ref x), .val (.ref y), .val (.ref y)] [(.int (1 : Int32))])) := by
      intro τ κ
      refine pq116 τ ?_
      refine st117 _ ?_
      exact κ
    obtain ⟨fs, hrE, hrun, hended, hW, hsame⟩ := X117.leave (v := some (.int (1 : Int32))) (fun h => by rw [Bd.returns] at h; cases h)
    have pqE := pq118
    rw [hA0] at pqE
    refine ⟨_, _, pqE _ ?_, hrun, hended, _, _, rfl, ?_, ⟨_, rfl⟩, hW, hsame.mono (by decide) (by decide)⟩
    · refine XS.ifNo X117.here hx rfl (hb hby (own_d D_equ 23 rfl)) rfl ((if0 _ _).trans (feq (by decide : ¬ ((1 : Int32) = (0 : Int32)))).1) ?_
      refine XS.iconst X117.here hx rfl (hb hby (own_d D_equ 24 rfl)) ?_
      refine XS.goto X117.here hx rfl (pc0 := 51) (pc' := 55) rfl (hb hby (own_d D_equ 25 rfl)) (by decide) (by decide) ?_
      show Steps pP.tables e below (T117.setTop (mkF m 55 #[.val (.ref x), .val (.ref y), .val (.ref y)] [(.int (1 : Int32))])) _
      exact retN X117 hx (t := .boolean) Bd.returns (by simp) (hb hby (own_d D_equ 26 rfl)) hrE
    · show Q_leq h0 n0 _ T117.heap _
      rw [eq117]
      exact ⟨rfl, N117, rfl⟩
def Q_eqs (h0 : Heap) (n0 : Nat) (v : Option Value) (h : Heap) (L : List Loc) : Prop := v = some (.int 1) ∧ Fr n0 L ∧ h = h0
theorem D_eqs : ∀ q ∈ ([(0, .aload_n 0, 1), (1, .aload_n 1, 1), (2, .if_acmp .ne 5, 3), (5, .iconst 1, 1), (6, .ireturn, 1)] : List (Nat × Instr × Nat)), decode jdk_42_method_66_code q.1 = .ok q.2 := by decide +kernel
theorem ef_rm_eqs (m : MethodId) (x0 : Addr) (x1 : Addr) : entryFrame m #[(.ref x0), (.ref x1)] 3 = mkF m 0 #[.val (.ref x0), .val (.ref x1), .unset] [] := by first | (simp [entryFrame, mkF, argsToLocals, Value.category]; done) | rfl
theorem rm_eqs (l : Launch) (Z : State) (a0 : Array Value) (hw : ∀ d ∈ tables_1, d.before a0 Z = true) (ws : List Jvm.Cond) (a : Addr) (h0 : Heap) (n0 : Nat) (Z0 : n0 ≤ h0.size) :
    MetFree l y_56 (head1 (Jvm.Cond.code y_56 jdk_42_method_66_code 3 (some .boolean) :: ws) r_2) (fun αs U => αs = #[(.ref a), (.ref a)] ∧ Z.Warmed39 U.vm ∧ U.heap = h0) (fun _ _ _ _ _ => True) (fun _ Us oS Us' => ∃ vR LR, oS = .returned vR ∧ Q_eqs h0 n0 vR Us'.heap LR ∧ FrameEnd Us oS Us' LR r_2.cells r_2.slots) := by
  refine MetFree.of_bodySF (plainFor_of_name pno_1) hisR ?_
  intro pP e s m args below meth cC s₁ Bd hml0 hP hK
  obtain ⟨rfl, hZ, hh⟩ := hP
  have hx := Bd.exec
  have hby := Bd.bytes
  have hml : cC.maxLocals = 3 := hml0
  have hown : s.vm.findClass "java/lang/String" = some m.cls := findClass_of_methodNamed Bd.named
  have hnm := (name_of_methodNamed Bd.named Bd.method).1
  have X0 : Stand pP l e r_2 s m #[(.ref a), (.ref a)] below meth cC s₁ [] 0 0 := Stand.of_body Bd
  have e0 : s₁.heap = h0 := by rw [← hh, Bd.state]; rfl
  have N0 := Fr.nil n0
  have KC0 : Keep h0 h0 [] := Keep.refl h0 _
  obtain ⟨A0, hA0⟩ : ∃ ζ, ζ = s₁.setTop (entryFrame m #[(.ref a), (.ref a)] 3) := ⟨_, rfl⟩
  have pre0 : own_go pP e below A0 (s₁.setTop (mkF m 0 #[.val (.ref a), .val (.ref a), .unset] [])) := fun τ κ => by rw [hA0]; exact castTop (ef_rm_eqs m a a) κ
  obtain ⟨fs, hrE, hrun, hended, hW, hsame⟩ := X0.leave (v := some (.int (1 : Int32))) (fun h => by rw [Bd.returns] at h; cases h)
  have pqE := pre0
  rw [hA0] at pqE
  refine ⟨_, _, pqE _ ?_, hrun, hended, _, _, rfl, ?_, ⟨_, rfl⟩, hW, hsame.mono (by decide) (by decide)⟩
  · refine XS.aloadN X0.here hx rfl (hb hby (own_d D_eqs 0 rfl)) rfl rfl ?_
    refine XS.aloadN X0.here hx rfl (hb hby (own_d D_eqs 1 rfl)) rfl rfl ?_
    refine Jvm.RoadKit.acmp (g := (mkF m 2 #[.val (.ref a), .val (.ref a), .unset] [(.ref a), (.ref a)])) X0 hx rfl rfl rfl (pc0 := 2) (pc' := 5) (same := true) rfl (hb hby (own_d D_eqs 2 rfl)) rfl (decide_eq_true rfl) (by decide) (by decide) ?_
    refine XS.iconst X0.here hx rfl (hb hby (own_d D_eqs 3 rfl)) ?_
    show Steps pP.tables e below (s₁.setTop (mkF m 6 #[.val (.ref a), .val (.ref a), .unset] [(.int (1 : Int32))])) _
    exact retN X0 hx (t := .boolean) Bd.returns (by simp) (hb hby (own_d D_eqs 4 rfl)) hrE
  · show Q_eqs h0 n0 _ s₁.heap _
    rw [e0]
    exact ⟨rfl, N0, rfl⟩
def Q_abL (Z : State) (cs : List Int32) (h0 : Heap) (n0 : Nat) (v : Option Value) (h : Heap) (L : List Loc) : Prop := ∃ a, v = some (.ref a) ∧ Fr n0 L ∧ Keep h0 h [] ∧ USt Z h a (cs.take 40 ++ ([(46 : Int32), (46 : Int32), (46 : Int32)] : List Int32))
theorem D_abL : ∀ q ∈ ([(0, .aload_n 0, 1), (1, .invokevirtual 7, 3), (4, .bipush 40, 2), (6, .if_icmp .gt 7, 3), (13, .new 15, 3), (16, .dup, 1), (17, .invokespecial 17, 3), (20, .aload_n 0, 1), (21, .iconst 0, 1), (22, .bipush 40, 2), (24, .invokevirtual 18, 3), (27, .invokevirtual 22, 3), (30, .ldc 26, 2), (32, .invokevirtual 22, 3), (35, .invokevirtual 28, 3), (38, .areturn, 1)] : List (Nat × Instr × Nat)), decode prog_9_method_2_code q.1 = .ok q.2 := by decide +kernel
theorem ef_rm_abL (m : MethodId) (x0 : Addr) : entryFrame m #[(.ref x0)] 1 = mkF m 0 #[.val (.ref x0)] [] := by first | (simp [entryFrame, mkF, argsToLocals, Value.category]; done) | rfl
theorem rm_abL (l : Launch) (Z : State) (a0 : Array Value) (hw : ∀ d ∈ tables_1, d.before a0 Z = true) (hEW : EW Z a0 consts_1) (ws : List Jvm.Cond) (x t : Addr) (kb : ClassId) (cs : List Int32) (vs : List Value) (G1 : Int32) (G3 : Value) (h0 : Heap) (n0 : Nat) (Z0 : n0 ≤ h0.size) (O2 : Sta Z Z.heap "java/lang/String" "COMPACT_STRINGS" "Z" (.int G1)) (P5 : ¬ (G1 = (0 : Int32))) (X00 : Old Z n0 h0) (O4 : Sta Z Z.heap "jdk/internal/util/Preconditions" "SIOOBE_FORMATTER" "Ljava/util/function/BiFunction;" G3) (rG3 : G3.isRef = true) (OA : Sta Z Z.heap "java/lang/StringUTF16" "$assertionsDisabled" "Z" (.int 1)) (OH : Sta Z Z.heap "java/lang/StringUTF16" "HI_BYTE_SHIFT" "I" (.int 0)) (OL : Sta Z Z.heap "java/lang/StringUTF16" "LO_BYTE_SHIFT" "I" (.int 8)) (E_x : Exa Z h0 x "java/lang/String") (F_c : Fld Z h0 x "java/lang/String" "coder" "B" (.int 1)) (F_v : Fld Z h0 x "java/lang/String" "value" "[B" (.ref t)) (V_t : Arv Z h0 t kb .byte (Int32.ofNat (2 * (cs).length)) vs (.int 0)) (hu : own_u16 vs cs) (hp : ∀ c ∈ cs, ¬ c < 0 ∧ ¬ (65535 : Int32) < c) (hbad : ∃ j, j < 40 ∧ (255 : Int32) < cs.getD j 0) (hn : 40 < (cs).length) (hl : (cs).length ≤ 45) :
    MetFree l y_17 (head1 (Jvm.Cond.code y_17 prog_9_method_2_code 1 (some (.object "java/lang/String")) :: ws) r_40) (fun αs U => αs = #[(.ref x)] ∧ Z.Warmed39 U.vm ∧ U.heap = h0 ∧ CHv Z consts_1 U.vm h0) (fun _ _ _ _ _ => True) (fun _ Us oS Us' => ∃ vR LR, oS = .returned vR ∧ Q_abL Z cs h0 n0 vR Us'.heap LR ∧ CHr Z consts_1 Us.vm Us.heap Us'.vm Us'.heap ∧ ReturnedEndW Us oS Us' LR r_40.cells r_40.slots) := by
  refine MetFree.of_bodySF (plainFor_of_name pno_3) hisR ?_
  intro pP e s m args below meth cC s₁ Bd hml0 hP hK
  obtain ⟨rfl, hZ, hh, CH0⟩ := hP
  have hx := Bd.exec
  have W := own_W hw
  have hby := Bd.bytes
  have hml : cC.maxLocals = 1 := hml0
  have hown : s.vm.findClass "com/example/stateful_search/statefulsearch/format/Excerpts" = some m.cls := findClass_of_methodNamed Bd.named
  have hnm := (name_of_methodNamed Bd.named Bd.method).1
  have X0 : Stand pP l e r_40 (s.setVm s.vm) m #[(.ref x)] below meth cC s₁ [] 0 0 := Stand.of_body Bd
  have e0 : s₁.heap = h0 := by rw [← hh, Bd.state]; rfl
  have N0 := Fr.nil n0
  have KC0 : Keep h0 h0 [] := Keep.refl h0 _
  replace hZ : Z.Warmed39 (s.setVm s.vm).vm := hZ
  replace hown : (s.setVm s.vm).vm.findClass "com/example/stateful_search/statefulsearch/format/Excerpts" = some m.cls := hown
  have SI0 : s.Since s.vm h0.size := (State.WarmedH.refl s).since _
  have SK0 : h0.size ≤ h0.size := Nat.le_refl _
  have CR0 : CHr Z consts_1 s.vm h0 s.vm h0 := CHr.refl CH0
  obtain ⟨A0, hA0⟩ : ∃ ζ, ζ = s₁.setTop (entryFrame m #[(.ref x)] 1) := ⟨_, rfl⟩
  have pre0 : own_go pP e below A0 (s₁.setTop (mkF m 0 #[.val (.ref x)] [])) := fun τ κ => by rw [hA0]; exact castTop (ef_rm_abL m x) κ
  have wS : ∀ a ∈ Bundle.stringAtoms, a.before a0 Z = true := fun d hd => hw d ((by decide +kernel : ∀ d ∈ Bundle.stringAtoms, d ∈ tables_1) d hd)
  obtain ⟨cq102, kq102, q102a, q102b, q102c⟩ := isOf hZ e0 E_x
  obtain ⟨_, _, ⟨T101, L101, k101, n101⟩, -, X101, ⟨Lc101, hQ101, l101, y101, z101⟩, st101⟩ := X0.virtualBack hx (y := y_8) (z := y_8) hown (mvT hZ (W 70 rfl)) (mvT hZ (W 71 rfl)) (notFace_of_selects (args := #[]) (mvT hZ (W 73 rfl))) (mvT hZ (W 73 rfl)) (mvT hZ (W 72 rfl)) (by decide) (backOf (W := 0) (rm_lenU l Z a0 hw [] x t kb cs vs G1 h0 n0 Z0 O2 P5 X00 E_x F_c F_v V_t hu hl) hZ (W 74 rfl) (W 13 rfl) (by decide) (by decide)) q102a q102c (g := (mkF m 1 #[.val (.ref x)] [(.ref x)])) rfl (by rw [hml]; rfl) (Steps.refl _) (argsL := []) (rest := []) (lenOf pdo_11 rfl) rfl (Nat.le_of_eq rfl) (hb hby (own_d D_abL 1 rfl)) (fun _ _ => ⟨rfl, e0, (by decide : 0 + 0 ≤ _), (by decide : 0 + 0 ≤ _)⟩)
  dsimp only [Pt.U, Pt.locs, Pt.cells, Pt.slots] at X101 l101 y101 z101 st101 hQ101
  subst l101 y101 z101
  obtain ⟨rfl, Nq101, eq101⟩ := hQ101
  have N101 := Fr.app N0 Nq101
  have pq103 : own_go pP e below A0 (T101.setTop (mkF m 4 #[.val (.ref x)] [(.int (Int32.ofNat (cs).length))])) := by
    intro τ κ
    refine pre0 τ ?_
    refine XS.aloadN X0.here hx rfl (hb hby (own_d D_abL 0 rfl)) rfl rfl ?_
    refine st101.trans ?_
    exact κ
  obtain ⟨T104, h104, X104, e104, E104, A104, D104, -, st104⟩ := newO X101 hx hZ hown (W 85 rfl) (W 86 rfl) (W 87 rfl) eq101 (g := (mkF m 13 #[.val (.ref x)] [])) rfl (hb hby (own_d D_abL 4 rfl)) (by decide) (by decide)
  obtain ⟨b104, g104⟩ : ∃ z, z = h0.size := ⟨_, rfl⟩
  rw [← g104] at A104 D104 st104
  have pq105 : own_go pP e below A0 (T104.setTop (mkF m 16 #[.val (.ref x)] [(.ref b104)])) := by
    intro τ κ
    refine pq103 τ ?_
    refine XS.bipush X101.here hx rfl (hb hby (own_d D_abL 2 rfl)) ?_
    refine XS.icmpYes X101.here hx rfl (pc0 := 6) (pc' := 13) rfl (hb hby (own_d D_abL 3 rfl)) rfl (tlt (own_gt40 hn (by omega))).2.2.1 (by decide) (by decide) ?_
    refine st104 _ ?_
    exact κ
  have KC104 := KC0.ext E104
  have CH104 := CHv.ext E104 CH0
  have CR104 := CHr.trans CR0 (CHr.ext E104 CH0)
  have SK104 := Nat.le_trans SK0 E104.1
  have Sf104 := Safe.ext (x := b104) E104 CH0 (Safe.new (Nat.le_of_eq g104.symm))
  have F_value_b104 : Fld Z h104 b104 "java/lang/AbstractStringBuilder" "value" "[B" .null := D104 (Or.inl (W 100 rfl)) (ty := (.array .byte)) (by decide)
  have F_coder_b104 : Fld Z h104 b104 "java/lang/AbstractStringBuilder" "coder" "B" (.int (0 : Int32)) := D104 (Or.inl (W 102 rfl)) (ty := .byte) (by decide)
  have F_count_b104 : Fld Z h104 b104 "java/lang/AbstractStringBuilder" "count" "I" (.int (0 : Int32)) := D104 (Or.inl (W 179 rfl)) (ty := .int) (by decide)
  have F_maybeLatin1_b104 : Fld Z h104 b104 "java/lang/AbstractStringBuilder" "maybeLatin1" "Z" (.int (0 : Int32)) := D104 (Or.inl (W 266 rfl)) (ty := .boolean) (by decide)
  have f106 := (X00.ext E104)
  have f107 := (Nat.le_trans Z0 E104.1)
  obtain ⟨_, _, ⟨T108, L108, k108, n108⟩, -, X108, ⟨Lc108, hQ108, l108, y108, z108⟩, st108⟩ := X104.specialBack hx (y := y_34) rfl hown (mvT hZ (W 88 rfl)) (mvT hZ (W 89 rfl)) (mvT hZ (W 90 rfl)) (by decide) (backOf (W := 1) (rm_sbi l Z a0 hw [] b104 G1 h104 n0 f107 O2 P5 f106 A104 (Nat.le_trans Z0 (Nat.le_of_eq g104.symm)) F_value_b104 F_coder_b104 F_count_b104 F_maybeLatin1_b104) hZ (W 90 rfl) (W 87 rfl) (by decide) (by decide)) (g := (mkF m 17 #[.val (.ref x)] [(.ref b104), (.ref b104)])) rfl (by rw [hml]; rfl) (Steps.refl _) (a := b104) (argsL := []) (rest := [(.ref b104)]) (lenOf pdo_27 rfl) rfl (Nat.le_of_eq rfl) (hb hby (own_d D_abL 6 rfl)) (fun _ _ => ⟨rfl, e104, (by decide : 1 + 1 ≤ _), (by decide : 4 + 16 ≤ _)⟩)
  dsimp only [Pt.U, Pt.locs, Pt.cells, Pt.slots] at X108 l108 y108 z108 st108 hQ108
  subst l108 y108 z108
  obtain ⟨vb108, kv108, rfl, Nq108, K108, lb108, Ex108, Fv108, Fc108, Fn108, Fm108, V108⟩ := hQ108
  have N108 := Fr.app N101 Nq108
  have pq109 : own_go pP e below A0 (T108.setTop (mkF m 20 #[.val (.ref x)] [(.ref b104)])) := by
    intro τ κ
    refine pq105 τ ?_
    refine XS.dup X104.here hx rfl (hb hby (own_d D_abL 5 rfl)) rfl rfl ?_
    refine st108.trans ?_
    exact κ
  have KC108 := KC104.trans K108 (allS (Or.inr (Nat.le_trans (Nat.le_refl _) (Nat.le_of_eq g104.symm))) all0)
  have CH108 := CHv.keep K108 (sfS Sf104 sf0) CH104
  have CR108 := CHr.trans CR104 (CHr.keep K108 (sfS Sf104 sf0) CH104)
  have SK108 := Nat.le_trans SK104 K108.1
  have f110 := (f106.keep K108 (allS (Nat.le_trans Z0 (Nat.le_of_eq g104.symm)) all0))
  have f111 := ((E_x.ext E104).keep K108)
  have f112 := ((F_c.ext E104).keep K108 (ninS (Nat.ne_of_lt (Nat.lt_of_lt_of_le E_x.lt (Nat.le_of_eq g104.symm))) nin0))
  have f113 := ((F_v.ext E104).keep K108 (ninS (Nat.ne_of_lt (Nat.lt_of_lt_of_le E_x.lt (Nat.le_of_eq g104.symm))) nin0))
  have f114 := ((V_t.ext E104).keep K108 (ninS (Nat.ne_of_lt (Nat.lt_of_lt_of_le V_t.lt (Nat.le_of_eq g104.symm))) nin0))
  have f115 := (Nat.le_trans f107 K108.1)
  obtain ⟨cq117, kq117, q117a, q117b, q117c⟩ := isOf hZ rfl f111
  obtain ⟨_, _, ⟨T116, L116, k116, n116⟩, -, X116, ⟨Lc116, hQ116, l116, y116, z116⟩, st116⟩ := X108.virtualBack hx (y := y_32) (z := y_32) hown (mvT hZ (W 103 rfl)) (mvT hZ (W 104 rfl)) (notFace_of_selects (args := #[]) (mvT hZ (W 106 rfl))) (mvT hZ (W 106 rfl)) (mvT hZ (W 105 rfl)) (by decide) (backOf (W := 1) (rm_sub l Z a0 hw [] x t kb cs vs G1 G3 T108.heap n0 f115 O2 P5 f110 O4 rG3 OA OH OL f111 f112 f113 f114 hu hp hbad hn hl) hZ (W 107 rfl) (W 13 rfl) (by decide) (by decide)) q117a q117c (g := (mkF m 24 #[.val (.ref x)] [(.int (40 : Int32)), (.int (0 : Int32)), (.ref x), (.ref b104)])) rfl (by rw [hml]; rfl) (Steps.refl _) (argsL := [(.int (0 : Int32)), (.int (40 : Int32))]) (rest := [(.ref b104)]) (lenOf pdo_36 rfl) rfl (Nat.le_of_eq rfl) (hb hby (own_d D_abL 10 rfl)) (fun _ _ => ⟨rfl, rfl, (by decide : 2 + 3 ≤ _), (by decide : 20 + 444 ≤ _)⟩)
  dsimp only [Pt.U, Pt.locs, Pt.cells, Pt.slots] at X116 l116 y116 z116 st116 hQ116
  subst l116 y116 z116
  obtain ⟨a116, rfl, Nq116, K116, lb116, U116⟩ := hQ116
  have N116 := Fr.app N108 Nq116
  have pq118 : own_go pP e below A0 (T116.setTop (mkF m 27 #[.val (.ref x)] [(.ref a116), (.ref b104)])) := by
    intro τ κ
    refine pq109 τ ?_
    refine XS.aloadN X108.here hx rfl (hb hby (own_d D_abL 7 rfl)) rfl rfl ?_
    refine XS.iconst X108.here hx rfl (hb hby (own_d D_abL 8 rfl)) ?_
    refine XS.bipush X108.here hx rfl (hb hby (own_d D_abL 9 rfl)) ?_
    refine st116.trans ?_
    exact κ
  have KC116 := KC108.trans K116 all0
  have CH116 := CHv.keep K116 sf0 CH108
  have CR116 := CHr.trans CR108 (CHr.keep K116 sf0 CH108)
  have SK116 := Nat.le_trans SK108 K116.1
  obtain ⟨tx116, kx116, Ea116, Fva116, Fca116, vx116, Va116, hua116, hpa116⟩ := U116
  have hda116 := own_tk hn
  have f119 := (Safe.keep K116 sf0 CH108 (Safe.keep K108 (sfS Sf104 sf0) CH104 Sf104))
  have f120 := (f110.keep K116 all0)
  have f121 := (Ex108.keep K116)
  have f122 := (Fv108.keep K116 nin0)
  have f123 := (Fc108.keep K116 nin0)
  have f124 := (Fn108.keep K116 nin0)
  have f125 := (Fm108.keep K116 nin0)
  have f126 := (V108.keep K116 nin0)
  have f127 := (Nat.le_trans f115 K116.1)
  obtain ⟨cq129, kq129, q129a, q129b, q129c⟩ := isOf hZ rfl f121
  obtain ⟨_, _, ⟨T128, L128, k128, n128⟩, -, X128, ⟨Lc128, hQ128, l128, y128, z128⟩, st128⟩ := X116.virtualBack hx (y := y_48) (z := y_48) hown (mvT hZ (W 167 rfl)) (mvT hZ (W 168 rfl)) (notFace_of_selects (args := #[]) (mvT hZ (W 170 rfl))) (mvT hZ (W 170 rfl)) (mvT hZ (W 169 rfl)) (by decide) (backOf (W := 0) (rm_apA l Z a0 hw [] a116 tx116 kx116 (cs.take 40) vx116 b104 vb108 kv108 [] G1 G3 T116.heap n0 f127 O2 P5 f120 O4 rG3 Ea116 Fca116 Fva116 Va116 hua116 hda116 f121 f122 f123 f124 f125 f126 (Nat.le_trans Z0 (Nat.le_of_eq g104.symm))) hZ (W 171 rfl) (W 87 rfl) (by decide) (by decide)) q129a q129c (g := (mkF m 27 #[.val (.ref x)] [(.ref a116), (.ref b104)])) rfl (by rw [hml]; rfl) (Steps.refl _) (argsL := [(.ref a116)]) (rest := []) (lenOf pdo_37 rfl) rfl (Nat.le_of_eq rfl) (hb hby (own_d D_abL 11 rfl)) (fun _ _ => ⟨rfl, rfl, (by decide : 5 + 2 ≤ _), (by decide : 464 + 600 ≤ _)⟩)
  dsimp only [Pt.U, Pt.locs, Pt.cells, Pt.slots] at X128 l128 y128 z128 st128 hQ128
  subst l128 y128 z128
  obtain ⟨u128, ku128, rfl, Nq128, K128, lb128, Ex128, Fv128, Fc128, Fn128, Fm128, V128⟩ := hQ128
  have N128 := Fr.app N116 Nq128
  have pq130 : own_go pP e below A0 (T128.setTop (mkF m 30 #[.val (.ref x)] [(.ref b104)])) := by
    intro τ κ
    refine pq118 τ ?_
    refine st128.trans ?_
    exact κ
  have KC128 := KC116.trans K128 (allS (Or.inr (Nat.le_trans (Nat.le_refl _) (Nat.le_of_eq g104.symm))) all0)
  have CH128 := CHv.keep K128 (sfS f119 sf0) CH116
  have CR128 := CHr.trans CR116 (CHr.keep K128 (sfS f119 sf0) CH116)
  have SK128 := Nat.le_trans SK116 K128.1
  obtain ⟨b131, T131, h131, k131, t131, kb131, X131, e131, E131, SI131, SK131, Z131, O131, A131, Fc131, Fv131, V131, lt131, ltt131, C131, L131, ne131, st131⟩ := ldcCH (s := s) (vm0 := s.vm) (EL := consts_1) X128 hx hZ hown (W 237 rfl) wS rfl SI0 SK128 hEW (by decide) CH128 (vs := [(.int (46 : Int32)), (.int (46 : Int32)), (.int (46 : Int32))]) (z := (3 : Int32)) (by decide) (by decide) (by decide) (g := (mkF m 30 #[.val (.ref x)] [(.ref b104)])) rfl (hb hby (own_d D_abL 12 rfl)) (n := 12) (by decide) (by decide) (by decide) (by decide)
  have pq132 : own_go pP e below A0 (T131.setTop (mkF m 32 #[.val (.ref x)] [(.ref b131), (.ref b104)])) := by
    intro τ κ
    refine pq130 τ ?_
    refine st131 _ ?_
    exact κ
  have K131 : Keep T128.heap h131 [] := (Keep.refl _ _).ext E131
  have KC131 := KC128.trans K131 all0
  have CH131 := C131.1
  have CR131 := CHr.trans CR128 C131
  have f133 := (CHr.safe C131 Ex128.lt (Safe.keep K128 (sfS f119 sf0) CH116 f119))
  have f134 := (CHr.safe C131 (f126.keep K128 (ninS (Ne.symm (Nat.ne_of_lt (Nat.lt_of_lt_of_le A104.lt lb108))) nin0)).lt (Safe.keep K128 (sfS f119 sf0) CH116 (Safe.keep K116 sf0 CH108 (Safe.keep K108 (sfS Sf104 sf0) CH104 (Safe.new lb108)))))
  have f135 := (CHr.safe C131 V128.lt (Safe.keep K128 (sfS f119 sf0) CH116 (Safe.new lb128)))
  have f136 := ((f120.keep K128 (allS (Nat.le_trans Z0 (Nat.le_of_eq g104.symm)) all0)).keep K131 all0)
  have f137 := (Ex128.keep K131)
  have f138 := (Fv128.keep K131 nin0)
  have f139 := (Fc128.keep K131 nin0)
  have f140 := (Fn128.keep K131 nin0)
  have f141 := (Fm128.keep K131 nin0)
  have f142 := (V128.keep K131 nin0)
  have f143 := (Nat.le_trans (Nat.le_trans f127 K128.1) K131.1)
  obtain ⟨cq145, kq145, q145a, q145b, q145c⟩ := isOf Z131 e131 f137
  obtain ⟨_, _, ⟨T144, L144, k144, n144⟩, -, X144, ⟨Lc144, hQ144, l144, y144, z144⟩, st144⟩ := X131.virtualBack hx (y := y_48) (z := y_48) O131 (mvT Z131 (W 167 rfl)) (mvT Z131 (W 168 rfl)) (notFace_of_selects (args := #[]) (mvT Z131 (W 170 rfl))) (mvT Z131 (W 170 rfl)) (mvT Z131 (W 169 rfl)) (by decide) (backOf (W := 0) (rm_apB l Z a0 hw [] b131 t131 kb131 b104 u128 ku128 (own_cp vx116 (2 * ((cs.take 40)).length)) G1 G3 h131 n0 f143 O2 P5 f136 O4 rG3 OA OH OL A131 Fc131 Fv131 V131 f137 f138 f139 f140 f141 f142 (Nat.le_trans Z0 (Nat.le_of_eq g104.symm))) Z131 (W 171 rfl) (W 87 rfl) (by decide) (by decide)) q145a q145c (g := (mkF m 32 #[.val (.ref x)] [(.ref b131), (.ref b104)])) rfl (by rw [hml]; rfl) (Steps.refl _) (argsL := [(.ref b131)]) (rest := []) (lenOf pdo_37 rfl) rfl (Nat.le_of_eq rfl) (hb hby (own_d D_abL 13 rfl)) (fun _ _ => ⟨rfl, e131, (by decide : 9 + 1 ≤ _), (by decide : 1080 + 400 ≤ _)⟩)
  dsimp only [Pt.U, Pt.locs, Pt.cells, Pt.slots] at X144 l144 y144 z144 st144 hQ144
  subst l144 y144 z144
  obtain ⟨u144, ku144, rfl, Nq144, K144, lb144, Ex144, Fv144, Fc144, Fn144, Fm144, V144⟩ := hQ144
  have N144 := Fr.app N128 Nq144
  have pq146 : own_go pP e below A0 (T144.setTop (mkF m 35 #[.val (.ref x)] [(.ref b104)])) := by
    intro τ κ
    refine pq132 τ ?_
    refine st144.trans ?_
    exact κ
  have KC144 := KC131.trans K144 (allS (Or.inr (Nat.le_trans (Nat.le_refl _) (Nat.le_of_eq g104.symm))) all0)
  have CH144 := CHv.keep K144 (sfS f133 sf0) CH131
  have CR144 := CHr.trans CR131 (CHr.keep K144 (sfS f133 sf0) CH131)
  have SK144 := Nat.le_trans SK131 K144.1
  have f147 := (f136.keep K144 (allS (Nat.le_trans Z0 (Nat.le_of_eq g104.symm)) all0))
  have f148 := (Nat.le_trans f143 K144.1)
  obtain ⟨cq150, kq150, q150a, q150b, q150c⟩ := isOf Z131 rfl Ex144
  obtain ⟨_, _, ⟨T149, L149, k149, n149⟩, -, X149, ⟨Lc149, hQ149, l149, y149, z149⟩, st149⟩ := X144.virtualBack hx (y := y_54) (z := y_54) O131 (mvT Z131 (W 239 rfl)) (mvT Z131 (W 240 rfl)) (notFace_of_selects (args := #[]) (mvT Z131 (W 242 rfl))) (mvT Z131 (W 242 rfl)) (mvT Z131 (W 241 rfl)) (by decide) (backOf (W := 0) (rm_tos l Z a0 hw [] b104 u144 ku144 (((((((own_cp (own_cp vx116 (2 * ((cs.take 40)).length)) (80) ++ List.replicate (2 * 82) (Value.int 0)).set (2 * 40) (.int (own_b (46 : Int32) 0))).set (2 * 40 + 1) (.int (own_b (46 : Int32) 8))).set (2 * 41) (.int (own_b (46 : Int32) 0))).set (2 * 41 + 1) (.int (own_b (46 : Int32) 8))).set (2 * 42) (.int (own_b (46 : Int32) 0))).set (2 * 42 + 1) (.int (own_b (46 : Int32) 8))) G1 ((cs.take 40) ++ ([(46 : Int32), (46 : Int32), (46 : Int32)] : List Int32)) T144.heap n0 f148 O2 P5 f147 Ex144 Fv144 Fc144 Fn144 Fm144 V144 (by rw [List.length_append, hda116]; rfl) (own_end hda116 (own_pre_cp (fun j hj => hua116 j (by omega)) (by omega))) (own_hpd hpa116)) Z131 (W 243 rfl) (W 87 rfl) (by decide) (by decide)) q150a q150c (g := (mkF m 35 #[.val (.ref x)] [(.ref b104)])) rfl (by rw [hml]; rfl) (Steps.refl _) (argsL := []) (rest := []) (lenOf pdo_38 rfl) rfl (Nat.le_of_eq rfl) (hb hby (own_d D_abL 14 rfl)) (fun _ _ => ⟨rfl, rfl, (by decide : 10 + 2 ≤ _), (by decide : 1480 + 404 ≤ _)⟩)
  dsimp only [Pt.U, Pt.locs, Pt.cells, Pt.slots] at X149 l149 y149 z149 st149 hQ149
  subst l149 y149 z149
  obtain ⟨a149, rfl, Nq149, K149, lb149, U149⟩ := hQ149
  have N149 := Fr.app N144 Nq149
  have pq151 : own_go pP e below A0 (T149.setTop (mkF m 38 #[.val (.ref x)] [(.ref a149)])) := by
    intro τ κ
    refine pq146 τ ?_
    refine st149.trans ?_
    exact κ
  have KC149 := KC144.trans K149 all0
  have CH149 := CHv.keep K149 sf0 CH144
  have CR149 := CHr.trans CR144 (CHr.keep K149 sf0 CH144)
  have SK149 := Nat.le_trans SK144 K149.1
  have SKe := SK149
  obtain ⟨fs, hrE, hrun, hended, hEnd⟩ := X149.leaveW SI131 SKe (v := some (.ref a149)) (fun h => by rw [Bd.returns] at h; cases h)
  have CHe := CHr.trans CR149 (CHv.at X149 Z131 hEW CH149)
  have pqE := pq151
  rw [hA0] at pqE
  refine ⟨_, _, pqE _ ?_, hrun, hended, _, _, rfl, ?_, ?_, hEnd.1, hEnd.2.1, hEnd.2.2.1, hEnd.2.2.2.mono (by decide) (by decide)⟩
  · show Steps pP.tables e below (T149.setTop (mkF m 38 #[.val (.ref x)] [(.ref a149)])) _
    exact retOut X149 hx Bd.returns rfl (Or.inr (Or.inr (Or.inr (Or.inr ⟨rfl, rfl, rfl⟩)))) (hb hby (own_d D_abL 15 rfl)) hrE
  · show Q_abL Z cs h0 n0 _ T149.heap _
    exact ⟨a149, rfl, N149, KC149, U149⟩
  · show CHr Z consts_1 s.vm s.heap T149.vm T149.heap
    rw [hh]; exact CHe
def Q_law (n0 : Nat) (v : Option Value) (h : Heap) (L : List Loc) : Prop := v = some (.int 1) ∧ Fr n0 L
theorem ef_rm_law (m : MethodId) (x0 : Int32) (x1 : Int64) (x2 : Int64) (x3 : Int64) : entryFrame m #[(.int x0), (.long x1), (.long x2), (.long x3)] maxLocals = mkF m 0 #[.val (.int x0), .val (.long x1), .second, .val (.long x2), .second, .val (.long x3), .second, .unset, .unset, .unset, .unset, .unset] [] := by first | (simp [entryFrame, mkF, argsToLocals, Value.category, maxLocals]; done) | rfl
theorem rm_law (l : Launch) (Z : State) (a0 : Array Value) (hw : ∀ d ∈ tables_1, d.before a0 Z = true) (hEW : EW Z a0 consts_1) (ws : List Jvm.Cond) (p0 : Int32) (q1 q2 q3 : Int64) (G1 : Int32) (G3 : Value) (h0 : Heap) (n0 : Nat) (Z0 : n0 ≤ h0.size) (O2 : Sta Z Z.heap "java/lang/String" "COMPACT_STRINGS" "Z" (.int G1)) (P5 : ¬ (G1 = (0 : Int32))) (X00 : Old Z n0 h0) (O4 : Sta Z Z.heap "jdk/internal/util/Preconditions" "SIOOBE_FORMATTER" "Ljava/util/function/BiFunction;" G3) (rG3 : G3.isRef = true) (OA : Sta Z Z.heap "java/lang/StringUTF16" "$assertionsDisabled" "Z" (.int 1)) (OH : Sta Z Z.heap "java/lang/StringUTF16" "HI_BYTE_SHIFT" "I" (.int 0)) (OL : Sta Z Z.heap "java/lang/StringUTF16" "LO_BYTE_SHIFT" "I" (.int 8)) :
    MetFree l x (head1 (Jvm.Cond.code x code maxLocals ret :: ws) room_1) (fun αs U => αs = #[(.int p0), (.long q1), (.long q2), (.long q3)] ∧ Z.Warmed39 U.vm ∧ U.heap = h0 ∧ CHv Z consts_1 U.vm h0) (fun _ _ _ _ _ => True) (fun _ Us oS Us' => ∃ vR LR, oS = .returned vR ∧ Q_law n0 vR Us'.heap LR ∧ CHr Z consts_1 Us.vm Us.heap Us'.vm Us'.heap ∧ ReturnedEndW Us oS Us' LR room_1.cells room_1.slots) := by
  refine MetFree.of_bodySF (plainFor_of_name pno_0) hisR ?_
  intro pP e s m args below meth cC s₁ Bd hml0 hP hK
  obtain ⟨rfl, hZ, hh, CH0⟩ := hP
  have hx := Bd.exec
  have W := own_W hw
  have hby := Bd.bytes
  have hml : cC.maxLocals = 12 := hml0
  have hown : s.vm.findClass "com/example/stateful_search/statefulsearch/format/ExcerptsAbbreviatePinLaw" = some m.cls := findClass_of_methodNamed Bd.named
  have hnm := (name_of_methodNamed Bd.named Bd.method).1
  have X0 : Stand pP l e room_1 (s.setVm s.vm) m #[(.int p0), (.long q1), (.long q2), (.long q3)] below meth cC s₁ [] 0 0 := Stand.of_body Bd
  have e0 : s₁.heap = h0 := by rw [← hh, Bd.state]; rfl
  have N0 := Fr.nil n0
  have KC0 : Keep h0 h0 [] := Keep.refl h0 _
  replace hZ : Z.Warmed39 (s.setVm s.vm).vm := hZ
  replace hown : (s.setVm s.vm).vm.findClass "com/example/stateful_search/statefulsearch/format/ExcerptsAbbreviatePinLaw" = some m.cls := hown
  have SI0 : s.Since s.vm h0.size := (State.WarmedH.refl s).since _
  have SK0 : h0.size ≤ h0.size := Nat.le_refl _
  have CR0 : CHr Z consts_1 s.vm h0 s.vm h0 := CHr.refl CH0
  obtain ⟨A0, hA0⟩ : ∃ ζ, ζ = s₁.setTop (entryFrame m #[(.int p0), (.long q1), (.long q2), (.long q3)] maxLocals) := ⟨_, rfl⟩
  have pre0 : own_go pP e below A0 (s₁.setTop (mkF m 0 #[.val (.int p0), .val (.long q1), .second, .val (.long q2), .second, .val (.long q3), .second, .unset, .unset, .unset, .unset, .unset] [])) := fun τ κ => by rw [hA0]; exact castTop (ef_rm_law m p0 q1 q2 q3) κ
  have wS : ∀ a ∈ Bundle.stringAtoms, a.before a0 Z = true := fun d hd => hw d ((by decide +kernel : ∀ d ∈ Bundle.stringAtoms, d ∈ tables_1) d hd)
  have hws : ∀ d ∈ StrChars.Road.words, d.before a0 Z = true := fun d hd => hw d ((by decide +kernel : ∀ d ∈ StrChars.Road.words, d ∈ tables_1) d hd)
  obtain ⟨_, _, ⟨T101, L101, k101, n101⟩, -, X101, ⟨Lc101, hQ101, l101, y101, z101⟩, st101⟩ := Jvm.LawKit.callS X0 hx (y := y_5) hown (mvT hZ (W 0 rfl)) (mvT hZ (W 1 rfl)) (mvT hZ (W 2 rfl)) (mvT hZ (W 3 rfl)) (by decide) (backOf (W := 0) (rm_mk l Z a0 hw [] (p0 &&& (7 : Int32)) h0 n0 Z0 ) hZ (W 3 rfl) (W 2 rfl) (by decide) (by decide)) (g := (mkF m 4 #[.val (.int p0), .val (.long q1), .second, .val (.long q2), .second, .val (.long q3), .second, .unset, .unset, .unset, .unset, .unset] [(.int (p0 &&& (7 : Int32)))])) rfl (by rw [hml]; rfl) (argsL := [(.int (p0 &&& (7 : Int32)))]) (rest := []) (lenOf pdo_39 rfl) rfl (Nat.le_of_eq rfl) (hb hby at_4) (fun _ _ => ⟨rfl, e0, (by decide : 0 + 1 ≤ _), (by decide : 0 + 45 ≤ _)⟩)
  dsimp only [Pt.U, Pt.locs, Pt.cells, Pt.slots] at X101 l101 y101 z101 st101 hQ101
  subst l101 y101 z101
  obtain ⟨b101, k101a, n101a, rfl, Nq101, K101, lb101, hn101, V101⟩ := hQ101
  have N101 := Fr.app N0 Nq101
  have pq102 : own_go pP e below A0 (T101.setTop (mkF m 7 #[.val (.int p0), .val (.long q1), .second, .val (.long q2), .second, .val (.long q3), .second, .unset, .unset, .unset, .unset, .unset] [(.ref b101)])) := by
    intro τ κ
    refine pre0 τ ?_
    refine XS.iloadN X0.here hx rfl (hb hby at_0) rfl ?_
    refine XS.bipush X0.here hx rfl (hb hby at_1) ?_
    refine XS.iand X0.here hx rfl (hb hby at_3) rfl ?_
    refine st101 _ ?_
    exact κ
  have KC101 := KC0.trans K101 all0
  have CH101 := CHv.keep K101 sf0 CH0
  have CR101 := CHr.trans CR0 (CHr.keep K101 sf0 CH0)
  have SK101 := Nat.le_trans SK0 K101.1
  by_cases hS103 : n101a ≤ 40
  · skip
    have f104 := (Nat.le_trans Z0 K101.1)
    obtain ⟨_, _, ⟨T105, L105, k105, n105⟩, -, X105, ⟨Lc105, hQ105, l105, y105, z105⟩, st105⟩ := Jvm.LawKit.callS X101 hx (y := y_4) hown (mvT hZ (W 5 rfl)) (mvT hZ (W 6 rfl)) (mvT hZ (W 2 rfl)) (mvT hZ (W 7 rfl)) (by decide) (backOf (W := 0) (rm_fill l Z a0 hw [] b101 k101a n101a 45 q1 q2 q3 ([] ++ List.replicate 45 (Value.int 0)) T101.heap n0 f104 (V101.pad (pad_rep _ _ 45)) (Nat.le_trans Z0 lb101) hn101.1 (by simp)) hZ (W 7 rfl) (W 2 rfl) (by decide) (by decide)) (g := (mkF m 17 #[.val (.int p0), .val (.long q1), .second, .val (.long q2), .second, .val (.long q3), .second, .val (.ref b101), .unset, .unset, .unset, .unset] [(.int (45 : Int32)), (.long q3), (.long q2), (.long q1), (.ref b101)])) rfl (by rw [hml]; rfl) (argsL := [(.ref b101), (.long q1), (.long q2), (.long q3), (.int (45 : Int32))]) (rest := []) (lenOf pdo_40 rfl) rfl (Nat.le_of_eq rfl) (hb hby at_17) (fun _ _ => ⟨rfl, rfl, (by decide : 1 + 0 ≤ _), (by decide : 45 + 0 ≤ _)⟩)
    dsimp only [Pt.U, Pt.locs, Pt.cells, Pt.slots] at X105 l105 y105 z105 st105 hQ105
    subst l105 y105 z105
    obtain ⟨rfl, Nq105, K105, V105⟩ := hQ105
    have N105 := Fr.app N101 Nq105
    have pq106 : own_go pP e below A0 (T105.setTop (mkF m 20 #[.val (.int p0), .val (.long q1), .second, .val (.long q2), .second, .val (.long q3), .second, .val (.ref b101), .unset, .unset, .unset, .unset] [])) := by
      intro τ κ
      refine pq102 τ ?_
      refine XS.astore X101.here hx rfl (hb hby at_7) rfl rfl (l' := #[.val (.int p0), .val (.long q1), .second, .val (.long q2), .second, .val (.long q3), .second, .val (.ref b101), .unset, .unset, .unset, .unset]) rfl ?_
      refine XS.aload X101.here hx rfl (hb hby at_9) rfl rfl ?_
      refine XS.lloadN X101.here hx rfl (hb hby at_11) rfl ?_
      refine XS.lloadN X101.here hx rfl (hb hby at_12) rfl ?_
      refine XS.lload X101.here hx rfl (hb hby at_13) rfl ?_
      refine XS.bipush X101.here hx rfl (hb hby at_15) ?_
      refine st105 _ ?_
      exact κ
    have KC105 := KC101.trans K105 (allS (Or.inr (Nat.le_trans (Nat.le_refl _) lb101)) all0)
    have CH105 := CHv.keep K105 (sfS (Safe.arv hZ.alike V101 (by decide)) sf0) CH101
    have CR105 := CHr.trans CR101 (CHr.keep K105 (sfS (Safe.arv hZ.alike V101 (by decide)) sf0) CH101)
    have SK105 := Nat.le_trans SK101 K105.1
    have Vt105 := own_text hn101.1 V105
    obtain ⟨T107, h107, X107, e107, E107, A107, D107, -, st107⟩ := newO X105 hx hZ hown (W 11 rfl) (W 12 rfl) (W 13 rfl) rfl (g := (mkF m 20 #[.val (.int p0), .val (.long q1), .second, .val (.long q2), .second, .val (.long q3), .second, .val (.ref b101), .unset, .unset, .unset, .unset] [])) rfl (hb hby at_20) (by decide) (by decide)
    obtain ⟨b107, g107⟩ : ∃ z, z = T105.heap.size := ⟨_, rfl⟩
    rw [← g107] at A107 D107 st107
    have pq108 : own_go pP e below A0 (T107.setTop (mkF m 23 #[.val (.int p0), .val (.long q1), .second, .val (.long q2), .second, .val (.long q3), .second, .val (.ref b101), .unset, .unset, .unset, .unset] [(.ref b107)])) := by
      intro τ κ
      refine pq106 τ ?_
      refine st107 _ ?_
      exact κ
    have KC107 := KC105.ext E107
    have CH107 := CHv.ext E107 CH105
    have CR107 := CHr.trans CR105 (CHr.ext E107 CH105)
    have SK107 := Nat.le_trans SK105 E107.1
    have Sf107 := Safe.ext (x := b107) E107 CH105 (Safe.new (Nat.le_of_eq g107.symm))
    have F_value_b107 : Fld Z h107 b107 "java/lang/String" "value" "[B" .null := D107 (Or.inr (W 26 rfl)) (ty := (.array .byte)) (by decide)
    have F_coder_b107 : Fld Z h107 b107 "java/lang/String" "coder" "B" (.int (0 : Int32)) := D107 (Or.inr (W 27 rfl)) (ty := .byte) (by decide)
    have pq109 : own_go pP e below A0 (T107.setTop (mkF m 26 #[.val (.int p0), .val (.long q1), .second, .val (.long q2), .second, .val (.long q3), .second, .val (.ref b101), .unset, .unset, .unset, .unset] [(.ref b101), (.ref b107), (.ref b107)])) := by
      intro τ κ
      refine pq108 τ ?_
      refine XS.dup X107.here hx rfl (hb hby at_23) rfl rfl ?_
      refine XS.aload X107.here hx rfl (hb hby at_24) rfl rfl ?_
      exact κ
    have f111 := (Vt105.ext E107)
    by_cases hL110 : ∀ c ∈ (own_txt q1 q2 q3 n101a), ¬ (255 : Int32) < c
    · skip
      have h3 : n101a = 0 ∨ (1 ≤ n101a ∧ n101a ≤ 2) := by
        rcases Nat.lt_or_ge 12 n101a with r | r
        · exact absurd hL110 (own_badtxt r fun x hx => hx)
        · omega
      rcases h3 with rfl | h12
      · skip
        have V112 : Arv Z h107 b101 k101a .char (0 : Int32) [] (.int (0 : Int32)) := f111
        have f113 := (Nat.le_trans (Nat.le_trans f104 K105.1) E107.1)
        obtain ⟨_, _, ⟨T114, L114, k114, n114⟩, -, X114, S114, G114, ⟨Lc114, hQ114, l114, y114, z114, C114⟩, st114⟩ := X107.specialBackS hx (y := y_1) rfl hown (mvT hZ (W 14 rfl)) (mvT hZ (W 15 rfl)) (mvT hZ (W 16 rfl)) (by decide) (backOfSH (s := s) (vm0 := s.vm) (EL := consts_1) (W := 1) (rm_emp1 l Z a0 hw hEW [] b107 b101 k101a h107 n0 f113 A107 (Nat.le_trans (Nat.le_trans f104 K105.1) (Nat.le_of_eq g107.symm)) F_value_b107 F_coder_b107 V112) hZ (W 16 rfl) (W 13 rfl) (by decide) (by decide) hEW CH107) (g := (mkF m 26 #[.val (.int p0), .val (.long q1), .second, .val (.long q2), .second, .val (.long q3), .second, .val (.ref b101), .unset, .unset, .unset, .unset] [(.ref b101), (.ref b107), (.ref b107)])) rfl (by rw [hml]; rfl) (Steps.refl _) (a := b107) (argsL := [(.ref b101)]) (rest := [(.ref b107)]) (lenOf pdo_41 rfl) rfl (Nat.le_of_eq rfl) (hb hby at_26) (fun _ _ => ⟨rfl, e107, (by decide : 2 + 2 ≤ _), (by decide : 49 + 4 ≤ _)⟩)
        dsimp only [Pt.U, Pt.locs, Pt.cells, Pt.slots] at X114 l114 y114 z114 st114 hQ114 S114 G114 C114
        subst l114 y114 z114
        have G114a : h107.size ≤ T114.heap.size := by first | exact G114 | (rw [← e107]; exact G114)
        obtain ⟨X114, SI114, Z114, O114⟩ := rebS SI0 SK107 X114 S114 G114a hZ hown
        have SK114 : T114.heap.size ≤ T114.heap.size := Nat.le_refl _
        obtain ⟨rfl, Nq114, K114, Ex114, Fc114, t114, kb114, tc114, Fv114, Vt114⟩ := hQ114
        have N114 := Fr.app N105 Nq114
        have pq115 : own_go pP e below A0 (T114.setTop (mkF m 29 #[.val (.int p0), .val (.long q1), .second, .val (.long q2), .second, .val (.long q3), .second, .val (.ref b101), .unset, .unset, .unset, .unset] [(.ref b107)])) := by
          intro τ κ
          refine pq109 τ ?_
          refine st114.trans ?_
          exact κ
        have KC114 := KC107.trans K114 (allS (Or.inr (Nat.le_trans (Nat.le_trans (Nat.le_trans (Nat.le_refl _) K101.1) K105.1) (Nat.le_of_eq g107.symm))) all0)
        have CH114 := C114.1
        have CR114 := CHr.trans CR107 C114
        have f116 := (V112.keep K114 (ninS (Nat.ne_of_lt (Nat.lt_of_lt_of_le Vt105.lt (Nat.le_of_eq g107.symm))) nin0))
        obtain ⟨T117, h117, k117, X117, e117, E117, A117, st117⟩ := newP X114 hx Z114 (W 4 rfl) rfl (g := (mkF m 33 #[.val (.int p0), .val (.long q1), .second, .val (.long q2), .second, .val (.long q3), .second, .val (.ref b101), .val (.ref b107), .unset, .unset, .unset] [(.int (43 : Int32))])) rfl (hb hby at_33) rfl (by decide) (cap := 43) (by decide) (by decide) (by decide) (by decide)
        obtain ⟨b117, g117⟩ : ∃ z, z = T114.heap.size := ⟨_, rfl⟩
        rw [← g117] at A117 st117
        have pq118 : own_go pP e below A0 (T117.setTop (mkF m 35 #[.val (.int p0), .val (.long q1), .second, .val (.long q2), .second, .val (.long q3), .second, .val (.ref b101), .val (.ref b107), .unset, .unset, .unset] [(.ref b117)])) := by
          intro τ κ
          refine pq115 τ ?_
          refine XS.astore X114.here hx rfl (hb hby at_29) rfl rfl (l' := #[.val (.int p0), .val (.long q1), .second, .val (.long q2), .second, .val (.long q3), .second, .val (.ref b101), .val (.ref b107), .unset, .unset, .unset]) rfl ?_
          refine XS.bipush X114.here hx rfl (hb hby at_31) ?_
          refine st117 _ ?_
          exact κ
        have KC117 := KC114.ext E117
        have CH117 := CHv.ext E117 CH114
        have CR117 := CHr.trans CR114 (CHr.ext E117 CH114)
        have SK117 := Nat.le_trans SK114 E117.1
        have V117 : Arv Z h117 b117 k117 .char (43 : Int32) [] (.int (0 : Int32)) := Arv.new A117 (by decide)
        have Sf117 := Safe.ext (x := b117) E117 CH114 (Safe.new (Nat.le_of_eq g117.symm))
        have f119 := (Nat.le_trans (Nat.le_trans f113 K114.1) E117.1)
        obtain ⟨_, _, ⟨T120, L120, k120, n120⟩, -, X120, ⟨Lc120, hQ120, l120, y120, z120⟩, st120⟩ := Jvm.LawKit.callS X117 hx (y := y_4) O114 (mvT Z114 (W 5 rfl)) (mvT Z114 (W 6 rfl)) (mvT Z114 (W 2 rfl)) (mvT Z114 (W 7 rfl)) (by decide) (backOf (W := 0) (rm_fill l Z a0 hw [] b117 k117 43 40 q1 q2 q3 ([] ++ List.replicate 45 (Value.int 0)) h117 n0 f119 (V117.pad (pad_rep _ _ 45)) (Nat.le_trans (Nat.le_trans f113 K114.1) (Nat.le_of_eq g117.symm)) (by decide) (by simp)) Z114 (W 7 rfl) (W 2 rfl) (by decide) (by decide)) (g := (mkF m 45 #[.val (.int p0), .val (.long q1), .second, .val (.long q2), .second, .val (.long q3), .second, .val (.ref b101), .val (.ref b107), .val (.ref b117), .unset, .unset] [(.int (40 : Int32)), (.long q3), (.long q2), (.long q1), (.ref b117)])) rfl (by rw [hml]; rfl) (argsL := [(.ref b117), (.long q1), (.long q2), (.long q3), (.int (40 : Int32))]) (rest := []) (lenOf pdo_40 rfl) rfl (Nat.le_of_eq rfl) (hb hby at_45) (fun _ _ => ⟨rfl, e117, (by decide : 5 + 0 ≤ _), (by decide : 96 + 0 ≤ _)⟩)
        dsimp only [Pt.U, Pt.locs, Pt.cells, Pt.slots] at X120 l120 y120 z120 st120 hQ120
        subst l120 y120 z120
        obtain ⟨rfl, Nq120, K120, V120⟩ := hQ120
        have N120 := Fr.app N114 Nq120
        have pq121 : own_go pP e below A0 (T120.setTop (mkF m 48 #[.val (.int p0), .val (.long q1), .second, .val (.long q2), .second, .val (.long q3), .second, .val (.ref b101), .val (.ref b107), .val (.ref b117), .unset, .unset] [])) := by
          intro τ κ
          refine pq118 τ ?_
          refine XS.astore X117.here hx rfl (hb hby at_35) rfl rfl (l' := #[.val (.int p0), .val (.long q1), .second, .val (.long q2), .second, .val (.long q3), .second, .val (.ref b101), .val (.ref b107), .val (.ref b117), .unset, .unset]) rfl ?_
          refine XS.aload X117.here hx rfl (hb hby at_37) rfl rfl ?_
          refine XS.lloadN X117.here hx rfl (hb hby at_39) rfl ?_
          refine XS.lloadN X117.here hx rfl (hb hby at_40) rfl ?_
          refine XS.lload X117.here hx rfl (hb hby at_41) rfl ?_
          refine XS.bipush X117.here hx rfl (hb hby at_43) ?_
          refine st120 _ ?_
          exact κ
        have KC120 := KC117.trans K120 (allS (Or.inr (Nat.le_trans (Nat.le_trans (Nat.le_trans (Nat.le_trans (Nat.le_trans (Nat.le_refl _) K101.1) K105.1) E107.1) K114.1) (Nat.le_of_eq g117.symm))) all0)
        have CH120 := CHv.keep K120 (sfS Sf117 sf0) CH117
        have CR120 := CHr.trans CR117 (CHr.keep K120 (sfS Sf117 sf0) CH117)
        have SK120 := Nat.le_trans SK117 K120.1
        have f123 := (Safe.keep K120 (sfS Sf117 sf0) CH117 Sf117)
        obtain ⟨cl122, Ar122, q122, S122, M122, Hs122, G122⟩ := id V120
        obtain ⟨T122, h122, X122, e122, W122, st122⟩ := stC X120 hx Z114 rfl Ar122 (j := (40 : Int32)) (inb_of S122 ⟨by decide, by decide⟩) (g := (mkF m 54 #[.val (.int p0), .val (.long q1), .second, .val (.long q2), .second, .val (.long q3), .second, .val (.ref b101), .val (.ref b107), .val (.ref b117), .unset, .unset] [(.int (46 : Int32)), (.int (40 : Int32)), (.ref b117)])) rfl rfl (hb hby at_54)
        have pq124 : own_go pP e below A0 (T122.setTop (mkF m 55 #[.val (.int p0), .val (.long q1), .second, .val (.long q2), .second, .val (.long q3), .second, .val (.ref b101), .val (.ref b107), .val (.ref b117), .unset, .unset] [])) := by
          intro τ κ
          refine pq121 τ ?_
          refine XS.aload X120.here hx rfl (hb hby at_48) rfl rfl ?_
          refine XS.bipush X120.here hx rfl (hb hby at_50) ?_
          refine XS.bipush X120.here hx rfl (hb hby at_52) ?_
          refine st122 _ ?_
          exact κ
        have KC122 := KC120.wr W122 (Or.inr (Nat.le_trans (Nat.le_trans (Nat.le_trans (Nat.le_trans (Nat.le_trans (Nat.le_refl _) K101.1) K105.1) E107.1) K114.1) (Nat.le_of_eq g117.symm)))
        have CH122 := CHv.wr W122 f123 CH120
        have CR122 := CHr.trans CR120 (CHr.wr W122 f123 CH120)
        have SK122 := Nat.le_trans SK120 (Keep.of_wr W122).1
        have V122 : Arv Z h122 b117 k117 .char (43 : Int32) ((own_fill q1 q2 q3 43 40 45 ([] ++ List.replicate 45 (Value.int 0))).set 40 (.int (nar .char (46 : Int32)))) (.int (0 : Int32)) := Arv.set Ar122 q122 S122 M122 Hs122 G122 (fits_nar_char _) W122 40 (by decide) (by simp only [List.length_set, own_fill_len]; simp)
        have N122 := Fr.snoc X122 N120 (Nat.le_trans (Nat.le_trans f113 K114.1) (Nat.le_of_eq g117.symm))
        have f126 := (Safe.wr W122 f123 CH120 f123)
        obtain ⟨cl125, Ar125, q125, S125, M125, Hs125, G125⟩ := id V122
        obtain ⟨T125, h125, X125, e125, W125, st125⟩ := stC X122 hx Z114 e122 Ar125 (j := (41 : Int32)) (inb_of S125 ⟨by decide, by decide⟩) (g := (mkF m 61 #[.val (.int p0), .val (.long q1), .second, .val (.long q2), .second, .val (.long q3), .second, .val (.ref b101), .val (.ref b107), .val (.ref b117), .unset, .unset] [(.int (46 : Int32)), (.int (41 : Int32)), (.ref b117)])) rfl rfl (hb hby at_61)
        have pq127 : own_go pP e below A0 (T125.setTop (mkF m 62 #[.val (.int p0), .val (.long q1), .second, .val (.long q2), .second, .val (.long q3), .second, .val (.ref b101), .val (.ref b107), .val (.ref b117), .unset, .unset] [])) := by
          intro τ κ
          refine pq124 τ ?_
          refine XS.aload X122.here hx rfl (hb hby at_55) rfl rfl ?_
          refine XS.bipush X122.here hx rfl (hb hby at_57) ?_
          refine XS.bipush X122.here hx rfl (hb hby at_59) ?_
          refine st125 _ ?_
          exact κ
        have KC125 := KC122.wr W125 (Or.inr (Nat.le_trans (Nat.le_trans (Nat.le_trans (Nat.le_trans (Nat.le_trans (Nat.le_refl _) K101.1) K105.1) E107.1) K114.1) (Nat.le_of_eq g117.symm)))
        have CH125 := CHv.wr W125 f126 CH122
        have CR125 := CHr.trans CR122 (CHr.wr W125 f126 CH122)
        have SK125 := Nat.le_trans SK122 (Keep.of_wr W125).1
        have V125 : Arv Z h125 b117 k117 .char (43 : Int32) (((own_fill q1 q2 q3 43 40 45 ([] ++ List.replicate 45 (Value.int 0))).set 40 (.int (nar .char (46 : Int32)))).set 41 (.int (nar .char (46 : Int32)))) (.int (0 : Int32)) := Arv.set Ar125 q125 S125 M125 Hs125 G125 (fits_nar_char _) W125 41 (by decide) (by simp only [List.length_set, own_fill_len]; simp)
        have N125 := Fr.snoc X125 N122 (Nat.le_trans (Nat.le_trans f113 K114.1) (Nat.le_of_eq g117.symm))
        have f129 := (Safe.wr W125 f126 CH122 f126)
        obtain ⟨cl128, Ar128, q128, S128, M128, Hs128, G128⟩ := id V125
        obtain ⟨T128, h128, X128, e128, W128, st128⟩ := stC X125 hx Z114 e125 Ar128 (j := (42 : Int32)) (inb_of S128 ⟨by decide, by decide⟩) (g := (mkF m 68 #[.val (.int p0), .val (.long q1), .second, .val (.long q2), .second, .val (.long q3), .second, .val (.ref b101), .val (.ref b107), .val (.ref b117), .unset, .unset] [(.int (46 : Int32)), (.int (42 : Int32)), (.ref b117)])) rfl rfl (hb hby at_68)
        have pq130 : own_go pP e below A0 (T128.setTop (mkF m 69 #[.val (.int p0), .val (.long q1), .second, .val (.long q2), .second, .val (.long q3), .second, .val (.ref b101), .val (.ref b107), .val (.ref b117), .unset, .unset] [])) := by
          intro τ κ
          refine pq127 τ ?_
          refine XS.aload X125.here hx rfl (hb hby at_62) rfl rfl ?_
          refine XS.bipush X125.here hx rfl (hb hby at_64) ?_
          refine XS.bipush X125.here hx rfl (hb hby at_66) ?_
          refine st128 _ ?_
          exact κ
        have KC128 := KC125.wr W128 (Or.inr (Nat.le_trans (Nat.le_trans (Nat.le_trans (Nat.le_trans (Nat.le_trans (Nat.le_refl _) K101.1) K105.1) E107.1) K114.1) (Nat.le_of_eq g117.symm)))
        have CH128 := CHv.wr W128 f129 CH125
        have CR128 := CHr.trans CR125 (CHr.wr W128 f129 CH125)
        have SK128 := Nat.le_trans SK125 (Keep.of_wr W128).1
        have V128 : Arv Z h128 b117 k117 .char (43 : Int32) ((((own_fill q1 q2 q3 43 40 45 ([] ++ List.replicate 45 (Value.int 0))).set 40 (.int (nar .char (46 : Int32)))).set 41 (.int (nar .char (46 : Int32)))).set 42 (.int (nar .char (46 : Int32)))) (.int (0 : Int32)) := Arv.set Ar128 q128 S128 M128 Hs128 G128 (fits_nar_char _) W128 42 (by decide) (by simp only [List.length_set, own_fill_len]; simp)
        have N128 := Fr.snoc X128 N125 (Nat.le_trans (Nat.le_trans f113 K114.1) (Nat.le_of_eq g117.symm))
        have Ve131 := own_ecs V128
        obtain ⟨T132, h132, X132, e132, E132, A132, D132, -, st132⟩ := newO X128 hx Z114 O114 (W 11 rfl) (W 12 rfl) (W 13 rfl) e128 (g := (mkF m 69 #[.val (.int p0), .val (.long q1), .second, .val (.long q2), .second, .val (.long q3), .second, .val (.ref b101), .val (.ref b107), .val (.ref b117), .unset, .unset] [])) rfl (hb hby at_69) (by decide) (by decide)
        obtain ⟨b132, g132⟩ : ∃ z, z = h128.size := ⟨_, rfl⟩
        rw [← g132] at A132 D132 st132
        have pq133 : own_go pP e below A0 (T132.setTop (mkF m 72 #[.val (.int p0), .val (.long q1), .second, .val (.long q2), .second, .val (.long q3), .second, .val (.ref b101), .val (.ref b107), .val (.ref b117), .unset, .unset] [(.ref b132)])) := by
          intro τ κ
          refine pq130 τ ?_
          refine st132 _ ?_
          exact κ
        have KC132 := KC128.ext E132
        have CH132 := CHv.ext E132 CH128
        have CR132 := CHr.trans CR128 (CHr.ext E132 CH128)
        have SK132 := Nat.le_trans SK128 E132.1
        have Sf132 := Safe.ext (x := b132) E132 CH128 (Safe.new (Nat.le_of_eq g132.symm))
        have F_value_b132 : Fld Z h132 b132 "java/lang/String" "value" "[B" .null := D132 (Or.inr (W 26 rfl)) (ty := (.array .byte)) (by decide)
        have F_coder_b132 : Fld Z h132 b132 "java/lang/String" "coder" "B" (.int (0 : Int32)) := D132 (Or.inr (W 27 rfl)) (ty := .byte) (by decide)
        have f134 := ((((((((((X00.keep K101 all0).keep K105 (allS (Nat.le_trans Z0 lb101) all0)).ext E107).keep K114 (allS (Nat.le_trans (Nat.le_trans f104 K105.1) (Nat.le_of_eq g107.symm)) all0)).ext E117).keep K120 (allS (Nat.le_trans (Nat.le_trans f113 K114.1) (Nat.le_of_eq g117.symm)) all0)).wr W122 (Nat.le_trans (Nat.le_trans f113 K114.1) (Nat.le_of_eq g117.symm))).wr W125 (Nat.le_trans (Nat.le_trans f113 K114.1) (Nat.le_of_eq g117.symm))).wr W128 (Nat.le_trans (Nat.le_trans f113 K114.1) (Nat.le_of_eq g117.symm))).ext E132)
        have f135 := (Ve131.ext E132)
        have f136 := (Nat.le_trans (Nat.le_trans (Nat.le_trans (Nat.le_trans (Nat.le_trans f119 K120.1) (Keep.of_wr W122).1) (Keep.of_wr W125).1) (Keep.of_wr W128).1) E132.1)
        obtain ⟨_, _, ⟨T137, L137, k137, n137⟩, -, X137, ⟨Lc137, hQ137, l137, y137, z137⟩, st137⟩ := X132.specialBack hx (y := y_1) rfl O114 (mvT Z114 (W 14 rfl)) (mvT Z114 (W 15 rfl)) (mvT Z114 (W 16 rfl)) (by decide) (backOf (W := 1) (rm_i1 l Z a0 hw [] b132 b117 k117 (own_txt q1 q2 q3 40 ++ ([(46 : Int32), (46 : Int32), (46 : Int32)] : List Int32)) G1 h132 n0 f136 O2 P5 f134 OA OH OL A132 (Nat.le_trans (Nat.le_trans (Nat.le_trans (Nat.le_trans (Nat.le_trans f119 K120.1) (Keep.of_wr W122).1) (Keep.of_wr W125).1) (Keep.of_wr W128).1) (Nat.le_of_eq g132.symm)) F_value_b132 F_coder_b132 f135 (own_badtxt (m := 40) (by decide) fun x hx => List.mem_append_left _ hx) (own_hpd (own_txtR _ _ _ _)) (by rw [List.length_append, own_txt_len]; decide) (by rw [List.length_append, own_txt_len]; decide)) Z114 (W 16 rfl) (W 13 rfl) (by decide) (by decide)) (g := (mkF m 75 #[.val (.int p0), .val (.long q1), .second, .val (.long q2), .second, .val (.long q3), .second, .val (.ref b101), .val (.ref b107), .val (.ref b117), .unset, .unset] [(.ref b117), (.ref b132), (.ref b132)])) rfl (by rw [hml]; rfl) (Steps.refl _) (a := b132) (argsL := [(.ref b117)]) (rest := [(.ref b132)]) (lenOf pdo_41 rfl) rfl (Nat.le_of_eq rfl) (hb hby at_75) (fun _ _ => ⟨rfl, e132, (by decide : 6 + 2 ≤ _), (by decide : 100 + 245 ≤ _)⟩)
        dsimp only [Pt.U, Pt.locs, Pt.cells, Pt.slots] at X137 l137 y137 z137 st137 hQ137
        subst l137 y137 z137
        obtain ⟨rfl, Nq137, K137, U137⟩ := hQ137
        have N137 := Fr.app N128 Nq137
        have pq138 : own_go pP e below A0 (T137.setTop (mkF m 78 #[.val (.int p0), .val (.long q1), .second, .val (.long q2), .second, .val (.long q3), .second, .val (.ref b101), .val (.ref b107), .val (.ref b117), .unset, .unset] [(.ref b132)])) := by
          intro τ κ
          refine pq133 τ ?_
          refine XS.dup X132.here hx rfl (hb hby at_72) rfl rfl ?_
          refine XS.aload X132.here hx rfl (hb hby at_73) rfl rfl ?_
          refine st137.trans ?_
          exact κ
        have KC137 := KC132.trans K137 (allS (Or.inr (Nat.le_trans (Nat.le_trans (Nat.le_trans (Nat.le_trans (Nat.le_trans (Nat.le_trans (Nat.le_trans (Nat.le_trans (Nat.le_trans (Nat.le_trans (Nat.le_refl _) K101.1) K105.1) E107.1) K114.1) E117.1) K120.1) (Keep.of_wr W122).1) (Keep.of_wr W125).1) (Keep.of_wr W128).1) (Nat.le_of_eq g132.symm))) all0)
        have CH137 := CHv.keep K137 (sfS Sf132 sf0) CH132
        have CR137 := CHr.trans CR132 (CHr.keep K137 (sfS Sf132 sf0) CH132)
        have SK137 := Nat.le_trans SK132 K137.1
        obtain ⟨tx139, kx139, Ea139, Fva139, Fca139, vx139, Va139, hua139, hpa139⟩ := U137
        have f140 := (((((((Vt114.ext E117).keep K120 (ninS (Nat.ne_of_lt (Nat.lt_of_lt_of_le Vt114.lt (Nat.le_of_eq g117.symm))) nin0)).other W122 (Nat.ne_of_lt (Nat.lt_of_lt_of_le Vt114.lt (Nat.le_of_eq g117.symm)))).other W125 (Nat.ne_of_lt (Nat.lt_of_lt_of_le Vt114.lt (Nat.le_of_eq g117.symm)))).other W128 (Nat.ne_of_lt (Nat.lt_of_lt_of_le Vt114.lt (Nat.le_of_eq g117.symm)))).ext E132).keep K137 (ninS (Nat.ne_of_lt (Nat.lt_of_lt_of_le (((((Vt114.ext E117).keep K120 (ninS (Nat.ne_of_lt (Nat.lt_of_lt_of_le Vt114.lt (Nat.le_of_eq g117.symm))) nin0)).other W122 (Nat.ne_of_lt (Nat.lt_of_lt_of_le Vt114.lt (Nat.le_of_eq g117.symm)))).other W125 (Nat.ne_of_lt (Nat.lt_of_lt_of_le Vt114.lt (Nat.le_of_eq g117.symm)))).other W128 (Nat.ne_of_lt (Nat.lt_of_lt_of_le Vt114.lt (Nat.le_of_eq g117.symm)))).lt (Nat.le_of_eq g132.symm))) nin0))
        have f141 := (((((((Ex114.ext E117).keep K120).wr W122).wr W125).wr W128).ext E132).keep K137)
        have f142 := (((((((Fv114.ext E117).keep K120 (ninS (Nat.ne_of_lt (Nat.lt_of_lt_of_le Ex114.lt (Nat.le_of_eq g117.symm))) nin0)).other W122 (Or.inl (Nat.ne_of_lt (Nat.lt_of_lt_of_le Ex114.lt (Nat.le_of_eq g117.symm))))).other W125 (Or.inl (Nat.ne_of_lt (Nat.lt_of_lt_of_le Ex114.lt (Nat.le_of_eq g117.symm))))).other W128 (Or.inl (Nat.ne_of_lt (Nat.lt_of_lt_of_le Ex114.lt (Nat.le_of_eq g117.symm))))).ext E132).keep K137 (ninS (Nat.ne_of_lt (Nat.lt_of_lt_of_le (((((Ex114.ext E117).keep K120).wr W122).wr W125).wr W128).lt (Nat.le_of_eq g132.symm))) nin0))
        have f143 := (((((((Fc114.ext E117).keep K120 (ninS (Nat.ne_of_lt (Nat.lt_of_lt_of_le Ex114.lt (Nat.le_of_eq g117.symm))) nin0)).other W122 (Or.inl (Nat.ne_of_lt (Nat.lt_of_lt_of_le Ex114.lt (Nat.le_of_eq g117.symm))))).other W125 (Or.inl (Nat.ne_of_lt (Nat.lt_of_lt_of_le Ex114.lt (Nat.le_of_eq g117.symm))))).other W128 (Or.inl (Nat.ne_of_lt (Nat.lt_of_lt_of_le Ex114.lt (Nat.le_of_eq g117.symm))))).ext E132).keep K137 (ninS (Nat.ne_of_lt (Nat.lt_of_lt_of_le (((((Ex114.ext E117).keep K120).wr W122).wr W125).wr W128).lt (Nat.le_of_eq g132.symm))) nin0))
        have f144 := (f134.keep K137 (allS (Nat.le_trans (Nat.le_trans (Nat.le_trans (Nat.le_trans (Nat.le_trans f119 K120.1) (Keep.of_wr W122).1) (Keep.of_wr W125).1) (Keep.of_wr W128).1) (Nat.le_of_eq g132.symm)) all0))
        have f145 := (Nat.le_trans f136 K137.1)
        obtain ⟨_, _, ⟨T146, L146, k146, n146⟩, -, X146, ⟨Lc146, hQ146, l146, y146, z146⟩, st146⟩ := Jvm.LawKit.callS X137 hx (y := y_17) O114 (mvT Z114 (W 66 rfl)) (mvT Z114 (W 67 rfl)) (mvT Z114 (W 68 rfl)) (mvT Z114 (W 69 rfl)) (by decide) (backOf (W := 0) (rm_abS l Z a0 hw [] b107 (own_txt q1 q2 q3 0) G1 T137.heap n0 f145 O2 P5 f144 (by rw [own_txt_len]; decide) (⟨t114, _, f141, f142, Or.inl ⟨f143, f140, (by simp [own_txt])⟩⟩ : UStr Z T137.heap b107 (own_txt q1 q2 q3 0))) Z114 (W 69 rfl) (W 68 rfl) (by decide) (by decide)) (g := (mkF m 82 #[.val (.int p0), .val (.long q1), .second, .val (.long q2), .second, .val (.long q3), .second, .val (.ref b101), .val (.ref b107), .val (.ref b117), .val (.ref b132), .unset] [(.ref b107)])) rfl (by rw [hml]; rfl) (argsL := [(.ref b107)]) (rest := []) (lenOf pdo_42 rfl) rfl (Nat.le_of_eq rfl) (hb hby at_82) (fun _ _ => ⟨rfl, rfl, (by decide : 8 + 0 ≤ _), (by decide : 345 + 0 ≤ _)⟩)
        dsimp only [Pt.U, Pt.locs, Pt.cells, Pt.slots] at X146 l146 y146 z146 st146 hQ146
        subst l146 y146 z146
        obtain ⟨rfl, Nq146, eq146⟩ := hQ146
        have N146 := Fr.app N137 Nq146
        have pq147 : own_go pP e below A0 (T146.setTop (mkF m 85 #[.val (.int p0), .val (.long q1), .second, .val (.long q2), .second, .val (.long q3), .second, .val (.ref b101), .val (.ref b107), .val (.ref b117), .val (.ref b132), .unset] [(.ref b107)])) := by
          intro τ κ
          refine pq138 τ ?_
          refine XS.astore X137.here hx rfl (hb hby at_78) rfl rfl (l' := #[.val (.int p0), .val (.long q1), .second, .val (.long q2), .second, .val (.long q3), .second, .val (.ref b101), .val (.ref b107), .val (.ref b117), .val (.ref b132), .unset]) rfl ?_
          refine XS.aload X137.here hx rfl (hb hby at_80) rfl rfl ?_
          refine st146 _ ?_
          exact κ
        have f148 := (((((((f116.ext E117).keep K120 (ninS (Nat.ne_of_lt (Nat.lt_of_lt_of_le f116.lt (Nat.le_of_eq g117.symm))) nin0)).other W122 (Nat.ne_of_lt (Nat.lt_of_lt_of_le f116.lt (Nat.le_of_eq g117.symm)))).other W125 (Nat.ne_of_lt (Nat.lt_of_lt_of_le f116.lt (Nat.le_of_eq g117.symm)))).other W128 (Nat.ne_of_lt (Nat.lt_of_lt_of_le f116.lt (Nat.le_of_eq g117.symm)))).ext E132).keep K137 (ninS (Nat.ne_of_lt (Nat.lt_of_lt_of_le (((((f116.ext E117).keep K120 (ninS (Nat.ne_of_lt (Nat.lt_of_lt_of_le f116.lt (Nat.le_of_eq g117.symm))) nin0)).other W122 (Nat.ne_of_lt (Nat.lt_of_lt_of_le f116.lt (Nat.le_of_eq g117.symm)))).other W125 (Nat.ne_of_lt (Nat.lt_of_lt_of_le f116.lt (Nat.le_of_eq g117.symm)))).other W128 (Nat.ne_of_lt (Nat.lt_of_lt_of_le f116.lt (Nat.le_of_eq g117.symm)))).lt (Nat.le_of_eq g132.symm))) nin0))
        obtain ⟨cl149, Ar149, q149, S149, M149, Hs149, G149⟩ := id f148
        obtain ⟨cq151, kq151, q151a, q151b, q151c⟩ := isOf Z114 eq146 f141
        obtain ⟨_, _, ⟨T150, L150, k150, n150⟩, -, X150, ⟨Lc150, hQ150, l150, y150, z150⟩, st150⟩ := X146.virtualBack hx (y := y_56) (z := y_56) O114 (mvT Z114 (W 80 rfl)) (mvT Z114 (W 81 rfl)) (notFace_of_selects (args := #[]) (mvT Z114 (W 83 rfl))) (mvT Z114 (W 83 rfl)) (mvT Z114 (W 82 rfl)) (by decide) (backOf (W := 0) (rm_eqs l Z a0 hw [] b107 T137.heap n0 f145 ) Z114 (W 84 rfl) (W 13 rfl) (by decide) (by decide)) q151a q151c (g := (mkF m 99 #[.val (.int p0), .val (.long q1), .second, .val (.long q2), .second, .val (.long q3), .second, .val (.ref b101), .val (.ref b107), .val (.ref b117), .val (.ref b132), .val (.ref b107)] [(.ref b107), (.ref b107)])) rfl (by rw [hml]; rfl) (Steps.refl _) (argsL := [(.ref b107)]) (rest := []) (lenOf pdo_43 rfl) rfl (Nat.le_of_eq rfl) (hb hby at_99) (fun _ _ => ⟨rfl, eq146, (by decide : 8 + 0 ≤ _), (by decide : 345 + 0 ≤ _)⟩)
        dsimp only [Pt.U, Pt.locs, Pt.cells, Pt.slots] at X150 l150 y150 z150 st150 hQ150
        subst l150 y150 z150
        obtain ⟨rfl, Nq150, eq150⟩ := hQ150
        have N150 := Fr.app N146 Nq150
        have pq152 : own_go pP e below A0 (T150.setTop (mkF m 102 #[.val (.int p0), .val (.long q1), .second, .val (.long q2), .second, .val (.long q3), .second, .val (.ref b101), .val (.ref b107), .val (.ref b117), .val (.ref b132), .val (.ref b107)] [(.int (1 : Int32))])) := by
          intro τ κ
          refine pq147 τ ?_
          refine XS.astore X146.here hx rfl (hb hby at_85) rfl rfl (l' := #[.val (.int p0), .val (.long q1), .second, .val (.long q2), .second, .val (.long q3), .second, .val (.ref b101), .val (.ref b107), .val (.ref b117), .val (.ref b132), .val (.ref b107)]) rfl ?_
          refine XS.aload X146.here hx rfl (hb hby at_87) rfl rfl ?_
          refine X146.arraylength hx (by rw [eq146]; exact Ar149.1) (State.isArrayOf_alike Z114.alike Ar149.2.1) (g := (mkF m 89 #[.val (.int p0), .val (.long q1), .second, .val (.long q2), .second, .val (.long q3), .second, .val (.ref b101), .val (.ref b107), .val (.ref b117), .val (.ref b132), .val (.ref b107)] [(.ref b101)])) rfl rfl (hb hby at_89) _ ?_
          rw [len_of S149 M149]
          refine XS.bipush X146.here hx rfl (hb hby at_90) ?_
          refine XS.icmpNo X146.here hx rfl (hb hby at_92) rfl (flt (own_le40 (by first | decide | (rw [own_txt_len]; decide)))).2.2.1 ?_
          refine XS.aload X146.here hx rfl (hb hby at_95) rfl rfl ?_
          refine XS.aload X146.here hx rfl (hb hby at_97) rfl rfl ?_
          refine st150.trans ?_
          exact κ
        have SKe := Nat.le_trans SK137 (Nat.le_of_eq (congrArg (fun z : Heap => Array.size z) (Eq.symm eq150)))
        obtain ⟨fs, hrE, hrun, hended, hEnd⟩ := X150.leaveW SI114 SKe (v := some (.int (1 : Int32))) (fun h => by rw [Bd.returns] at h; cases h)
        have CHe := CHr.trans CR137 (CHv.at X150 Z114 hEW CH137)
        have pqE := pq152
        rw [hA0] at pqE
        refine ⟨_, _, pqE _ ?_, hrun, hended, _, _, rfl, ?_, ?_, hEnd.1, hEnd.2.1, hEnd.2.2.1, hEnd.2.2.2.mono (by decide) (by decide)⟩
        · show Steps pP.tables e below (T150.setTop (mkF m 102 #[.val (.int p0), .val (.long q1), .second, .val (.long q2), .second, .val (.long q3), .second, .val (.ref b101), .val (.ref b107), .val (.ref b117), .val (.ref b132), .val (.ref b107)] [(.int (1 : Int32))])) _
          exact retN X150 hx (t := .boolean) Bd.returns (by simp) (hb hby at_102) hrE
        · show Q_law n0 _ T150.heap _
          rw [eq150]
          exact ⟨rfl, N150⟩
        · show CHr Z consts_1 s.vm s.heap T150.vm T150.heap
          first | (rw [hh, eq150]; exact CHe) | (rw [hh]; exact CHe)
      · skip
        have f153 := (Nat.le_trans (Nat.le_trans f104 K105.1) E107.1)
        have f154 := (((X00.keep K101 all0).keep K105 (allS (Nat.le_trans Z0 lb101) all0)).ext E107)
        obtain ⟨_, _, ⟨T155, L155, k155, n155⟩, -, X155, ⟨Lc155, hQ155, l155, y155, z155⟩, st155⟩ := X107.specialBack hx (y := y_1) rfl hown (mvT hZ (W 14 rfl)) (mvT hZ (W 15 rfl)) (mvT hZ (W 16 rfl)) (by decide) (StrChars.Road.backV (W := 1) hZ hws (kI := 4) (W 12 rfl) (cs := (own_txt q1 q2 q3 n101a)) (bs := ((own_txt q1 q2 q3 n101a)).map (fun c => c.toInt8.toInt32)) (n := n101a) (Nat.le_trans (Nat.le_trans f104 K105.1) (Nat.le_of_eq g107.symm)) f153 A107 F_value_b107 F_coder_b107 f111 (O2.ext f154.2) P5 (own_txt_len _ _ _ _) (by rw [own_txt_len]) (by omega) (by omega) (fun c hc => ⟨(own_txtR _ _ _ _ c hc).1, hL110 c hc⟩) rfl (by decide) (by decide)) (g := (mkF m 26 #[.val (.int p0), .val (.long q1), .second, .val (.long q2), .second, .val (.long q3), .second, .val (.ref b101), .unset, .unset, .unset, .unset] [(.ref b101), (.ref b107), (.ref b107)])) rfl (by rw [hml]; rfl) (Steps.refl _) (a := b107) (argsL := [(.ref b101)]) (rest := [(.ref b107)]) (lenOf pdo_41 rfl) rfl (Nat.le_of_eq rfl) (hb hby at_26) (fun _ _ => ⟨rfl, e107, (by decide : 2 + 1 ≤ _), (by show 49 + n101a ≤ 3904; omega)⟩)
        dsimp only [Pt.U, Pt.locs, Pt.cells, Pt.slots] at X155 l155 y155 z155 st155 hQ155
        subst l155 y155 z155
        replace X155 := X155.more (cells' := 3) (slots' := 51) (Nat.le_refl _) (Nat.add_le_add_left h12.2 _)
        obtain ⟨rfl, Nq155, K155, Ex155, Fc155, t155, kb155, ta155, tb155, tc155, Fv155, Vt155⟩ := hQ155
        have N155 := Fr.app N105 Nq155
        have pq156 : own_go pP e below A0 (T155.setTop (mkF m 29 #[.val (.int p0), .val (.long q1), .second, .val (.long q2), .second, .val (.long q3), .second, .val (.ref b101), .unset, .unset, .unset, .unset] [(.ref b107)])) := by
          intro τ κ
          refine pq109 τ ?_
          refine st155.trans ?_
          exact κ
        have KC155 := KC107.trans K155 (allS (Or.inr (Nat.le_trans (Nat.le_trans (Nat.le_trans (Nat.le_refl _) K101.1) K105.1) (Nat.le_of_eq g107.symm))) all0)
        have CH155 := CHv.keep K155 (sfS Sf107 sf0) CH107
        have CR155 := CHr.trans CR107 (CHr.keep K155 (sfS Sf107 sf0) CH107)
        have SK155 := Nat.le_trans SK107 K155.1
        obtain ⟨T157, h157, k157, X157, e157, E157, A157, st157⟩ := newP X155 hx hZ (W 4 rfl) rfl (g := (mkF m 33 #[.val (.int p0), .val (.long q1), .second, .val (.long q2), .second, .val (.long q3), .second, .val (.ref b101), .val (.ref b107), .unset, .unset, .unset] [(.int (43 : Int32))])) rfl (hb hby at_33) rfl (by decide) (cap := 43) (by decide) (by decide) (by decide) (by decide)
        obtain ⟨b157, g157⟩ : ∃ z, z = T155.heap.size := ⟨_, rfl⟩
        rw [← g157] at A157 st157
        have pq158 : own_go pP e below A0 (T157.setTop (mkF m 35 #[.val (.int p0), .val (.long q1), .second, .val (.long q2), .second, .val (.long q3), .second, .val (.ref b101), .val (.ref b107), .unset, .unset, .unset] [(.ref b157)])) := by
          intro τ κ
          refine pq156 τ ?_
          refine XS.astore X155.here hx rfl (hb hby at_29) rfl rfl (l' := #[.val (.int p0), .val (.long q1), .second, .val (.long q2), .second, .val (.long q3), .second, .val (.ref b101), .val (.ref b107), .unset, .unset, .unset]) rfl ?_
          refine XS.bipush X155.here hx rfl (hb hby at_31) ?_
          refine st157 _ ?_
          exact κ
        have KC157 := KC155.ext E157
        have CH157 := CHv.ext E157 CH155
        have CR157 := CHr.trans CR155 (CHr.ext E157 CH155)
        have SK157 := Nat.le_trans SK155 E157.1
        have V157 : Arv Z h157 b157 k157 .char (43 : Int32) [] (.int (0 : Int32)) := Arv.new A157 (by decide)
        have Sf157 := Safe.ext (x := b157) E157 CH155 (Safe.new (Nat.le_of_eq g157.symm))
        have f159 := (Nat.le_trans (Nat.le_trans f153 K155.1) E157.1)
        obtain ⟨_, _, ⟨T160, L160, k160, n160⟩, -, X160, ⟨Lc160, hQ160, l160, y160, z160⟩, st160⟩ := Jvm.LawKit.callS X157 hx (y := y_4) hown (mvT hZ (W 5 rfl)) (mvT hZ (W 6 rfl)) (mvT hZ (W 2 rfl)) (mvT hZ (W 7 rfl)) (by decide) (backOf (W := 0) (rm_fill l Z a0 hw [] b157 k157 43 40 q1 q2 q3 ([] ++ List.replicate 45 (Value.int 0)) h157 n0 f159 (V157.pad (pad_rep _ _ 45)) (Nat.le_trans (Nat.le_trans f153 K155.1) (Nat.le_of_eq g157.symm)) (by decide) (by simp)) hZ (W 7 rfl) (W 2 rfl) (by decide) (by decide)) (g := (mkF m 45 #[.val (.int p0), .val (.long q1), .second, .val (.long q2), .second, .val (.long q3), .second, .val (.ref b101), .val (.ref b107), .val (.ref b157), .unset, .unset] [(.int (40 : Int32)), (.long q3), (.long q2), (.long q1), (.ref b157)])) rfl (by rw [hml]; rfl) (argsL := [(.ref b157), (.long q1), (.long q2), (.long q3), (.int (40 : Int32))]) (rest := []) (lenOf pdo_40 rfl) rfl (Nat.le_of_eq rfl) (hb hby at_45) (fun _ _ => ⟨rfl, e157, (by decide : 4 + 0 ≤ _), (by decide : 94 + 0 ≤ _)⟩)
        dsimp only [Pt.U, Pt.locs, Pt.cells, Pt.slots] at X160 l160 y160 z160 st160 hQ160
        subst l160 y160 z160
        obtain ⟨rfl, Nq160, K160, V160⟩ := hQ160
        have N160 := Fr.app N155 Nq160
        have pq161 : own_go pP e below A0 (T160.setTop (mkF m 48 #[.val (.int p0), .val (.long q1), .second, .val (.long q2), .second, .val (.long q3), .second, .val (.ref b101), .val (.ref b107), .val (.ref b157), .unset, .unset] [])) := by
          intro τ κ
          refine pq158 τ ?_
          refine XS.astore X157.here hx rfl (hb hby at_35) rfl rfl (l' := #[.val (.int p0), .val (.long q1), .second, .val (.long q2), .second, .val (.long q3), .second, .val (.ref b101), .val (.ref b107), .val (.ref b157), .unset, .unset]) rfl ?_
          refine XS.aload X157.here hx rfl (hb hby at_37) rfl rfl ?_
          refine XS.lloadN X157.here hx rfl (hb hby at_39) rfl ?_
          refine XS.lloadN X157.here hx rfl (hb hby at_40) rfl ?_
          refine XS.lload X157.here hx rfl (hb hby at_41) rfl ?_
          refine XS.bipush X157.here hx rfl (hb hby at_43) ?_
          refine st160 _ ?_
          exact κ
        have KC160 := KC157.trans K160 (allS (Or.inr (Nat.le_trans (Nat.le_trans (Nat.le_trans (Nat.le_trans (Nat.le_trans (Nat.le_refl _) K101.1) K105.1) E107.1) K155.1) (Nat.le_of_eq g157.symm))) all0)
        have CH160 := CHv.keep K160 (sfS Sf157 sf0) CH157
        have CR160 := CHr.trans CR157 (CHr.keep K160 (sfS Sf157 sf0) CH157)
        have SK160 := Nat.le_trans SK157 K160.1
        have f163 := (Safe.keep K160 (sfS Sf157 sf0) CH157 Sf157)
        obtain ⟨cl162, Ar162, q162, S162, M162, Hs162, G162⟩ := id V160
        obtain ⟨T162, h162, X162, e162, W162, st162⟩ := stC X160 hx hZ rfl Ar162 (j := (40 : Int32)) (inb_of S162 ⟨by decide, by decide⟩) (g := (mkF m 54 #[.val (.int p0), .val (.long q1), .second, .val (.long q2), .second, .val (.long q3), .second, .val (.ref b101), .val (.ref b107), .val (.ref b157), .unset, .unset] [(.int (46 : Int32)), (.int (40 : Int32)), (.ref b157)])) rfl rfl (hb hby at_54)
        have pq164 : own_go pP e below A0 (T162.setTop (mkF m 55 #[.val (.int p0), .val (.long q1), .second, .val (.long q2), .second, .val (.long q3), .second, .val (.ref b101), .val (.ref b107), .val (.ref b157), .unset, .unset] [])) := by
          intro τ κ
          refine pq161 τ ?_
          refine XS.aload X160.here hx rfl (hb hby at_48) rfl rfl ?_
          refine XS.bipush X160.here hx rfl (hb hby at_50) ?_
          refine XS.bipush X160.here hx rfl (hb hby at_52) ?_
          refine st162 _ ?_
          exact κ
        have KC162 := KC160.wr W162 (Or.inr (Nat.le_trans (Nat.le_trans (Nat.le_trans (Nat.le_trans (Nat.le_trans (Nat.le_refl _) K101.1) K105.1) E107.1) K155.1) (Nat.le_of_eq g157.symm)))
        have CH162 := CHv.wr W162 f163 CH160
        have CR162 := CHr.trans CR160 (CHr.wr W162 f163 CH160)
        have SK162 := Nat.le_trans SK160 (Keep.of_wr W162).1
        have V162 : Arv Z h162 b157 k157 .char (43 : Int32) ((own_fill q1 q2 q3 43 40 45 ([] ++ List.replicate 45 (Value.int 0))).set 40 (.int (nar .char (46 : Int32)))) (.int (0 : Int32)) := Arv.set Ar162 q162 S162 M162 Hs162 G162 (fits_nar_char _) W162 40 (by decide) (by simp only [List.length_set, own_fill_len]; simp)
        have N162 := Fr.snoc X162 N160 (Nat.le_trans (Nat.le_trans f153 K155.1) (Nat.le_of_eq g157.symm))
        have f166 := (Safe.wr W162 f163 CH160 f163)
        obtain ⟨cl165, Ar165, q165, S165, M165, Hs165, G165⟩ := id V162
        obtain ⟨T165, h165, X165, e165, W165, st165⟩ := stC X162 hx hZ e162 Ar165 (j := (41 : Int32)) (inb_of S165 ⟨by decide, by decide⟩) (g := (mkF m 61 #[.val (.int p0), .val (.long q1), .second, .val (.long q2), .second, .val (.long q3), .second, .val (.ref b101), .val (.ref b107), .val (.ref b157), .unset, .unset] [(.int (46 : Int32)), (.int (41 : Int32)), (.ref b157)])) rfl rfl (hb hby at_61)
        have pq167 : own_go pP e below A0 (T165.setTop (mkF m 62 #[.val (.int p0), .val (.long q1), .second, .val (.long q2), .second, .val (.long q3), .second, .val (.ref b101), .val (.ref b107), .val (.ref b157), .unset, .unset] [])) := by
          intro τ κ
          refine pq164 τ ?_
          refine XS.aload X162.here hx rfl (hb hby at_55) rfl rfl ?_
          refine XS.bipush X162.here hx rfl (hb hby at_57) ?_
          refine XS.bipush X162.here hx rfl (hb hby at_59) ?_
          refine st165 _ ?_
          exact κ
        have KC165 := KC162.wr W165 (Or.inr (Nat.le_trans (Nat.le_trans (Nat.le_trans (Nat.le_trans (Nat.le_trans (Nat.le_refl _) K101.1) K105.1) E107.1) K155.1) (Nat.le_of_eq g157.symm)))
        have CH165 := CHv.wr W165 f166 CH162
        have CR165 := CHr.trans CR162 (CHr.wr W165 f166 CH162)
        have SK165 := Nat.le_trans SK162 (Keep.of_wr W165).1
        have V165 : Arv Z h165 b157 k157 .char (43 : Int32) (((own_fill q1 q2 q3 43 40 45 ([] ++ List.replicate 45 (Value.int 0))).set 40 (.int (nar .char (46 : Int32)))).set 41 (.int (nar .char (46 : Int32)))) (.int (0 : Int32)) := Arv.set Ar165 q165 S165 M165 Hs165 G165 (fits_nar_char _) W165 41 (by decide) (by simp only [List.length_set, own_fill_len]; simp)
        have N165 := Fr.snoc X165 N162 (Nat.le_trans (Nat.le_trans f153 K155.1) (Nat.le_of_eq g157.symm))
        have f169 := (Safe.wr W165 f166 CH162 f166)
        obtain ⟨cl168, Ar168, q168, S168, M168, Hs168, G168⟩ := id V165
        obtain ⟨T168, h168, X168, e168, W168, st168⟩ := stC X165 hx hZ e165 Ar168 (j := (42 : Int32)) (inb_of S168 ⟨by decide, by decide⟩) (g := (mkF m 68 #[.val (.int p0), .val (.long q1), .second, .val (.long q2), .second, .val (.long q3), .second, .val (.ref b101), .val (.ref b107), .val (.ref b157), .unset, .unset] [(.int (46 : Int32)), (.int (42 : Int32)), (.ref b157)])) rfl rfl (hb hby at_68)
        have pq170 : own_go pP e below A0 (T168.setTop (mkF m 69 #[.val (.int p0), .val (.long q1), .second, .val (.long q2), .second, .val (.long q3), .second, .val (.ref b101), .val (.ref b107), .val (.ref b157), .unset, .unset] [])) := by
          intro τ κ
          refine pq167 τ ?_
          refine XS.aload X165.here hx rfl (hb hby at_62) rfl rfl ?_
          refine XS.bipush X165.here hx rfl (hb hby at_64) ?_
          refine XS.bipush X165.here hx rfl (hb hby at_66) ?_
          refine st168 _ ?_
          exact κ
        have KC168 := KC165.wr W168 (Or.inr (Nat.le_trans (Nat.le_trans (Nat.le_trans (Nat.le_trans (Nat.le_trans (Nat.le_refl _) K101.1) K105.1) E107.1) K155.1) (Nat.le_of_eq g157.symm)))
        have CH168 := CHv.wr W168 f169 CH165
        have CR168 := CHr.trans CR165 (CHr.wr W168 f169 CH165)
        have SK168 := Nat.le_trans SK165 (Keep.of_wr W168).1
        have V168 : Arv Z h168 b157 k157 .char (43 : Int32) ((((own_fill q1 q2 q3 43 40 45 ([] ++ List.replicate 45 (Value.int 0))).set 40 (.int (nar .char (46 : Int32)))).set 41 (.int (nar .char (46 : Int32)))).set 42 (.int (nar .char (46 : Int32)))) (.int (0 : Int32)) := Arv.set Ar168 q168 S168 M168 Hs168 G168 (fits_nar_char _) W168 42 (by decide) (by simp only [List.length_set, own_fill_len]; simp)
        have N168 := Fr.snoc X168 N165 (Nat.le_trans (Nat.le_trans f153 K155.1) (Nat.le_of_eq g157.symm))
        have Ve171 := own_ecs V168
        obtain ⟨T172, h172, X172, e172, E172, A172, D172, -, st172⟩ := newO X168 hx hZ hown (W 11 rfl) (W 12 rfl) (W 13 rfl) e168 (g := (mkF m 69 #[.val (.int p0), .val (.long q1), .second, .val (.long q2), .second, .val (.long q3), .second, .val (.ref b101), .val (.ref b107), .val (.ref b157), .unset, .unset] [])) rfl (hb hby at_69) (by decide) (by decide)
        obtain ⟨b172, g172⟩ : ∃ z, z = h168.size := ⟨_, rfl⟩
        rw [← g172] at A172 D172 st172
        have pq173 : own_go pP e below A0 (T172.setTop (mkF m 72 #[.val (.int p0), .val (.long q1), .second, .val (.long q2), .second, .val (.long q3), .second, .val (.ref b101), .val (.ref b107), .val (.ref b157), .unset, .unset] [(.ref b172)])) := by
          intro τ κ
          refine pq170 τ ?_
          refine st172 _ ?_
          exact κ
        have KC172 := KC168.ext E172
        have CH172 := CHv.ext E172 CH168
        have CR172 := CHr.trans CR168 (CHr.ext E172 CH168)
        have SK172 := Nat.le_trans SK168 E172.1
        have Sf172 := Safe.ext (x := b172) E172 CH168 (Safe.new (Nat.le_of_eq g172.symm))
        have F_value_b172 : Fld Z h172 b172 "java/lang/String" "value" "[B" .null := D172 (Or.inr (W 26 rfl)) (ty := (.array .byte)) (by decide)
        have F_coder_b172 : Fld Z h172 b172 "java/lang/String" "coder" "B" (.int (0 : Int32)) := D172 (Or.inr (W 27 rfl)) (ty := .byte) (by decide)
        have f174 := (((((((f154.keep K155 (allS (Nat.le_trans (Nat.le_trans f104 K105.1) (Nat.le_of_eq g107.symm)) all0)).ext E157).keep K160 (allS (Nat.le_trans (Nat.le_trans f153 K155.1) (Nat.le_of_eq g157.symm)) all0)).wr W162 (Nat.le_trans (Nat.le_trans f153 K155.1) (Nat.le_of_eq g157.symm))).wr W165 (Nat.le_trans (Nat.le_trans f153 K155.1) (Nat.le_of_eq g157.symm))).wr W168 (Nat.le_trans (Nat.le_trans f153 K155.1) (Nat.le_of_eq g157.symm))).ext E172)
        have f175 := (Ve171.ext E172)
        have f176 := (Nat.le_trans (Nat.le_trans (Nat.le_trans (Nat.le_trans (Nat.le_trans f159 K160.1) (Keep.of_wr W162).1) (Keep.of_wr W165).1) (Keep.of_wr W168).1) E172.1)
        obtain ⟨_, _, ⟨T177, L177, k177, n177⟩, -, X177, ⟨Lc177, hQ177, l177, y177, z177⟩, st177⟩ := X172.specialBack hx (y := y_1) rfl hown (mvT hZ (W 14 rfl)) (mvT hZ (W 15 rfl)) (mvT hZ (W 16 rfl)) (by decide) (backOf (W := 1) (rm_i1 l Z a0 hw [] b172 b157 k157 (own_txt q1 q2 q3 40 ++ ([(46 : Int32), (46 : Int32), (46 : Int32)] : List Int32)) G1 h172 n0 f176 O2 P5 f174 OA OH OL A172 (Nat.le_trans (Nat.le_trans (Nat.le_trans (Nat.le_trans (Nat.le_trans f159 K160.1) (Keep.of_wr W162).1) (Keep.of_wr W165).1) (Keep.of_wr W168).1) (Nat.le_of_eq g172.symm)) F_value_b172 F_coder_b172 f175 (own_badtxt (m := 40) (by decide) fun x hx => List.mem_append_left _ hx) (own_hpd (own_txtR _ _ _ _)) (by rw [List.length_append, own_txt_len]; decide) (by rw [List.length_append, own_txt_len]; decide)) hZ (W 16 rfl) (W 13 rfl) (by decide) (by decide)) (g := (mkF m 75 #[.val (.int p0), .val (.long q1), .second, .val (.long q2), .second, .val (.long q3), .second, .val (.ref b101), .val (.ref b107), .val (.ref b157), .unset, .unset] [(.ref b157), (.ref b172), (.ref b172)])) rfl (by rw [hml]; rfl) (Steps.refl _) (a := b172) (argsL := [(.ref b157)]) (rest := [(.ref b172)]) (lenOf pdo_41 rfl) rfl (Nat.le_of_eq rfl) (hb hby at_75) (fun _ _ => ⟨rfl, e172, (by decide : 5 + 2 ≤ _), (by decide : 98 + 245 ≤ _)⟩)
        dsimp only [Pt.U, Pt.locs, Pt.cells, Pt.slots] at X177 l177 y177 z177 st177 hQ177
        subst l177 y177 z177
        obtain ⟨rfl, Nq177, K177, U177⟩ := hQ177
        have N177 := Fr.app N168 Nq177
        have pq178 : own_go pP e below A0 (T177.setTop (mkF m 78 #[.val (.int p0), .val (.long q1), .second, .val (.long q2), .second, .val (.long q3), .second, .val (.ref b101), .val (.ref b107), .val (.ref b157), .unset, .unset] [(.ref b172)])) := by
          intro τ κ
          refine pq173 τ ?_
          refine XS.dup X172.here hx rfl (hb hby at_72) rfl rfl ?_
          refine XS.aload X172.here hx rfl (hb hby at_73) rfl rfl ?_
          refine st177.trans ?_
          exact κ
        have KC177 := KC172.trans K177 (allS (Or.inr (Nat.le_trans (Nat.le_trans (Nat.le_trans (Nat.le_trans (Nat.le_trans (Nat.le_trans (Nat.le_trans (Nat.le_trans (Nat.le_trans (Nat.le_trans (Nat.le_refl _) K101.1) K105.1) E107.1) K155.1) E157.1) K160.1) (Keep.of_wr W162).1) (Keep.of_wr W165).1) (Keep.of_wr W168).1) (Nat.le_of_eq g172.symm))) all0)
        have CH177 := CHv.keep K177 (sfS Sf172 sf0) CH172
        have CR177 := CHr.trans CR172 (CHr.keep K177 (sfS Sf172 sf0) CH172)
        have SK177 := Nat.le_trans SK172 K177.1
        obtain ⟨tx179, kx179, Ea179, Fva179, Fca179, vx179, Va179, hua179, hpa179⟩ := U177
        have f180 := (((((((Vt155.ext E157).keep K160 (ninS (Nat.ne_of_lt (Nat.lt_of_lt_of_le Vt155.lt (Nat.le_of_eq g157.symm))) nin0)).other W162 (Nat.ne_of_lt (Nat.lt_of_lt_of_le Vt155.lt (Nat.le_of_eq g157.symm)))).other W165 (Nat.ne_of_lt (Nat.lt_of_lt_of_le Vt155.lt (Nat.le_of_eq g157.symm)))).other W168 (Nat.ne_of_lt (Nat.lt_of_lt_of_le Vt155.lt (Nat.le_of_eq g157.symm)))).ext E172).keep K177 (ninS (Nat.ne_of_lt (Nat.lt_of_lt_of_le (((((Vt155.ext E157).keep K160 (ninS (Nat.ne_of_lt (Nat.lt_of_lt_of_le Vt155.lt (Nat.le_of_eq g157.symm))) nin0)).other W162 (Nat.ne_of_lt (Nat.lt_of_lt_of_le Vt155.lt (Nat.le_of_eq g157.symm)))).other W165 (Nat.ne_of_lt (Nat.lt_of_lt_of_le Vt155.lt (Nat.le_of_eq g157.symm)))).other W168 (Nat.ne_of_lt (Nat.lt_of_lt_of_le Vt155.lt (Nat.le_of_eq g157.symm)))).lt (Nat.le_of_eq g172.symm))) nin0))
        have f181 := (((((((Ex155.ext E157).keep K160).wr W162).wr W165).wr W168).ext E172).keep K177)
        have f182 := (((((((Fv155.ext E157).keep K160 (ninS (Nat.ne_of_lt (Nat.lt_of_lt_of_le Ex155.lt (Nat.le_of_eq g157.symm))) nin0)).other W162 (Or.inl (Nat.ne_of_lt (Nat.lt_of_lt_of_le Ex155.lt (Nat.le_of_eq g157.symm))))).other W165 (Or.inl (Nat.ne_of_lt (Nat.lt_of_lt_of_le Ex155.lt (Nat.le_of_eq g157.symm))))).other W168 (Or.inl (Nat.ne_of_lt (Nat.lt_of_lt_of_le Ex155.lt (Nat.le_of_eq g157.symm))))).ext E172).keep K177 (ninS (Nat.ne_of_lt (Nat.lt_of_lt_of_le (((((Ex155.ext E157).keep K160).wr W162).wr W165).wr W168).lt (Nat.le_of_eq g172.symm))) nin0))
        have f183 := (((((((Fc155.ext E157).keep K160 (ninS (Nat.ne_of_lt (Nat.lt_of_lt_of_le Ex155.lt (Nat.le_of_eq g157.symm))) nin0)).other W162 (Or.inl (Nat.ne_of_lt (Nat.lt_of_lt_of_le Ex155.lt (Nat.le_of_eq g157.symm))))).other W165 (Or.inl (Nat.ne_of_lt (Nat.lt_of_lt_of_le Ex155.lt (Nat.le_of_eq g157.symm))))).other W168 (Or.inl (Nat.ne_of_lt (Nat.lt_of_lt_of_le Ex155.lt (Nat.le_of_eq g157.symm))))).ext E172).keep K177 (ninS (Nat.ne_of_lt (Nat.lt_of_lt_of_le (((((Ex155.ext E157).keep K160).wr W162).wr W165).wr W168).lt (Nat.le_of_eq g172.symm))) nin0))
        have f184 := (f174.keep K177 (allS (Nat.le_trans (Nat.le_trans (Nat.le_trans (Nat.le_trans (Nat.le_trans f159 K160.1) (Keep.of_wr W162).1) (Keep.of_wr W165).1) (Keep.of_wr W168).1) (Nat.le_of_eq g172.symm)) all0))
        have f185 := (Nat.le_trans f176 K177.1)
        obtain ⟨_, _, ⟨T186, L186, k186, n186⟩, -, X186, ⟨Lc186, hQ186, l186, y186, z186⟩, st186⟩ := Jvm.LawKit.callS X177 hx (y := y_17) hown (mvT hZ (W 66 rfl)) (mvT hZ (W 67 rfl)) (mvT hZ (W 68 rfl)) (mvT hZ (W 69 rfl)) (by decide) (backOf (W := 0) (rm_abS l Z a0 hw [] b107 (own_txt q1 q2 q3 n101a) G1 T177.heap n0 f185 O2 P5 f184 (by rw [own_txt_len]; exact hS103) (⟨t155, _, f181, f182, Or.inl ⟨f183, f180, (fun c hc => ⟨(own_txtR _ _ _ _ c hc).1, hL110 c hc⟩)⟩⟩ : UStr Z T177.heap b107 (own_txt q1 q2 q3 n101a))) hZ (W 69 rfl) (W 68 rfl) (by decide) (by decide)) (g := (mkF m 82 #[.val (.int p0), .val (.long q1), .second, .val (.long q2), .second, .val (.long q3), .second, .val (.ref b101), .val (.ref b107), .val (.ref b157), .val (.ref b172), .unset] [(.ref b107)])) rfl (by rw [hml]; rfl) (argsL := [(.ref b107)]) (rest := []) (lenOf pdo_42 rfl) rfl (Nat.le_of_eq rfl) (hb hby at_82) (fun _ _ => ⟨rfl, rfl, (by decide : 7 + 0 ≤ _), (by decide : 343 + 0 ≤ _)⟩)
        dsimp only [Pt.U, Pt.locs, Pt.cells, Pt.slots] at X186 l186 y186 z186 st186 hQ186
        subst l186 y186 z186
        obtain ⟨rfl, Nq186, eq186⟩ := hQ186
        have N186 := Fr.app N177 Nq186
        have pq187 : own_go pP e below A0 (T186.setTop (mkF m 85 #[.val (.int p0), .val (.long q1), .second, .val (.long q2), .second, .val (.long q3), .second, .val (.ref b101), .val (.ref b107), .val (.ref b157), .val (.ref b172), .unset] [(.ref b107)])) := by
          intro τ κ
          refine pq178 τ ?_
          refine XS.astore X177.here hx rfl (hb hby at_78) rfl rfl (l' := #[.val (.int p0), .val (.long q1), .second, .val (.long q2), .second, .val (.long q3), .second, .val (.ref b101), .val (.ref b107), .val (.ref b157), .val (.ref b172), .unset]) rfl ?_
          refine XS.aload X177.here hx rfl (hb hby at_80) rfl rfl ?_
          refine st186 _ ?_
          exact κ
        have f188 := ((((((((f111.keep K155 (ninS (Nat.ne_of_lt (Nat.lt_of_lt_of_le Vt105.lt (Nat.le_of_eq g107.symm))) nin0)).ext E157).keep K160 (ninS (Nat.ne_of_lt (Nat.lt_of_lt_of_le (f111.keep K155 (ninS (Nat.ne_of_lt (Nat.lt_of_lt_of_le Vt105.lt (Nat.le_of_eq g107.symm))) nin0)).lt (Nat.le_of_eq g157.symm))) nin0)).other W162 (Nat.ne_of_lt (Nat.lt_of_lt_of_le (f111.keep K155 (ninS (Nat.ne_of_lt (Nat.lt_of_lt_of_le Vt105.lt (Nat.le_of_eq g107.symm))) nin0)).lt (Nat.le_of_eq g157.symm)))).other W165 (Nat.ne_of_lt (Nat.lt_of_lt_of_le (f111.keep K155 (ninS (Nat.ne_of_lt (Nat.lt_of_lt_of_le Vt105.lt (Nat.le_of_eq g107.symm))) nin0)).lt (Nat.le_of_eq g157.symm)))).other W168 (Nat.ne_of_lt (Nat.lt_of_lt_of_le (f111.keep K155 (ninS (Nat.ne_of_lt (Nat.lt_of_lt_of_le Vt105.lt (Nat.le_of_eq g107.symm))) nin0)).lt (Nat.le_of_eq g157.symm)))).ext E172).keep K177 (ninS (Nat.ne_of_lt (Nat.lt_of_lt_of_le ((((((f111.keep K155 (ninS (Nat.ne_of_lt (Nat.lt_of_lt_of_le Vt105.lt (Nat.le_of_eq g107.symm))) nin0)).ext E157).keep K160 (ninS (Nat.ne_of_lt (Nat.lt_of_lt_of_le (f111.keep K155 (ninS (Nat.ne_of_lt (Nat.lt_of_lt_of_le Vt105.lt (Nat.le_of_eq g107.symm))) nin0)).lt (Nat.le_of_eq g157.symm))) nin0)).other W162 (Nat.ne_of_lt (Nat.lt_of_lt_of_le (f111.keep K155 (ninS (Nat.ne_of_lt (Nat.lt_of_lt_of_le Vt105.lt (Nat.le_of_eq g107.symm))) nin0)).lt (Nat.le_of_eq g157.symm)))).other W165 (Nat.ne_of_lt (Nat.lt_of_lt_of_le (f111.keep K155 (ninS (Nat.ne_of_lt (Nat.lt_of_lt_of_le Vt105.lt (Nat.le_of_eq g107.symm))) nin0)).lt (Nat.le_of_eq g157.symm)))).other W168 (Nat.ne_of_lt (Nat.lt_of_lt_of_le (f111.keep K155 (ninS (Nat.ne_of_lt (Nat.lt_of_lt_of_le Vt105.lt (Nat.le_of_eq g107.symm))) nin0)).lt (Nat.le_of_eq g157.symm)))).lt (Nat.le_of_eq g172.symm))) nin0))
        obtain ⟨cl189, Ar189, q189, S189, M189, Hs189, G189⟩ := id f188
        obtain ⟨cq191, kq191, q191a, q191b, q191c⟩ := isOf hZ eq186 f181
        obtain ⟨_, _, ⟨T190, L190, k190, n190⟩, -, X190, ⟨Lc190, hQ190, l190, y190, z190⟩, st190⟩ := X186.virtualBack hx (y := y_56) (z := y_56) hown (mvT hZ (W 80 rfl)) (mvT hZ (W 81 rfl)) (notFace_of_selects (args := #[]) (mvT hZ (W 83 rfl))) (mvT hZ (W 83 rfl)) (mvT hZ (W 82 rfl)) (by decide) (backOf (W := 0) (rm_eqs l Z a0 hw [] b107 T177.heap n0 f185 ) hZ (W 84 rfl) (W 13 rfl) (by decide) (by decide)) q191a q191c (g := (mkF m 99 #[.val (.int p0), .val (.long q1), .second, .val (.long q2), .second, .val (.long q3), .second, .val (.ref b101), .val (.ref b107), .val (.ref b157), .val (.ref b172), .val (.ref b107)] [(.ref b107), (.ref b107)])) rfl (by rw [hml]; rfl) (Steps.refl _) (argsL := [(.ref b107)]) (rest := []) (lenOf pdo_43 rfl) rfl (Nat.le_of_eq rfl) (hb hby at_99) (fun _ _ => ⟨rfl, eq186, (by decide : 7 + 0 ≤ _), (by decide : 343 + 0 ≤ _)⟩)
        dsimp only [Pt.U, Pt.locs, Pt.cells, Pt.slots] at X190 l190 y190 z190 st190 hQ190
        subst l190 y190 z190
        obtain ⟨rfl, Nq190, eq190⟩ := hQ190
        have N190 := Fr.app N186 Nq190
        have pq192 : own_go pP e below A0 (T190.setTop (mkF m 102 #[.val (.int p0), .val (.long q1), .second, .val (.long q2), .second, .val (.long q3), .second, .val (.ref b101), .val (.ref b107), .val (.ref b157), .val (.ref b172), .val (.ref b107)] [(.int (1 : Int32))])) := by
          intro τ κ
          refine pq187 τ ?_
          refine XS.astore X186.here hx rfl (hb hby at_85) rfl rfl (l' := #[.val (.int p0), .val (.long q1), .second, .val (.long q2), .second, .val (.long q3), .second, .val (.ref b101), .val (.ref b107), .val (.ref b157), .val (.ref b172), .val (.ref b107)]) rfl ?_
          refine XS.aload X186.here hx rfl (hb hby at_87) rfl rfl ?_
          refine X186.arraylength hx (by rw [eq186]; exact Ar189.1) (State.isArrayOf_alike hZ.alike Ar189.2.1) (g := (mkF m 89 #[.val (.int p0), .val (.long q1), .second, .val (.long q2), .second, .val (.long q3), .second, .val (.ref b101), .val (.ref b107), .val (.ref b157), .val (.ref b172), .val (.ref b107)] [(.ref b101)])) rfl rfl (hb hby at_89) _ ?_
          rw [len_of S189 M189]
          refine XS.bipush X186.here hx rfl (hb hby at_90) ?_
          refine XS.icmpNo X186.here hx rfl (hb hby at_92) rfl (flt (own_le40 (by rw [own_txt_len]; exact hS103))).2.2.1 ?_
          refine XS.aload X186.here hx rfl (hb hby at_95) rfl rfl ?_
          refine XS.aload X186.here hx rfl (hb hby at_97) rfl rfl ?_
          refine st190.trans ?_
          exact κ
        have SKe := Nat.le_trans SK177 (Nat.le_of_eq (congrArg (fun z : Heap => Array.size z) (Eq.symm eq190)))
        obtain ⟨fs, hrE, hrun, hended, hEnd⟩ := X190.leaveW SI0 SKe (v := some (.int (1 : Int32))) (fun h => by rw [Bd.returns] at h; cases h)
        have CHe := CHr.trans CR177 (CHv.at X190 hZ hEW CH177)
        have pqE := pq192
        rw [hA0] at pqE
        refine ⟨_, _, pqE _ ?_, hrun, hended, _, _, rfl, ?_, ?_, hEnd.1, hEnd.2.1, hEnd.2.2.1, hEnd.2.2.2.mono (by decide) (by decide)⟩
        · show Steps pP.tables e below (T190.setTop (mkF m 102 #[.val (.int p0), .val (.long q1), .second, .val (.long q2), .second, .val (.long q3), .second, .val (.ref b101), .val (.ref b107), .val (.ref b157), .val (.ref b172), .val (.ref b107)] [(.int (1 : Int32))])) _
          exact retN X190 hx (t := .boolean) Bd.returns (by simp) (hb hby at_102) hrE
        · show Q_law n0 _ T190.heap _
          rw [eq190]
          exact ⟨rfl, N190⟩
        · show CHr Z consts_1 s.vm s.heap T190.vm T190.heap
          first | (rw [hh, eq190]; exact CHe) | (rw [hh]; exact CHe)
    · skip
      have f193 := (((X00.keep K101 all0).keep K105 (allS (Nat.le_trans Z0 lb101) all0)).ext E107)
      have f194 := (Nat.le_trans (Nat.le_trans f104 K105.1) E107.1)
      obtain ⟨_, _, ⟨T195, L195, k195, n195⟩, -, X195, ⟨Lc195, hQ195, l195, y195, z195⟩, st195⟩ := X107.specialBack hx (y := y_1) rfl hown (mvT hZ (W 14 rfl)) (mvT hZ (W 15 rfl)) (mvT hZ (W 16 rfl)) (by decide) (backOf (W := 1) (rm_i1 l Z a0 hw [] b107 b101 k101a (own_txt q1 q2 q3 n101a) G1 h107 n0 f194 O2 P5 f193 OA OH OL A107 (Nat.le_trans (Nat.le_trans f104 K105.1) (Nat.le_of_eq g107.symm)) F_value_b107 F_coder_b107 f111 hL110 (own_txtR _ _ _ _) (by rw [own_txt_len]; exact hn101.1) (by rw [own_txt_len]; rcases Nat.eq_zero_or_pos n101a with r | r; exact absurd (by rw [r]; simp [own_txt]) hL110; exact r)) hZ (W 16 rfl) (W 13 rfl) (by decide) (by decide)) (g := (mkF m 26 #[.val (.int p0), .val (.long q1), .second, .val (.long q2), .second, .val (.long q3), .second, .val (.ref b101), .unset, .unset, .unset, .unset] [(.ref b101), (.ref b107), (.ref b107)])) rfl (by rw [hml]; rfl) (Steps.refl _) (a := b107) (argsL := [(.ref b101)]) (rest := [(.ref b107)]) (lenOf pdo_41 rfl) rfl (Nat.le_of_eq rfl) (hb hby at_26) (fun _ _ => ⟨rfl, e107, (by decide : 2 + 2 ≤ _), (by decide : 49 + 245 ≤ _)⟩)
      dsimp only [Pt.U, Pt.locs, Pt.cells, Pt.slots] at X195 l195 y195 z195 st195 hQ195
      subst l195 y195 z195
      obtain ⟨rfl, Nq195, K195, U195⟩ := hQ195
      have N195 := Fr.app N105 Nq195
      have pq196 : own_go pP e below A0 (T195.setTop (mkF m 29 #[.val (.int p0), .val (.long q1), .second, .val (.long q2), .second, .val (.long q3), .second, .val (.ref b101), .unset, .unset, .unset, .unset] [(.ref b107)])) := by
        intro τ κ
        refine pq109 τ ?_
        refine st195.trans ?_
        exact κ
      have KC195 := KC107.trans K195 (allS (Or.inr (Nat.le_trans (Nat.le_trans (Nat.le_trans (Nat.le_refl _) K101.1) K105.1) (Nat.le_of_eq g107.symm))) all0)
      have CH195 := CHv.keep K195 (sfS Sf107 sf0) CH107
      have CR195 := CHr.trans CR107 (CHr.keep K195 (sfS Sf107 sf0) CH107)
      have SK195 := Nat.le_trans SK107 K195.1
      obtain ⟨tx197, kx197, Ea197, Fva197, Fca197, vx197, Va197, hua197, hpa197⟩ := U195
      obtain ⟨T198, h198, k198, X198, e198, E198, A198, st198⟩ := newP X195 hx hZ (W 4 rfl) rfl (g := (mkF m 33 #[.val (.int p0), .val (.long q1), .second, .val (.long q2), .second, .val (.long q3), .second, .val (.ref b101), .val (.ref b107), .unset, .unset, .unset] [(.int (43 : Int32))])) rfl (hb hby at_33) rfl (by decide) (cap := 43) (by decide) (by decide) (by decide) (by decide)
      obtain ⟨b198, g198⟩ : ∃ z, z = T195.heap.size := ⟨_, rfl⟩
      rw [← g198] at A198 st198
      have pq199 : own_go pP e below A0 (T198.setTop (mkF m 35 #[.val (.int p0), .val (.long q1), .second, .val (.long q2), .second, .val (.long q3), .second, .val (.ref b101), .val (.ref b107), .unset, .unset, .unset] [(.ref b198)])) := by
        intro τ κ
        refine pq196 τ ?_
        refine XS.astore X195.here hx rfl (hb hby at_29) rfl rfl (l' := #[.val (.int p0), .val (.long q1), .second, .val (.long q2), .second, .val (.long q3), .second, .val (.ref b101), .val (.ref b107), .unset, .unset, .unset]) rfl ?_
        refine XS.bipush X195.here hx rfl (hb hby at_31) ?_
        refine st198 _ ?_
        exact κ
      have KC198 := KC195.ext E198
      have CH198 := CHv.ext E198 CH195
      have CR198 := CHr.trans CR195 (CHr.ext E198 CH195)
      have SK198 := Nat.le_trans SK195 E198.1
      have V198 : Arv Z h198 b198 k198 .char (43 : Int32) [] (.int (0 : Int32)) := Arv.new A198 (by decide)
      have Sf198 := Safe.ext (x := b198) E198 CH195 (Safe.new (Nat.le_of_eq g198.symm))
      have f200 := (Nat.le_trans (Nat.le_trans f194 K195.1) E198.1)
      obtain ⟨_, _, ⟨T201, L201, k201, n201⟩, -, X201, ⟨Lc201, hQ201, l201, y201, z201⟩, st201⟩ := Jvm.LawKit.callS X198 hx (y := y_4) hown (mvT hZ (W 5 rfl)) (mvT hZ (W 6 rfl)) (mvT hZ (W 2 rfl)) (mvT hZ (W 7 rfl)) (by decide) (backOf (W := 0) (rm_fill l Z a0 hw [] b198 k198 43 40 q1 q2 q3 ([] ++ List.replicate 45 (Value.int 0)) h198 n0 f200 (V198.pad (pad_rep _ _ 45)) (Nat.le_trans (Nat.le_trans f194 K195.1) (Nat.le_of_eq g198.symm)) (by decide) (by simp)) hZ (W 7 rfl) (W 2 rfl) (by decide) (by decide)) (g := (mkF m 45 #[.val (.int p0), .val (.long q1), .second, .val (.long q2), .second, .val (.long q3), .second, .val (.ref b101), .val (.ref b107), .val (.ref b198), .unset, .unset] [(.int (40 : Int32)), (.long q3), (.long q2), (.long q1), (.ref b198)])) rfl (by rw [hml]; rfl) (argsL := [(.ref b198), (.long q1), (.long q2), (.long q3), (.int (40 : Int32))]) (rest := []) (lenOf pdo_40 rfl) rfl (Nat.le_of_eq rfl) (hb hby at_45) (fun _ _ => ⟨rfl, e198, (by decide : 5 + 0 ≤ _), (by decide : 337 + 0 ≤ _)⟩)
      dsimp only [Pt.U, Pt.locs, Pt.cells, Pt.slots] at X201 l201 y201 z201 st201 hQ201
      subst l201 y201 z201
      obtain ⟨rfl, Nq201, K201, V201⟩ := hQ201
      have N201 := Fr.app N195 Nq201
      have pq202 : own_go pP e below A0 (T201.setTop (mkF m 48 #[.val (.int p0), .val (.long q1), .second, .val (.long q2), .second, .val (.long q3), .second, .val (.ref b101), .val (.ref b107), .val (.ref b198), .unset, .unset] [])) := by
        intro τ κ
        refine pq199 τ ?_
        refine XS.astore X198.here hx rfl (hb hby at_35) rfl rfl (l' := #[.val (.int p0), .val (.long q1), .second, .val (.long q2), .second, .val (.long q3), .second, .val (.ref b101), .val (.ref b107), .val (.ref b198), .unset, .unset]) rfl ?_
        refine XS.aload X198.here hx rfl (hb hby at_37) rfl rfl ?_
        refine XS.lloadN X198.here hx rfl (hb hby at_39) rfl ?_
        refine XS.lloadN X198.here hx rfl (hb hby at_40) rfl ?_
        refine XS.lload X198.here hx rfl (hb hby at_41) rfl ?_
        refine XS.bipush X198.here hx rfl (hb hby at_43) ?_
        refine st201 _ ?_
        exact κ
      have KC201 := KC198.trans K201 (allS (Or.inr (Nat.le_trans (Nat.le_trans (Nat.le_trans (Nat.le_trans (Nat.le_trans (Nat.le_refl _) K101.1) K105.1) E107.1) K195.1) (Nat.le_of_eq g198.symm))) all0)
      have CH201 := CHv.keep K201 (sfS Sf198 sf0) CH198
      have CR201 := CHr.trans CR198 (CHr.keep K201 (sfS Sf198 sf0) CH198)
      have SK201 := Nat.le_trans SK198 K201.1
      have f204 := (Safe.keep K201 (sfS Sf198 sf0) CH198 Sf198)
      obtain ⟨cl203, Ar203, q203, S203, M203, Hs203, G203⟩ := id V201
      obtain ⟨T203, h203, X203, e203, W203, st203⟩ := stC X201 hx hZ rfl Ar203 (j := (40 : Int32)) (inb_of S203 ⟨by decide, by decide⟩) (g := (mkF m 54 #[.val (.int p0), .val (.long q1), .second, .val (.long q2), .second, .val (.long q3), .second, .val (.ref b101), .val (.ref b107), .val (.ref b198), .unset, .unset] [(.int (46 : Int32)), (.int (40 : Int32)), (.ref b198)])) rfl rfl (hb hby at_54)
      have pq205 : own_go pP e below A0 (T203.setTop (mkF m 55 #[.val (.int p0), .val (.long q1), .second, .val (.long q2), .second, .val (.long q3), .second, .val (.ref b101), .val (.ref b107), .val (.ref b198), .unset, .unset] [])) := by
        intro τ κ
        refine pq202 τ ?_
        refine XS.aload X201.here hx rfl (hb hby at_48) rfl rfl ?_
        refine XS.bipush X201.here hx rfl (hb hby at_50) ?_
        refine XS.bipush X201.here hx rfl (hb hby at_52) ?_
        refine st203 _ ?_
        exact κ
      have KC203 := KC201.wr W203 (Or.inr (Nat.le_trans (Nat.le_trans (Nat.le_trans (Nat.le_trans (Nat.le_trans (Nat.le_refl _) K101.1) K105.1) E107.1) K195.1) (Nat.le_of_eq g198.symm)))
      have CH203 := CHv.wr W203 f204 CH201
      have CR203 := CHr.trans CR201 (CHr.wr W203 f204 CH201)
      have SK203 := Nat.le_trans SK201 (Keep.of_wr W203).1
      have V203 : Arv Z h203 b198 k198 .char (43 : Int32) ((own_fill q1 q2 q3 43 40 45 ([] ++ List.replicate 45 (Value.int 0))).set 40 (.int (nar .char (46 : Int32)))) (.int (0 : Int32)) := Arv.set Ar203 q203 S203 M203 Hs203 G203 (fits_nar_char _) W203 40 (by decide) (by simp only [List.length_set, own_fill_len]; simp)
      have N203 := Fr.snoc X203 N201 (Nat.le_trans (Nat.le_trans f194 K195.1) (Nat.le_of_eq g198.symm))
      have f207 := (Safe.wr W203 f204 CH201 f204)
      obtain ⟨cl206, Ar206, q206, S206, M206, Hs206, G206⟩ := id V203
      obtain ⟨T206, h206, X206, e206, W206, st206⟩ := stC X203 hx hZ e203 Ar206 (j := (41 : Int32)) (inb_of S206 ⟨by decide, by decide⟩) (g := (mkF m 61 #[.val (.int p0), .val (.long q1), .second, .val (.long q2), .second, .val (.long q3), .second, .val (.ref b101), .val (.ref b107), .val (.ref b198), .unset, .unset] [(.int (46 : Int32)), (.int (41 : Int32)), (.ref b198)])) rfl rfl (hb hby at_61)
      have pq208 : own_go pP e below A0 (T206.setTop (mkF m 62 #[.val (.int p0), .val (.long q1), .second, .val (.long q2), .second, .val (.long q3), .second, .val (.ref b101), .val (.ref b107), .val (.ref b198), .unset, .unset] [])) := by
        intro τ κ
        refine pq205 τ ?_
        refine XS.aload X203.here hx rfl (hb hby at_55) rfl rfl ?_
        refine XS.bipush X203.here hx rfl (hb hby at_57) ?_
        refine XS.bipush X203.here hx rfl (hb hby at_59) ?_
        refine st206 _ ?_
        exact κ
      have KC206 := KC203.wr W206 (Or.inr (Nat.le_trans (Nat.le_trans (Nat.le_trans (Nat.le_trans (Nat.le_trans (Nat.le_refl _) K101.1) K105.1) E107.1) K195.1) (Nat.le_of_eq g198.symm)))
      have CH206 := CHv.wr W206 f207 CH203
      have CR206 := CHr.trans CR203 (CHr.wr W206 f207 CH203)
      have SK206 := Nat.le_trans SK203 (Keep.of_wr W206).1
      have V206 : Arv Z h206 b198 k198 .char (43 : Int32) (((own_fill q1 q2 q3 43 40 45 ([] ++ List.replicate 45 (Value.int 0))).set 40 (.int (nar .char (46 : Int32)))).set 41 (.int (nar .char (46 : Int32)))) (.int (0 : Int32)) := Arv.set Ar206 q206 S206 M206 Hs206 G206 (fits_nar_char _) W206 41 (by decide) (by simp only [List.length_set, own_fill_len]; simp)
      have N206 := Fr.snoc X206 N203 (Nat.le_trans (Nat.le_trans f194 K195.1) (Nat.le_of_eq g198.symm))
      have f210 := (Safe.wr W206 f207 CH203 f207)
      obtain ⟨cl209, Ar209, q209, S209, M209, Hs209, G209⟩ := id V206
      obtain ⟨T209, h209, X209, e209, W209, st209⟩ := stC X206 hx hZ e206 Ar209 (j := (42 : Int32)) (inb_of S209 ⟨by decide, by decide⟩) (g := (mkF m 68 #[.val (.int p0), .val (.long q1), .second, .val (.long q2), .second, .val (.long q3), .second, .val (.ref b101), .val (.ref b107), .val (.ref b198), .unset, .unset] [(.int (46 : Int32)), (.int (42 : Int32)), (.ref b198)])) rfl rfl (hb hby at_68)
      have pq211 : own_go pP e below A0 (T209.setTop (mkF m 69 #[.val (.int p0), .val (.long q1), .second, .val (.long q2), .second, .val (.long q3), .second, .val (.ref b101), .val (.ref b107), .val (.ref b198), .unset, .unset] [])) := by
        intro τ κ
        refine pq208 τ ?_
        refine XS.aload X206.here hx rfl (hb hby at_62) rfl rfl ?_
        refine XS.bipush X206.here hx rfl (hb hby at_64) ?_
        refine XS.bipush X206.here hx rfl (hb hby at_66) ?_
        refine st209 _ ?_
        exact κ
      have KC209 := KC206.wr W209 (Or.inr (Nat.le_trans (Nat.le_trans (Nat.le_trans (Nat.le_trans (Nat.le_trans (Nat.le_refl _) K101.1) K105.1) E107.1) K195.1) (Nat.le_of_eq g198.symm)))
      have CH209 := CHv.wr W209 f210 CH206
      have CR209 := CHr.trans CR206 (CHr.wr W209 f210 CH206)
      have SK209 := Nat.le_trans SK206 (Keep.of_wr W209).1
      have V209 : Arv Z h209 b198 k198 .char (43 : Int32) ((((own_fill q1 q2 q3 43 40 45 ([] ++ List.replicate 45 (Value.int 0))).set 40 (.int (nar .char (46 : Int32)))).set 41 (.int (nar .char (46 : Int32)))).set 42 (.int (nar .char (46 : Int32)))) (.int (0 : Int32)) := Arv.set Ar209 q209 S209 M209 Hs209 G209 (fits_nar_char _) W209 42 (by decide) (by simp only [List.length_set, own_fill_len]; simp)
      have N209 := Fr.snoc X209 N206 (Nat.le_trans (Nat.le_trans f194 K195.1) (Nat.le_of_eq g198.symm))
      have Ve212 := own_ecs V209
      obtain ⟨T213, h213, X213, e213, E213, A213, D213, -, st213⟩ := newO X209 hx hZ hown (W 11 rfl) (W 12 rfl) (W 13 rfl) e209 (g := (mkF m 69 #[.val (.int p0), .val (.long q1), .second, .val (.long q2), .second, .val (.long q3), .second, .val (.ref b101), .val (.ref b107), .val (.ref b198), .unset, .unset] [])) rfl (hb hby at_69) (by decide) (by decide)
      obtain ⟨b213, g213⟩ : ∃ z, z = h209.size := ⟨_, rfl⟩
      rw [← g213] at A213 D213 st213
      have pq214 : own_go pP e below A0 (T213.setTop (mkF m 72 #[.val (.int p0), .val (.long q1), .second, .val (.long q2), .second, .val (.long q3), .second, .val (.ref b101), .val (.ref b107), .val (.ref b198), .unset, .unset] [(.ref b213)])) := by
        intro τ κ
        refine pq211 τ ?_
        refine st213 _ ?_
        exact κ
      have KC213 := KC209.ext E213
      have CH213 := CHv.ext E213 CH209
      have CR213 := CHr.trans CR209 (CHr.ext E213 CH209)
      have SK213 := Nat.le_trans SK209 E213.1
      have Sf213 := Safe.ext (x := b213) E213 CH209 (Safe.new (Nat.le_of_eq g213.symm))
      have F_value_b213 : Fld Z h213 b213 "java/lang/String" "value" "[B" .null := D213 (Or.inr (W 26 rfl)) (ty := (.array .byte)) (by decide)
      have F_coder_b213 : Fld Z h213 b213 "java/lang/String" "coder" "B" (.int (0 : Int32)) := D213 (Or.inr (W 27 rfl)) (ty := .byte) (by decide)
      have f215 := (((((((f193.keep K195 (allS (Nat.le_trans (Nat.le_trans f104 K105.1) (Nat.le_of_eq g107.symm)) all0)).ext E198).keep K201 (allS (Nat.le_trans (Nat.le_trans f194 K195.1) (Nat.le_of_eq g198.symm)) all0)).wr W203 (Nat.le_trans (Nat.le_trans f194 K195.1) (Nat.le_of_eq g198.symm))).wr W206 (Nat.le_trans (Nat.le_trans f194 K195.1) (Nat.le_of_eq g198.symm))).wr W209 (Nat.le_trans (Nat.le_trans f194 K195.1) (Nat.le_of_eq g198.symm))).ext E213)
      have f216 := (Ve212.ext E213)
      have f217 := (Nat.le_trans (Nat.le_trans (Nat.le_trans (Nat.le_trans (Nat.le_trans f200 K201.1) (Keep.of_wr W203).1) (Keep.of_wr W206).1) (Keep.of_wr W209).1) E213.1)
      obtain ⟨_, _, ⟨T218, L218, k218, n218⟩, -, X218, ⟨Lc218, hQ218, l218, y218, z218⟩, st218⟩ := X213.specialBack hx (y := y_1) rfl hown (mvT hZ (W 14 rfl)) (mvT hZ (W 15 rfl)) (mvT hZ (W 16 rfl)) (by decide) (backOf (W := 1) (rm_i1 l Z a0 hw [] b213 b198 k198 (own_txt q1 q2 q3 40 ++ ([(46 : Int32), (46 : Int32), (46 : Int32)] : List Int32)) G1 h213 n0 f217 O2 P5 f215 OA OH OL A213 (Nat.le_trans (Nat.le_trans (Nat.le_trans (Nat.le_trans (Nat.le_trans f200 K201.1) (Keep.of_wr W203).1) (Keep.of_wr W206).1) (Keep.of_wr W209).1) (Nat.le_of_eq g213.symm)) F_value_b213 F_coder_b213 f216 (own_badtxt (m := 40) (by decide) fun x hx => List.mem_append_left _ hx) (own_hpd (own_txtR _ _ _ _)) (by rw [List.length_append, own_txt_len]; decide) (by rw [List.length_append, own_txt_len]; decide)) hZ (W 16 rfl) (W 13 rfl) (by decide) (by decide)) (g := (mkF m 75 #[.val (.int p0), .val (.long q1), .second, .val (.long q2), .second, .val (.long q3), .second, .val (.ref b101), .val (.ref b107), .val (.ref b198), .unset, .unset] [(.ref b198), (.ref b213), (.ref b213)])) rfl (by rw [hml]; rfl) (Steps.refl _) (a := b213) (argsL := [(.ref b198)]) (rest := [(.ref b213)]) (lenOf pdo_41 rfl) rfl (Nat.le_of_eq rfl) (hb hby at_75) (fun _ _ => ⟨rfl, e213, (by decide : 6 + 2 ≤ _), (by decide : 341 + 245 ≤ _)⟩)
      dsimp only [Pt.U, Pt.locs, Pt.cells, Pt.slots] at X218 l218 y218 z218 st218 hQ218
      subst l218 y218 z218
      obtain ⟨rfl, Nq218, K218, U218⟩ := hQ218
      have N218 := Fr.app N209 Nq218
      have pq219 : own_go pP e below A0 (T218.setTop (mkF m 78 #[.val (.int p0), .val (.long q1), .second, .val (.long q2), .second, .val (.long q3), .second, .val (.ref b101), .val (.ref b107), .val (.ref b198), .unset, .unset] [(.ref b213)])) := by
        intro τ κ
        refine pq214 τ ?_
        refine XS.dup X213.here hx rfl (hb hby at_72) rfl rfl ?_
        refine XS.aload X213.here hx rfl (hb hby at_73) rfl rfl ?_
        refine st218.trans ?_
        exact κ
      have KC218 := KC213.trans K218 (allS (Or.inr (Nat.le_trans (Nat.le_trans (Nat.le_trans (Nat.le_trans (Nat.le_trans (Nat.le_trans (Nat.le_trans (Nat.le_trans (Nat.le_trans (Nat.le_trans (Nat.le_refl _) K101.1) K105.1) E107.1) K195.1) E198.1) K201.1) (Keep.of_wr W203).1) (Keep.of_wr W206).1) (Keep.of_wr W209).1) (Nat.le_of_eq g213.symm))) all0)
      have CH218 := CHv.keep K218 (sfS Sf213 sf0) CH213
      have CR218 := CHr.trans CR213 (CHr.keep K218 (sfS Sf213 sf0) CH213)
      have SK218 := Nat.le_trans SK213 K218.1
      obtain ⟨tx220, kx220, Ea220, Fva220, Fca220, vx220, Va220, hua220, hpa220⟩ := U218
      have f221 := (((((((Va197.ext E198).keep K201 (ninS (Nat.ne_of_lt (Nat.lt_of_lt_of_le Va197.lt (Nat.le_of_eq g198.symm))) nin0)).other W203 (Nat.ne_of_lt (Nat.lt_of_lt_of_le Va197.lt (Nat.le_of_eq g198.symm)))).other W206 (Nat.ne_of_lt (Nat.lt_of_lt_of_le Va197.lt (Nat.le_of_eq g198.symm)))).other W209 (Nat.ne_of_lt (Nat.lt_of_lt_of_le Va197.lt (Nat.le_of_eq g198.symm)))).ext E213).keep K218 (ninS (Nat.ne_of_lt (Nat.lt_of_lt_of_le (((((Va197.ext E198).keep K201 (ninS (Nat.ne_of_lt (Nat.lt_of_lt_of_le Va197.lt (Nat.le_of_eq g198.symm))) nin0)).other W203 (Nat.ne_of_lt (Nat.lt_of_lt_of_le Va197.lt (Nat.le_of_eq g198.symm)))).other W206 (Nat.ne_of_lt (Nat.lt_of_lt_of_le Va197.lt (Nat.le_of_eq g198.symm)))).other W209 (Nat.ne_of_lt (Nat.lt_of_lt_of_le Va197.lt (Nat.le_of_eq g198.symm)))).lt (Nat.le_of_eq g213.symm))) nin0))
      have f222 := (((((((Ea197.ext E198).keep K201).wr W203).wr W206).wr W209).ext E213).keep K218)
      have f223 := (((((((Fva197.ext E198).keep K201 (ninS (Nat.ne_of_lt (Nat.lt_of_lt_of_le Ea197.lt (Nat.le_of_eq g198.symm))) nin0)).other W203 (Or.inl (Nat.ne_of_lt (Nat.lt_of_lt_of_le Ea197.lt (Nat.le_of_eq g198.symm))))).other W206 (Or.inl (Nat.ne_of_lt (Nat.lt_of_lt_of_le Ea197.lt (Nat.le_of_eq g198.symm))))).other W209 (Or.inl (Nat.ne_of_lt (Nat.lt_of_lt_of_le Ea197.lt (Nat.le_of_eq g198.symm))))).ext E213).keep K218 (ninS (Nat.ne_of_lt (Nat.lt_of_lt_of_le (((((Ea197.ext E198).keep K201).wr W203).wr W206).wr W209).lt (Nat.le_of_eq g213.symm))) nin0))
      have f224 := (((((((Fca197.ext E198).keep K201 (ninS (Nat.ne_of_lt (Nat.lt_of_lt_of_le Ea197.lt (Nat.le_of_eq g198.symm))) nin0)).other W203 (Or.inl (Nat.ne_of_lt (Nat.lt_of_lt_of_le Ea197.lt (Nat.le_of_eq g198.symm))))).other W206 (Or.inl (Nat.ne_of_lt (Nat.lt_of_lt_of_le Ea197.lt (Nat.le_of_eq g198.symm))))).other W209 (Or.inl (Nat.ne_of_lt (Nat.lt_of_lt_of_le Ea197.lt (Nat.le_of_eq g198.symm))))).ext E213).keep K218 (ninS (Nat.ne_of_lt (Nat.lt_of_lt_of_le (((((Ea197.ext E198).keep K201).wr W203).wr W206).wr W209).lt (Nat.le_of_eq g213.symm))) nin0))
      have f225 := (f215.keep K218 (allS (Nat.le_trans (Nat.le_trans (Nat.le_trans (Nat.le_trans (Nat.le_trans f200 K201.1) (Keep.of_wr W203).1) (Keep.of_wr W206).1) (Keep.of_wr W209).1) (Nat.le_of_eq g213.symm)) all0))
      have f226 := (Nat.le_trans f217 K218.1)
      obtain ⟨_, _, ⟨T227, L227, k227, n227⟩, -, X227, ⟨Lc227, hQ227, l227, y227, z227⟩, st227⟩ := Jvm.LawKit.callS X218 hx (y := y_17) hown (mvT hZ (W 66 rfl)) (mvT hZ (W 67 rfl)) (mvT hZ (W 68 rfl)) (mvT hZ (W 69 rfl)) (by decide) (backOf (W := 0) (rm_abS l Z a0 hw [] b107 (own_txt q1 q2 q3 n101a) G1 T218.heap n0 f226 O2 P5 f225 (by rw [own_txt_len]; exact hS103) (⟨tx197, _, f222, f223, Or.inr ⟨f224, _, f221, hua197, hpa197⟩⟩ : UStr Z T218.heap b107 (own_txt q1 q2 q3 n101a))) hZ (W 69 rfl) (W 68 rfl) (by decide) (by decide)) (g := (mkF m 82 #[.val (.int p0), .val (.long q1), .second, .val (.long q2), .second, .val (.long q3), .second, .val (.ref b101), .val (.ref b107), .val (.ref b198), .val (.ref b213), .unset] [(.ref b107)])) rfl (by rw [hml]; rfl) (argsL := [(.ref b107)]) (rest := []) (lenOf pdo_42 rfl) rfl (Nat.le_of_eq rfl) (hb hby at_82) (fun _ _ => ⟨rfl, rfl, (by decide : 8 + 0 ≤ _), (by decide : 586 + 0 ≤ _)⟩)
      dsimp only [Pt.U, Pt.locs, Pt.cells, Pt.slots] at X227 l227 y227 z227 st227 hQ227
      subst l227 y227 z227
      obtain ⟨rfl, Nq227, eq227⟩ := hQ227
      have N227 := Fr.app N218 Nq227
      have pq228 : own_go pP e below A0 (T227.setTop (mkF m 85 #[.val (.int p0), .val (.long q1), .second, .val (.long q2), .second, .val (.long q3), .second, .val (.ref b101), .val (.ref b107), .val (.ref b198), .val (.ref b213), .unset] [(.ref b107)])) := by
        intro τ κ
        refine pq219 τ ?_
        refine XS.astore X218.here hx rfl (hb hby at_78) rfl rfl (l' := #[.val (.int p0), .val (.long q1), .second, .val (.long q2), .second, .val (.long q3), .second, .val (.ref b101), .val (.ref b107), .val (.ref b198), .val (.ref b213), .unset]) rfl ?_
        refine XS.aload X218.here hx rfl (hb hby at_80) rfl rfl ?_
        refine st227 _ ?_
        exact κ
      have f229 := ((((((((f111.keep K195 (ninS (Nat.ne_of_lt (Nat.lt_of_lt_of_le Vt105.lt (Nat.le_of_eq g107.symm))) nin0)).ext E198).keep K201 (ninS (Nat.ne_of_lt (Nat.lt_of_lt_of_le (f111.keep K195 (ninS (Nat.ne_of_lt (Nat.lt_of_lt_of_le Vt105.lt (Nat.le_of_eq g107.symm))) nin0)).lt (Nat.le_of_eq g198.symm))) nin0)).other W203 (Nat.ne_of_lt (Nat.lt_of_lt_of_le (f111.keep K195 (ninS (Nat.ne_of_lt (Nat.lt_of_lt_of_le Vt105.lt (Nat.le_of_eq g107.symm))) nin0)).lt (Nat.le_of_eq g198.symm)))).other W206 (Nat.ne_of_lt (Nat.lt_of_lt_of_le (f111.keep K195 (ninS (Nat.ne_of_lt (Nat.lt_of_lt_of_le Vt105.lt (Nat.le_of_eq g107.symm))) nin0)).lt (Nat.le_of_eq g198.symm)))).other W209 (Nat.ne_of_lt (Nat.lt_of_lt_of_le (f111.keep K195 (ninS (Nat.ne_of_lt (Nat.lt_of_lt_of_le Vt105.lt (Nat.le_of_eq g107.symm))) nin0)).lt (Nat.le_of_eq g198.symm)))).ext E213).keep K218 (ninS (Nat.ne_of_lt (Nat.lt_of_lt_of_le ((((((f111.keep K195 (ninS (Nat.ne_of_lt (Nat.lt_of_lt_of_le Vt105.lt (Nat.le_of_eq g107.symm))) nin0)).ext E198).keep K201 (ninS (Nat.ne_of_lt (Nat.lt_of_lt_of_le (f111.keep K195 (ninS (Nat.ne_of_lt (Nat.lt_of_lt_of_le Vt105.lt (Nat.le_of_eq g107.symm))) nin0)).lt (Nat.le_of_eq g198.symm))) nin0)).other W203 (Nat.ne_of_lt (Nat.lt_of_lt_of_le (f111.keep K195 (ninS (Nat.ne_of_lt (Nat.lt_of_lt_of_le Vt105.lt (Nat.le_of_eq g107.symm))) nin0)).lt (Nat.le_of_eq g198.symm)))).other W206 (Nat.ne_of_lt (Nat.lt_of_lt_of_le (f111.keep K195 (ninS (Nat.ne_of_lt (Nat.lt_of_lt_of_le Vt105.lt (Nat.le_of_eq g107.symm))) nin0)).lt (Nat.le_of_eq g198.symm)))).other W209 (Nat.ne_of_lt (Nat.lt_of_lt_of_le (f111.keep K195 (ninS (Nat.ne_of_lt (Nat.lt_of_lt_of_le Vt105.lt (Nat.le_of_eq g107.symm))) nin0)).lt (Nat.le_of_eq g198.symm)))).lt (Nat.le_of_eq g213.symm))) nin0))
      obtain ⟨cl230, Ar230, q230, S230, M230, Hs230, G230⟩ := id f229
      obtain ⟨cq232, kq232, q232a, q232b, q232c⟩ := isOf hZ eq227 f222
      obtain ⟨_, _, ⟨T231, L231, k231, n231⟩, -, X231, ⟨Lc231, hQ231, l231, y231, z231⟩, st231⟩ := X227.virtualBack hx (y := y_56) (z := y_56) hown (mvT hZ (W 80 rfl)) (mvT hZ (W 81 rfl)) (notFace_of_selects (args := #[]) (mvT hZ (W 83 rfl))) (mvT hZ (W 83 rfl)) (mvT hZ (W 82 rfl)) (by decide) (backOf (W := 0) (rm_eqs l Z a0 hw [] b107 T218.heap n0 f226 ) hZ (W 84 rfl) (W 13 rfl) (by decide) (by decide)) q232a q232c (g := (mkF m 99 #[.val (.int p0), .val (.long q1), .second, .val (.long q2), .second, .val (.long q3), .second, .val (.ref b101), .val (.ref b107), .val (.ref b198), .val (.ref b213), .val (.ref b107)] [(.ref b107), (.ref b107)])) rfl (by rw [hml]; rfl) (Steps.refl _) (argsL := [(.ref b107)]) (rest := []) (lenOf pdo_43 rfl) rfl (Nat.le_of_eq rfl) (hb hby at_99) (fun _ _ => ⟨rfl, eq227, (by decide : 8 + 0 ≤ _), (by decide : 586 + 0 ≤ _)⟩)
      dsimp only [Pt.U, Pt.locs, Pt.cells, Pt.slots] at X231 l231 y231 z231 st231 hQ231
      subst l231 y231 z231
      obtain ⟨rfl, Nq231, eq231⟩ := hQ231
      have N231 := Fr.app N227 Nq231
      have pq233 : own_go pP e below A0 (T231.setTop (mkF m 102 #[.val (.int p0), .val (.long q1), .second, .val (.long q2), .second, .val (.long q3), .second, .val (.ref b101), .val (.ref b107), .val (.ref b198), .val (.ref b213), .val (.ref b107)] [(.int (1 : Int32))])) := by
        intro τ κ
        refine pq228 τ ?_
        refine XS.astore X227.here hx rfl (hb hby at_85) rfl rfl (l' := #[.val (.int p0), .val (.long q1), .second, .val (.long q2), .second, .val (.long q3), .second, .val (.ref b101), .val (.ref b107), .val (.ref b198), .val (.ref b213), .val (.ref b107)]) rfl ?_
        refine XS.aload X227.here hx rfl (hb hby at_87) rfl rfl ?_
        refine X227.arraylength hx (by rw [eq227]; exact Ar230.1) (State.isArrayOf_alike hZ.alike Ar230.2.1) (g := (mkF m 89 #[.val (.int p0), .val (.long q1), .second, .val (.long q2), .second, .val (.long q3), .second, .val (.ref b101), .val (.ref b107), .val (.ref b198), .val (.ref b213), .val (.ref b107)] [(.ref b101)])) rfl rfl (hb hby at_89) _ ?_
        rw [len_of S230 M230]
        refine XS.bipush X227.here hx rfl (hb hby at_90) ?_
        refine XS.icmpNo X227.here hx rfl (hb hby at_92) rfl (flt (own_le40 (by rw [own_txt_len]; exact hS103))).2.2.1 ?_
        refine XS.aload X227.here hx rfl (hb hby at_95) rfl rfl ?_
        refine XS.aload X227.here hx rfl (hb hby at_97) rfl rfl ?_
        refine st231.trans ?_
        exact κ
      have SKe := Nat.le_trans SK218 (Nat.le_of_eq (congrArg (fun z : Heap => Array.size z) (Eq.symm eq231)))
      obtain ⟨fs, hrE, hrun, hended, hEnd⟩ := X231.leaveW SI0 SKe (v := some (.int (1 : Int32))) (fun h => by rw [Bd.returns] at h; cases h)
      have CHe := CHr.trans CR218 (CHv.at X231 hZ hEW CH218)
      have pqE := pq233
      rw [hA0] at pqE
      refine ⟨_, _, pqE _ ?_, hrun, hended, _, _, rfl, ?_, ?_, hEnd.1, hEnd.2.1, hEnd.2.2.1, hEnd.2.2.2.mono (by decide) (by decide)⟩
      · show Steps pP.tables e below (T231.setTop (mkF m 102 #[.val (.int p0), .val (.long q1), .second, .val (.long q2), .second, .val (.long q3), .second, .val (.ref b101), .val (.ref b107), .val (.ref b198), .val (.ref b213), .val (.ref b107)] [(.int (1 : Int32))])) _
        exact retN X231 hx (t := .boolean) Bd.returns (by simp) (hb hby at_102) hrE
      · show Q_law n0 _ T231.heap _
        rw [eq231]
        exact ⟨rfl, N231⟩
      · show CHr Z consts_1 s.vm s.heap T231.vm T231.heap
        first | (rw [hh, eq231]; exact CHe) | (rw [hh]; exact CHe)
  · skip
    have f234 := (Nat.le_trans Z0 K101.1)
    obtain ⟨_, _, ⟨T235, L235, k235, n235⟩, -, X235, ⟨Lc235, hQ235, l235, y235, z235⟩, st235⟩ := Jvm.LawKit.callS X101 hx (y := y_4) hown (mvT hZ (W 5 rfl)) (mvT hZ (W 6 rfl)) (mvT hZ (W 2 rfl)) (mvT hZ (W 7 rfl)) (by decide) (backOf (W := 0) (rm_fill l Z a0 hw [] b101 k101a n101a 45 q1 q2 q3 ([] ++ List.replicate 45 (Value.int 0)) T101.heap n0 f234 (V101.pad (pad_rep _ _ 45)) (Nat.le_trans Z0 lb101) hn101.1 (by simp)) hZ (W 7 rfl) (W 2 rfl) (by decide) (by decide)) (g := (mkF m 17 #[.val (.int p0), .val (.long q1), .second, .val (.long q2), .second, .val (.long q3), .second, .val (.ref b101), .unset, .unset, .unset, .unset] [(.int (45 : Int32)), (.long q3), (.long q2), (.long q1), (.ref b101)])) rfl (by rw [hml]; rfl) (argsL := [(.ref b101), (.long q1), (.long q2), (.long q3), (.int (45 : Int32))]) (rest := []) (lenOf pdo_40 rfl) rfl (Nat.le_of_eq rfl) (hb hby at_17) (fun _ _ => ⟨rfl, rfl, (by decide : 1 + 0 ≤ _), (by decide : 45 + 0 ≤ _)⟩)
    dsimp only [Pt.U, Pt.locs, Pt.cells, Pt.slots] at X235 l235 y235 z235 st235 hQ235
    subst l235 y235 z235
    obtain ⟨rfl, Nq235, K235, V235⟩ := hQ235
    have N235 := Fr.app N101 Nq235
    have pq236 : own_go pP e below A0 (T235.setTop (mkF m 20 #[.val (.int p0), .val (.long q1), .second, .val (.long q2), .second, .val (.long q3), .second, .val (.ref b101), .unset, .unset, .unset, .unset] [])) := by
      intro τ κ
      refine pq102 τ ?_
      refine XS.astore X101.here hx rfl (hb hby at_7) rfl rfl (l' := #[.val (.int p0), .val (.long q1), .second, .val (.long q2), .second, .val (.long q3), .second, .val (.ref b101), .unset, .unset, .unset, .unset]) rfl ?_
      refine XS.aload X101.here hx rfl (hb hby at_9) rfl rfl ?_
      refine XS.lloadN X101.here hx rfl (hb hby at_11) rfl ?_
      refine XS.lloadN X101.here hx rfl (hb hby at_12) rfl ?_
      refine XS.lload X101.here hx rfl (hb hby at_13) rfl ?_
      refine XS.bipush X101.here hx rfl (hb hby at_15) ?_
      refine st235 _ ?_
      exact κ
    have KC235 := KC101.trans K235 (allS (Or.inr (Nat.le_trans (Nat.le_refl _) lb101)) all0)
    have CH235 := CHv.keep K235 (sfS (Safe.arv hZ.alike V101 (by decide)) sf0) CH101
    have CR235 := CHr.trans CR101 (CHr.keep K235 (sfS (Safe.arv hZ.alike V101 (by decide)) sf0) CH101)
    have SK235 := Nat.le_trans SK101 K235.1
    have Vt235 := own_text hn101.1 V235
    obtain ⟨T237, h237, X237, e237, E237, A237, D237, -, st237⟩ := newO X235 hx hZ hown (W 11 rfl) (W 12 rfl) (W 13 rfl) rfl (g := (mkF m 20 #[.val (.int p0), .val (.long q1), .second, .val (.long q2), .second, .val (.long q3), .second, .val (.ref b101), .unset, .unset, .unset, .unset] [])) rfl (hb hby at_20) (by decide) (by decide)
    obtain ⟨b237, g237⟩ : ∃ z, z = T235.heap.size := ⟨_, rfl⟩
    rw [← g237] at A237 D237 st237
    have pq238 : own_go pP e below A0 (T237.setTop (mkF m 23 #[.val (.int p0), .val (.long q1), .second, .val (.long q2), .second, .val (.long q3), .second, .val (.ref b101), .unset, .unset, .unset, .unset] [(.ref b237)])) := by
      intro τ κ
      refine pq236 τ ?_
      refine st237 _ ?_
      exact κ
    have KC237 := KC235.ext E237
    have CH237 := CHv.ext E237 CH235
    have CR237 := CHr.trans CR235 (CHr.ext E237 CH235)
    have SK237 := Nat.le_trans SK235 E237.1
    have Sf237 := Safe.ext (x := b237) E237 CH235 (Safe.new (Nat.le_of_eq g237.symm))
    have F_value_b237 : Fld Z h237 b237 "java/lang/String" "value" "[B" .null := D237 (Or.inr (W 26 rfl)) (ty := (.array .byte)) (by decide)
    have F_coder_b237 : Fld Z h237 b237 "java/lang/String" "coder" "B" (.int (0 : Int32)) := D237 (Or.inr (W 27 rfl)) (ty := .byte) (by decide)
    have f239 := (((X00.keep K101 all0).keep K235 (allS (Nat.le_trans Z0 lb101) all0)).ext E237)
    have f240 := (Vt235.ext E237)
    have f241 := (Nat.le_trans (Nat.le_trans f234 K235.1) E237.1)
    obtain ⟨_, _, ⟨T242, L242, k242, n242⟩, -, X242, ⟨Lc242, hQ242, l242, y242, z242⟩, st242⟩ := X237.specialBack hx (y := y_1) rfl hown (mvT hZ (W 14 rfl)) (mvT hZ (W 15 rfl)) (mvT hZ (W 16 rfl)) (by decide) (backOf (W := 1) (rm_i1 l Z a0 hw [] b237 b101 k101a (own_txt q1 q2 q3 n101a) G1 h237 n0 f241 O2 P5 f239 OA OH OL A237 (Nat.le_trans (Nat.le_trans f234 K235.1) (Nat.le_of_eq g237.symm)) F_value_b237 F_coder_b237 f240 (own_badtxt (by omega) fun x hx => hx) (own_txtR _ _ _ _) (by rw [own_txt_len]; exact hn101.1) (by rw [own_txt_len]; omega)) hZ (W 16 rfl) (W 13 rfl) (by decide) (by decide)) (g := (mkF m 26 #[.val (.int p0), .val (.long q1), .second, .val (.long q2), .second, .val (.long q3), .second, .val (.ref b101), .unset, .unset, .unset, .unset] [(.ref b101), (.ref b237), (.ref b237)])) rfl (by rw [hml]; rfl) (Steps.refl _) (a := b237) (argsL := [(.ref b101)]) (rest := [(.ref b237)]) (lenOf pdo_41 rfl) rfl (Nat.le_of_eq rfl) (hb hby at_26) (fun _ _ => ⟨rfl, e237, (by decide : 2 + 2 ≤ _), (by decide : 49 + 245 ≤ _)⟩)
    dsimp only [Pt.U, Pt.locs, Pt.cells, Pt.slots] at X242 l242 y242 z242 st242 hQ242
    subst l242 y242 z242
    obtain ⟨rfl, Nq242, K242, U242⟩ := hQ242
    have N242 := Fr.app N235 Nq242
    have pq243 : own_go pP e below A0 (T242.setTop (mkF m 29 #[.val (.int p0), .val (.long q1), .second, .val (.long q2), .second, .val (.long q3), .second, .val (.ref b101), .unset, .unset, .unset, .unset] [(.ref b237)])) := by
      intro τ κ
      refine pq238 τ ?_
      refine XS.dup X237.here hx rfl (hb hby at_23) rfl rfl ?_
      refine XS.aload X237.here hx rfl (hb hby at_24) rfl rfl ?_
      refine st242.trans ?_
      exact κ
    have KC242 := KC237.trans K242 (allS (Or.inr (Nat.le_trans (Nat.le_trans (Nat.le_trans (Nat.le_refl _) K101.1) K235.1) (Nat.le_of_eq g237.symm))) all0)
    have CH242 := CHv.keep K242 (sfS Sf237 sf0) CH237
    have CR242 := CHr.trans CR237 (CHr.keep K242 (sfS Sf237 sf0) CH237)
    have SK242 := Nat.le_trans SK237 K242.1
    obtain ⟨tx244, kx244, Ea244, Fva244, Fca244, vx244, Va244, hua244, hpa244⟩ := U242
    obtain ⟨T245, h245, k245, X245, e245, E245, A245, st245⟩ := newP X242 hx hZ (W 4 rfl) rfl (g := (mkF m 33 #[.val (.int p0), .val (.long q1), .second, .val (.long q2), .second, .val (.long q3), .second, .val (.ref b101), .val (.ref b237), .unset, .unset, .unset] [(.int (43 : Int32))])) rfl (hb hby at_33) rfl (by decide) (cap := 43) (by decide) (by decide) (by decide) (by decide)
    obtain ⟨b245, g245⟩ : ∃ z, z = T242.heap.size := ⟨_, rfl⟩
    rw [← g245] at A245 st245
    have pq246 : own_go pP e below A0 (T245.setTop (mkF m 35 #[.val (.int p0), .val (.long q1), .second, .val (.long q2), .second, .val (.long q3), .second, .val (.ref b101), .val (.ref b237), .unset, .unset, .unset] [(.ref b245)])) := by
      intro τ κ
      refine pq243 τ ?_
      refine XS.astore X242.here hx rfl (hb hby at_29) rfl rfl (l' := #[.val (.int p0), .val (.long q1), .second, .val (.long q2), .second, .val (.long q3), .second, .val (.ref b101), .val (.ref b237), .unset, .unset, .unset]) rfl ?_
      refine XS.bipush X242.here hx rfl (hb hby at_31) ?_
      refine st245 _ ?_
      exact κ
    have KC245 := KC242.ext E245
    have CH245 := CHv.ext E245 CH242
    have CR245 := CHr.trans CR242 (CHr.ext E245 CH242)
    have SK245 := Nat.le_trans SK242 E245.1
    have V245 : Arv Z h245 b245 k245 .char (43 : Int32) [] (.int (0 : Int32)) := Arv.new A245 (by decide)
    have Sf245 := Safe.ext (x := b245) E245 CH242 (Safe.new (Nat.le_of_eq g245.symm))
    have f247 := (Nat.le_trans (Nat.le_trans f241 K242.1) E245.1)
    obtain ⟨_, _, ⟨T248, L248, k248, n248⟩, -, X248, ⟨Lc248, hQ248, l248, y248, z248⟩, st248⟩ := Jvm.LawKit.callS X245 hx (y := y_4) hown (mvT hZ (W 5 rfl)) (mvT hZ (W 6 rfl)) (mvT hZ (W 2 rfl)) (mvT hZ (W 7 rfl)) (by decide) (backOf (W := 0) (rm_fill l Z a0 hw [] b245 k245 43 40 q1 q2 q3 ([] ++ List.replicate 45 (Value.int 0)) h245 n0 f247 (V245.pad (pad_rep _ _ 45)) (Nat.le_trans (Nat.le_trans f241 K242.1) (Nat.le_of_eq g245.symm)) (by decide) (by simp)) hZ (W 7 rfl) (W 2 rfl) (by decide) (by decide)) (g := (mkF m 45 #[.val (.int p0), .val (.long q1), .second, .val (.long q2), .second, .val (.long q3), .second, .val (.ref b101), .val (.ref b237), .val (.ref b245), .unset, .unset] [(.int (40 : Int32)), (.long q3), (.long q2), (.long q1), (.ref b245)])) rfl (by rw [hml]; rfl) (argsL := [(.ref b245), (.long q1), (.long q2), (.long q3), (.int (40 : Int32))]) (rest := []) (lenOf pdo_40 rfl) rfl (Nat.le_of_eq rfl) (hb hby at_45) (fun _ _ => ⟨rfl, e245, (by decide : 5 + 0 ≤ _), (by decide : 337 + 0 ≤ _)⟩)
    dsimp only [Pt.U, Pt.locs, Pt.cells, Pt.slots] at X248 l248 y248 z248 st248 hQ248
    subst l248 y248 z248
    obtain ⟨rfl, Nq248, K248, V248⟩ := hQ248
    have N248 := Fr.app N242 Nq248
    have pq249 : own_go pP e below A0 (T248.setTop (mkF m 48 #[.val (.int p0), .val (.long q1), .second, .val (.long q2), .second, .val (.long q3), .second, .val (.ref b101), .val (.ref b237), .val (.ref b245), .unset, .unset] [])) := by
      intro τ κ
      refine pq246 τ ?_
      refine XS.astore X245.here hx rfl (hb hby at_35) rfl rfl (l' := #[.val (.int p0), .val (.long q1), .second, .val (.long q2), .second, .val (.long q3), .second, .val (.ref b101), .val (.ref b237), .val (.ref b245), .unset, .unset]) rfl ?_
      refine XS.aload X245.here hx rfl (hb hby at_37) rfl rfl ?_
      refine XS.lloadN X245.here hx rfl (hb hby at_39) rfl ?_
      refine XS.lloadN X245.here hx rfl (hb hby at_40) rfl ?_
      refine XS.lload X245.here hx rfl (hb hby at_41) rfl ?_
      refine XS.bipush X245.here hx rfl (hb hby at_43) ?_
      refine st248 _ ?_
      exact κ
    have KC248 := KC245.trans K248 (allS (Or.inr (Nat.le_trans (Nat.le_trans (Nat.le_trans (Nat.le_trans (Nat.le_trans (Nat.le_refl _) K101.1) K235.1) E237.1) K242.1) (Nat.le_of_eq g245.symm))) all0)
    have CH248 := CHv.keep K248 (sfS Sf245 sf0) CH245
    have CR248 := CHr.trans CR245 (CHr.keep K248 (sfS Sf245 sf0) CH245)
    have SK248 := Nat.le_trans SK245 K248.1
    have f251 := (Safe.keep K248 (sfS Sf245 sf0) CH245 Sf245)
    obtain ⟨cl250, Ar250, q250, S250, M250, Hs250, G250⟩ := id V248
    obtain ⟨T250, h250, X250, e250, W250, st250⟩ := stC X248 hx hZ rfl Ar250 (j := (40 : Int32)) (inb_of S250 ⟨by decide, by decide⟩) (g := (mkF m 54 #[.val (.int p0), .val (.long q1), .second, .val (.long q2), .second, .val (.long q3), .second, .val (.ref b101), .val (.ref b237), .val (.ref b245), .unset, .unset] [(.int (46 : Int32)), (.int (40 : Int32)), (.ref b245)])) rfl rfl (hb hby at_54)
    have pq252 : own_go pP e below A0 (T250.setTop (mkF m 55 #[.val (.int p0), .val (.long q1), .second, .val (.long q2), .second, .val (.long q3), .second, .val (.ref b101), .val (.ref b237), .val (.ref b245), .unset, .unset] [])) := by
      intro τ κ
      refine pq249 τ ?_
      refine XS.aload X248.here hx rfl (hb hby at_48) rfl rfl ?_
      refine XS.bipush X248.here hx rfl (hb hby at_50) ?_
      refine XS.bipush X248.here hx rfl (hb hby at_52) ?_
      refine st250 _ ?_
      exact κ
    have KC250 := KC248.wr W250 (Or.inr (Nat.le_trans (Nat.le_trans (Nat.le_trans (Nat.le_trans (Nat.le_trans (Nat.le_refl _) K101.1) K235.1) E237.1) K242.1) (Nat.le_of_eq g245.symm)))
    have CH250 := CHv.wr W250 f251 CH248
    have CR250 := CHr.trans CR248 (CHr.wr W250 f251 CH248)
    have SK250 := Nat.le_trans SK248 (Keep.of_wr W250).1
    have V250 : Arv Z h250 b245 k245 .char (43 : Int32) ((own_fill q1 q2 q3 43 40 45 ([] ++ List.replicate 45 (Value.int 0))).set 40 (.int (nar .char (46 : Int32)))) (.int (0 : Int32)) := Arv.set Ar250 q250 S250 M250 Hs250 G250 (fits_nar_char _) W250 40 (by decide) (by simp only [List.length_set, own_fill_len]; simp)
    have N250 := Fr.snoc X250 N248 (Nat.le_trans (Nat.le_trans f241 K242.1) (Nat.le_of_eq g245.symm))
    have f254 := (Safe.wr W250 f251 CH248 f251)
    obtain ⟨cl253, Ar253, q253, S253, M253, Hs253, G253⟩ := id V250
    obtain ⟨T253, h253, X253, e253, W253, st253⟩ := stC X250 hx hZ e250 Ar253 (j := (41 : Int32)) (inb_of S253 ⟨by decide, by decide⟩) (g := (mkF m 61 #[.val (.int p0), .val (.long q1), .second, .val (.long q2), .second, .val (.long q3), .second, .val (.ref b101), .val (.ref b237), .val (.ref b245), .unset, .unset] [(.int (46 : Int32)), (.int (41 : Int32)), (.ref b245)])) rfl rfl (hb hby at_61)
    have pq255 : own_go pP e below A0 (T253.setTop (mkF m 62 #[.val (.int p0), .val (.long q1), .second, .val (.long q2), .second, .val (.long q3), .second, .val (.ref b101), .val (.ref b237), .val (.ref b245), .unset, .unset] [])) := by
      intro τ κ
      refine pq252 τ ?_
      refine XS.aload X250.here hx rfl (hb hby at_55) rfl rfl ?_
      refine XS.bipush X250.here hx rfl (hb hby at_57) ?_
      refine XS.bipush X250.here hx rfl (hb hby at_59) ?_
      refine st253 _ ?_
      exact κ
    have KC253 := KC250.wr W253 (Or.inr (Nat.le_trans (Nat.le_trans (Nat.le_trans (Nat.le_trans (Nat.le_trans (Nat.le_refl _) K101.1) K235.1) E237.1) K242.1) (Nat.le_of_eq g245.symm)))
    have CH253 := CHv.wr W253 f254 CH250
    have CR253 := CHr.trans CR250 (CHr.wr W253 f254 CH250)
    have SK253 := Nat.le_trans SK250 (Keep.of_wr W253).1
    have V253 : Arv Z h253 b245 k245 .char (43 : Int32) (((own_fill q1 q2 q3 43 40 45 ([] ++ List.replicate 45 (Value.int 0))).set 40 (.int (nar .char (46 : Int32)))).set 41 (.int (nar .char (46 : Int32)))) (.int (0 : Int32)) := Arv.set Ar253 q253 S253 M253 Hs253 G253 (fits_nar_char _) W253 41 (by decide) (by simp only [List.length_set, own_fill_len]; simp)
    have N253 := Fr.snoc X253 N250 (Nat.le_trans (Nat.le_trans f241 K242.1) (Nat.le_of_eq g245.symm))
    have f257 := (Safe.wr W253 f254 CH250 f254)
    obtain ⟨cl256, Ar256, q256, S256, M256, Hs256, G256⟩ := id V253
    obtain ⟨T256, h256, X256, e256, W256, st256⟩ := stC X253 hx hZ e253 Ar256 (j := (42 : Int32)) (inb_of S256 ⟨by decide, by decide⟩) (g := (mkF m 68 #[.val (.int p0), .val (.long q1), .second, .val (.long q2), .second, .val (.long q3), .second, .val (.ref b101), .val (.ref b237), .val (.ref b245), .unset, .unset] [(.int (46 : Int32)), (.int (42 : Int32)), (.ref b245)])) rfl rfl (hb hby at_68)
    have pq258 : own_go pP e below A0 (T256.setTop (mkF m 69 #[.val (.int p0), .val (.long q1), .second, .val (.long q2), .second, .val (.long q3), .second, .val (.ref b101), .val (.ref b237), .val (.ref b245), .unset, .unset] [])) := by
      intro τ κ
      refine pq255 τ ?_
      refine XS.aload X253.here hx rfl (hb hby at_62) rfl rfl ?_
      refine XS.bipush X253.here hx rfl (hb hby at_64) ?_
      refine XS.bipush X253.here hx rfl (hb hby at_66) ?_
      refine st256 _ ?_
      exact κ
    have KC256 := KC253.wr W256 (Or.inr (Nat.le_trans (Nat.le_trans (Nat.le_trans (Nat.le_trans (Nat.le_trans (Nat.le_refl _) K101.1) K235.1) E237.1) K242.1) (Nat.le_of_eq g245.symm)))
    have CH256 := CHv.wr W256 f257 CH253
    have CR256 := CHr.trans CR253 (CHr.wr W256 f257 CH253)
    have SK256 := Nat.le_trans SK253 (Keep.of_wr W256).1
    have V256 : Arv Z h256 b245 k245 .char (43 : Int32) ((((own_fill q1 q2 q3 43 40 45 ([] ++ List.replicate 45 (Value.int 0))).set 40 (.int (nar .char (46 : Int32)))).set 41 (.int (nar .char (46 : Int32)))).set 42 (.int (nar .char (46 : Int32)))) (.int (0 : Int32)) := Arv.set Ar256 q256 S256 M256 Hs256 G256 (fits_nar_char _) W256 42 (by decide) (by simp only [List.length_set, own_fill_len]; simp)
    have N256 := Fr.snoc X256 N253 (Nat.le_trans (Nat.le_trans f241 K242.1) (Nat.le_of_eq g245.symm))
    have Ve259 := own_ecs V256
    obtain ⟨T260, h260, X260, e260, E260, A260, D260, -, st260⟩ := newO X256 hx hZ hown (W 11 rfl) (W 12 rfl) (W 13 rfl) e256 (g := (mkF m 69 #[.val (.int p0), .val (.long q1), .second, .val (.long q2), .second, .val (.long q3), .second, .val (.ref b101), .val (.ref b237), .val (.ref b245), .unset, .unset] [])) rfl (hb hby at_69) (by decide) (by decide)
    obtain ⟨b260, g260⟩ : ∃ z, z = h256.size := ⟨_, rfl⟩
    rw [← g260] at A260 D260 st260
    have pq261 : own_go pP e below A0 (T260.setTop (mkF m 72 #[.val (.int p0), .val (.long q1), .second, .val (.long q2), .second, .val (.long q3), .second, .val (.ref b101), .val (.ref b237), .val (.ref b245), .unset, .unset] [(.ref b260)])) := by
      intro τ κ
      refine pq258 τ ?_
      refine st260 _ ?_
      exact κ
    have KC260 := KC256.ext E260
    have CH260 := CHv.ext E260 CH256
    have CR260 := CHr.trans CR256 (CHr.ext E260 CH256)
    have SK260 := Nat.le_trans SK256 E260.1
    have Sf260 := Safe.ext (x := b260) E260 CH256 (Safe.new (Nat.le_of_eq g260.symm))
    have F_value_b260 : Fld Z h260 b260 "java/lang/String" "value" "[B" .null := D260 (Or.inr (W 26 rfl)) (ty := (.array .byte)) (by decide)
    have F_coder_b260 : Fld Z h260 b260 "java/lang/String" "coder" "B" (.int (0 : Int32)) := D260 (Or.inr (W 27 rfl)) (ty := .byte) (by decide)
    have f262 := (((((((f239.keep K242 (allS (Nat.le_trans (Nat.le_trans f234 K235.1) (Nat.le_of_eq g237.symm)) all0)).ext E245).keep K248 (allS (Nat.le_trans (Nat.le_trans f241 K242.1) (Nat.le_of_eq g245.symm)) all0)).wr W250 (Nat.le_trans (Nat.le_trans f241 K242.1) (Nat.le_of_eq g245.symm))).wr W253 (Nat.le_trans (Nat.le_trans f241 K242.1) (Nat.le_of_eq g245.symm))).wr W256 (Nat.le_trans (Nat.le_trans f241 K242.1) (Nat.le_of_eq g245.symm))).ext E260)
    have f263 := (Ve259.ext E260)
    have f264 := (Nat.le_trans (Nat.le_trans (Nat.le_trans (Nat.le_trans (Nat.le_trans f247 K248.1) (Keep.of_wr W250).1) (Keep.of_wr W253).1) (Keep.of_wr W256).1) E260.1)
    obtain ⟨_, _, ⟨T265, L265, k265, n265⟩, -, X265, ⟨Lc265, hQ265, l265, y265, z265⟩, st265⟩ := X260.specialBack hx (y := y_1) rfl hown (mvT hZ (W 14 rfl)) (mvT hZ (W 15 rfl)) (mvT hZ (W 16 rfl)) (by decide) (backOf (W := 1) (rm_i1 l Z a0 hw [] b260 b245 k245 (own_txt q1 q2 q3 40 ++ ([(46 : Int32), (46 : Int32), (46 : Int32)] : List Int32)) G1 h260 n0 f264 O2 P5 f262 OA OH OL A260 (Nat.le_trans (Nat.le_trans (Nat.le_trans (Nat.le_trans (Nat.le_trans f247 K248.1) (Keep.of_wr W250).1) (Keep.of_wr W253).1) (Keep.of_wr W256).1) (Nat.le_of_eq g260.symm)) F_value_b260 F_coder_b260 f263 (own_badtxt (m := 40) (by decide) fun x hx => List.mem_append_left _ hx) (own_hpd (own_txtR _ _ _ _)) (by rw [List.length_append, own_txt_len]; decide) (by rw [List.length_append, own_txt_len]; decide)) hZ (W 16 rfl) (W 13 rfl) (by decide) (by decide)) (g := (mkF m 75 #[.val (.int p0), .val (.long q1), .second, .val (.long q2), .second, .val (.long q3), .second, .val (.ref b101), .val (.ref b237), .val (.ref b245), .unset, .unset] [(.ref b245), (.ref b260), (.ref b260)])) rfl (by rw [hml]; rfl) (Steps.refl _) (a := b260) (argsL := [(.ref b245)]) (rest := [(.ref b260)]) (lenOf pdo_41 rfl) rfl (Nat.le_of_eq rfl) (hb hby at_75) (fun _ _ => ⟨rfl, e260, (by decide : 6 + 2 ≤ _), (by decide : 341 + 245 ≤ _)⟩)
    dsimp only [Pt.U, Pt.locs, Pt.cells, Pt.slots] at X265 l265 y265 z265 st265 hQ265
    subst l265 y265 z265
    obtain ⟨rfl, Nq265, K265, U265⟩ := hQ265
    have N265 := Fr.app N256 Nq265
    have pq266 : own_go pP e below A0 (T265.setTop (mkF m 78 #[.val (.int p0), .val (.long q1), .second, .val (.long q2), .second, .val (.long q3), .second, .val (.ref b101), .val (.ref b237), .val (.ref b245), .unset, .unset] [(.ref b260)])) := by
      intro τ κ
      refine pq261 τ ?_
      refine XS.dup X260.here hx rfl (hb hby at_72) rfl rfl ?_
      refine XS.aload X260.here hx rfl (hb hby at_73) rfl rfl ?_
      refine st265.trans ?_
      exact κ
    have KC265 := KC260.trans K265 (allS (Or.inr (Nat.le_trans (Nat.le_trans (Nat.le_trans (Nat.le_trans (Nat.le_trans (Nat.le_trans (Nat.le_trans (Nat.le_trans (Nat.le_trans (Nat.le_trans (Nat.le_refl _) K101.1) K235.1) E237.1) K242.1) E245.1) K248.1) (Keep.of_wr W250).1) (Keep.of_wr W253).1) (Keep.of_wr W256).1) (Nat.le_of_eq g260.symm))) all0)
    have CH265 := CHv.keep K265 (sfS Sf260 sf0) CH260
    have CR265 := CHr.trans CR260 (CHr.keep K265 (sfS Sf260 sf0) CH260)
    have SK265 := Nat.le_trans SK260 K265.1
    obtain ⟨tx267, kx267, Ea267, Fva267, Fca267, vx267, Va267, hua267, hpa267⟩ := U265
    have f268 := (((((((Va244.ext E245).keep K248 (ninS (Nat.ne_of_lt (Nat.lt_of_lt_of_le Va244.lt (Nat.le_of_eq g245.symm))) nin0)).other W250 (Nat.ne_of_lt (Nat.lt_of_lt_of_le Va244.lt (Nat.le_of_eq g245.symm)))).other W253 (Nat.ne_of_lt (Nat.lt_of_lt_of_le Va244.lt (Nat.le_of_eq g245.symm)))).other W256 (Nat.ne_of_lt (Nat.lt_of_lt_of_le Va244.lt (Nat.le_of_eq g245.symm)))).ext E260).keep K265 (ninS (Nat.ne_of_lt (Nat.lt_of_lt_of_le (((((Va244.ext E245).keep K248 (ninS (Nat.ne_of_lt (Nat.lt_of_lt_of_le Va244.lt (Nat.le_of_eq g245.symm))) nin0)).other W250 (Nat.ne_of_lt (Nat.lt_of_lt_of_le Va244.lt (Nat.le_of_eq g245.symm)))).other W253 (Nat.ne_of_lt (Nat.lt_of_lt_of_le Va244.lt (Nat.le_of_eq g245.symm)))).other W256 (Nat.ne_of_lt (Nat.lt_of_lt_of_le Va244.lt (Nat.le_of_eq g245.symm)))).lt (Nat.le_of_eq g260.symm))) nin0))
    have f269 := (((((((Ea244.ext E245).keep K248).wr W250).wr W253).wr W256).ext E260).keep K265)
    have f270 := (((((((Fva244.ext E245).keep K248 (ninS (Nat.ne_of_lt (Nat.lt_of_lt_of_le Ea244.lt (Nat.le_of_eq g245.symm))) nin0)).other W250 (Or.inl (Nat.ne_of_lt (Nat.lt_of_lt_of_le Ea244.lt (Nat.le_of_eq g245.symm))))).other W253 (Or.inl (Nat.ne_of_lt (Nat.lt_of_lt_of_le Ea244.lt (Nat.le_of_eq g245.symm))))).other W256 (Or.inl (Nat.ne_of_lt (Nat.lt_of_lt_of_le Ea244.lt (Nat.le_of_eq g245.symm))))).ext E260).keep K265 (ninS (Nat.ne_of_lt (Nat.lt_of_lt_of_le (((((Ea244.ext E245).keep K248).wr W250).wr W253).wr W256).lt (Nat.le_of_eq g260.symm))) nin0))
    have f271 := (((((((Fca244.ext E245).keep K248 (ninS (Nat.ne_of_lt (Nat.lt_of_lt_of_le Ea244.lt (Nat.le_of_eq g245.symm))) nin0)).other W250 (Or.inl (Nat.ne_of_lt (Nat.lt_of_lt_of_le Ea244.lt (Nat.le_of_eq g245.symm))))).other W253 (Or.inl (Nat.ne_of_lt (Nat.lt_of_lt_of_le Ea244.lt (Nat.le_of_eq g245.symm))))).other W256 (Or.inl (Nat.ne_of_lt (Nat.lt_of_lt_of_le Ea244.lt (Nat.le_of_eq g245.symm))))).ext E260).keep K265 (ninS (Nat.ne_of_lt (Nat.lt_of_lt_of_le (((((Ea244.ext E245).keep K248).wr W250).wr W253).wr W256).lt (Nat.le_of_eq g260.symm))) nin0))
    have f272 := (f262.keep K265 (allS (Nat.le_trans (Nat.le_trans (Nat.le_trans (Nat.le_trans (Nat.le_trans f247 K248.1) (Keep.of_wr W250).1) (Keep.of_wr W253).1) (Keep.of_wr W256).1) (Nat.le_of_eq g260.symm)) all0))
    have f273 := (Nat.le_trans f264 K265.1)
    obtain ⟨_, _, ⟨T274, L274, k274, n274⟩, -, X274, S274, G274, ⟨Lc274, hQ274, l274, y274, z274, C274⟩, st274⟩ := callSS X265 hx (y := y_17) hown (mvT hZ (W 66 rfl)) (mvT hZ (W 67 rfl)) (mvT hZ (W 68 rfl)) (mvT hZ (W 69 rfl)) (by decide) (backOfSH (s := s) (vm0 := s.vm) (EL := consts_1) (W := 0) (rm_abL l Z a0 hw hEW [] b237 tx244 kx244 (own_txt q1 q2 q3 n101a) vx244 G1 G3 T265.heap n0 f273 O2 P5 f272 O4 rG3 OA OH OL f269 f271 f270 f268 hua244 hpa244 (own_badj (by omega)) (by rw [own_txt_len]; omega) (by rw [own_txt_len]; exact hn101.1)) hZ (W 69 rfl) (W 68 rfl) (by decide) (by decide) hEW CH265) (g := (mkF m 82 #[.val (.int p0), .val (.long q1), .second, .val (.long q2), .second, .val (.long q3), .second, .val (.ref b101), .val (.ref b237), .val (.ref b245), .val (.ref b260), .unset] [(.ref b237)])) rfl (by rw [hml]; rfl) (argsL := [(.ref b237)]) (rest := []) (lenOf pdo_42 rfl) rfl (Nat.le_of_eq rfl) (hb hby at_82) (fun _ _ => ⟨rfl, rfl, (by decide : 8 + 12 ≤ _), (by decide : 586 + 1884 ≤ _)⟩)
    dsimp only [Pt.U, Pt.locs, Pt.cells, Pt.slots] at X274 l274 y274 z274 st274 hQ274 S274 G274 C274
    subst l274 y274 z274
    have G274a : T265.heap.size ≤ T274.heap.size := by first | exact G274 | (rw [← rfl]; exact G274)
    obtain ⟨X274, SI274, Z274, O274⟩ := rebS SI0 SK265 X274 S274 G274a hZ hown
    have SK274 : T274.heap.size ≤ T274.heap.size := Nat.le_refl _
    obtain ⟨a274, rfl, Nq274, K274, U274q⟩ := hQ274
    have N274 := Fr.app N265 Nq274
    have pq275 : own_go pP e below A0 (T274.setTop (mkF m 85 #[.val (.int p0), .val (.long q1), .second, .val (.long q2), .second, .val (.long q3), .second, .val (.ref b101), .val (.ref b237), .val (.ref b245), .val (.ref b260), .unset] [(.ref a274)])) := by
      intro τ κ
      refine pq266 τ ?_
      refine XS.astore X265.here hx rfl (hb hby at_78) rfl rfl (l' := #[.val (.int p0), .val (.long q1), .second, .val (.long q2), .second, .val (.long q3), .second, .val (.ref b101), .val (.ref b237), .val (.ref b245), .val (.ref b260), .unset]) rfl ?_
      refine XS.aload X265.here hx rfl (hb hby at_80) rfl rfl ?_
      refine st274.trans ?_
      exact κ
    have KC274 := KC265.trans K274 all0
    have CH274 := C274.1
    have CR274 := CHr.trans CR265 C274
    rw [own_tktxt (by omega)] at U274q
    obtain ⟨tx276, kx276, Ea276, Fva276, Fca276, vx276, Va276, hua276, hpa276⟩ := U274q
    have f277 := (((((((((f240.keep K242 (ninS (Nat.ne_of_lt (Nat.lt_of_lt_of_le Vt235.lt (Nat.le_of_eq g237.symm))) nin0)).ext E245).keep K248 (ninS (Nat.ne_of_lt (Nat.lt_of_lt_of_le (f240.keep K242 (ninS (Nat.ne_of_lt (Nat.lt_of_lt_of_le Vt235.lt (Nat.le_of_eq g237.symm))) nin0)).lt (Nat.le_of_eq g245.symm))) nin0)).other W250 (Nat.ne_of_lt (Nat.lt_of_lt_of_le (f240.keep K242 (ninS (Nat.ne_of_lt (Nat.lt_of_lt_of_le Vt235.lt (Nat.le_of_eq g237.symm))) nin0)).lt (Nat.le_of_eq g245.symm)))).other W253 (Nat.ne_of_lt (Nat.lt_of_lt_of_le (f240.keep K242 (ninS (Nat.ne_of_lt (Nat.lt_of_lt_of_le Vt235.lt (Nat.le_of_eq g237.symm))) nin0)).lt (Nat.le_of_eq g245.symm)))).other W256 (Nat.ne_of_lt (Nat.lt_of_lt_of_le (f240.keep K242 (ninS (Nat.ne_of_lt (Nat.lt_of_lt_of_le Vt235.lt (Nat.le_of_eq g237.symm))) nin0)).lt (Nat.le_of_eq g245.symm)))).ext E260).keep K265 (ninS (Nat.ne_of_lt (Nat.lt_of_lt_of_le ((((((f240.keep K242 (ninS (Nat.ne_of_lt (Nat.lt_of_lt_of_le Vt235.lt (Nat.le_of_eq g237.symm))) nin0)).ext E245).keep K248 (ninS (Nat.ne_of_lt (Nat.lt_of_lt_of_le (f240.keep K242 (ninS (Nat.ne_of_lt (Nat.lt_of_lt_of_le Vt235.lt (Nat.le_of_eq g237.symm))) nin0)).lt (Nat.le_of_eq g245.symm))) nin0)).other W250 (Nat.ne_of_lt (Nat.lt_of_lt_of_le (f240.keep K242 (ninS (Nat.ne_of_lt (Nat.lt_of_lt_of_le Vt235.lt (Nat.le_of_eq g237.symm))) nin0)).lt (Nat.le_of_eq g245.symm)))).other W253 (Nat.ne_of_lt (Nat.lt_of_lt_of_le (f240.keep K242 (ninS (Nat.ne_of_lt (Nat.lt_of_lt_of_le Vt235.lt (Nat.le_of_eq g237.symm))) nin0)).lt (Nat.le_of_eq g245.symm)))).other W256 (Nat.ne_of_lt (Nat.lt_of_lt_of_le (f240.keep K242 (ninS (Nat.ne_of_lt (Nat.lt_of_lt_of_le Vt235.lt (Nat.le_of_eq g237.symm))) nin0)).lt (Nat.le_of_eq g245.symm)))).lt (Nat.le_of_eq g260.symm))) nin0)).keep K274 nin0)
    obtain ⟨cl278, Ar278, q278, S278, M278, Hs278, G278⟩ := id f277
    have f279 := (f272.keep K274 all0)
    have f280 := (Ea267.keep K274)
    have f281 := (Fca267.keep K274 nin0)
    have f282 := (Fva267.keep K274 nin0)
    have f283 := (Va267.keep K274 nin0)
    have f284 := (Nat.le_trans f273 K274.1)
    obtain ⟨cq286, kq286, q286a, q286b, q286c⟩ := isOf Z274 rfl f280
    obtain ⟨_, _, ⟨T285, L285, k285, n285⟩, -, X285, ⟨Lc285, hQ285, l285, y285, z285⟩, st285⟩ := X274.virtualBack hx (y := y_56) (z := y_56) O274 (mvT Z274 (W 80 rfl)) (mvT Z274 (W 81 rfl)) (notFace_of_selects (args := #[]) (mvT Z274 (W 83 rfl))) (mvT Z274 (W 83 rfl)) (mvT Z274 (W 82 rfl)) (by decide) (backOf (W := 0) (rm_equ l Z a0 hw [] b260 a274 tx267 tx276 kx267 kx276 (own_txt q1 q2 q3 40 ++ ([(46 : Int32), (46 : Int32), (46 : Int32)] : List Int32)) vx267 vx276 G1 T274.heap n0 f284 O2 P5 f279 f280 f281 f282 Ea276 Fca276 Fva276 f283 Va276 hua267 hua276 (by rw [List.length_append, own_txt_len]; decide)) Z274 (W 84 rfl) (W 13 rfl) (by decide) (by decide)) q286a q286c (g := (mkF m 107 #[.val (.int p0), .val (.long q1), .second, .val (.long q2), .second, .val (.long q3), .second, .val (.ref b101), .val (.ref b237), .val (.ref b245), .val (.ref b260), .val (.ref a274)] [(.ref a274), (.ref b260)])) rfl (by rw [hml]; rfl) (Steps.refl _) (argsL := [(.ref a274)]) (rest := []) (lenOf pdo_43 rfl) rfl (Nat.le_of_eq rfl) (hb hby at_107) (fun _ _ => ⟨rfl, rfl, (by decide : 20 + 0 ≤ _), (by decide : 2470 + 0 ≤ _)⟩)
    dsimp only [Pt.U, Pt.locs, Pt.cells, Pt.slots] at X285 l285 y285 z285 st285 hQ285
    subst l285 y285 z285
    obtain ⟨rfl, Nq285, eq285⟩ := hQ285
    have N285 := Fr.app N274 Nq285
    have pq287 : own_go pP e below A0 (T285.setTop (mkF m 110 #[.val (.int p0), .val (.long q1), .second, .val (.long q2), .second, .val (.long q3), .second, .val (.ref b101), .val (.ref b237), .val (.ref b245), .val (.ref b260), .val (.ref a274)] [(.int (1 : Int32))])) := by
      intro τ κ
      refine pq275 τ ?_
      refine XS.astore X274.here hx rfl (hb hby at_85) rfl rfl (l' := #[.val (.int p0), .val (.long q1), .second, .val (.long q2), .second, .val (.long q3), .second, .val (.ref b101), .val (.ref b237), .val (.ref b245), .val (.ref b260), .val (.ref a274)]) rfl ?_
      refine XS.aload X274.here hx rfl (hb hby at_87) rfl rfl ?_
      refine X274.arraylength hx Ar278.1 (State.isArrayOf_alike Z274.alike Ar278.2.1) (g := (mkF m 89 #[.val (.int p0), .val (.long q1), .second, .val (.long q2), .second, .val (.long q3), .second, .val (.ref b101), .val (.ref b237), .val (.ref b245), .val (.ref b260), .val (.ref a274)] [(.ref b101)])) rfl rfl (hb hby at_89) _ ?_
      rw [len_of S278 M278]
      refine XS.bipush X274.here hx rfl (hb hby at_90) ?_
      refine XS.icmpYes X274.here hx rfl (pc0 := 92) (pc' := 103) rfl (hb hby at_92) rfl (tlt (own_gt40 (by rw [own_txt_len]; omega) (by rw [own_txt_len]; omega))).2.2.1 (by decide) (by decide) ?_
      refine XS.aload X274.here hx rfl (hb hby at_103) rfl rfl ?_
      refine XS.aload X274.here hx rfl (hb hby at_105) rfl rfl ?_
      refine st285.trans ?_
      exact κ
    have SKe := Nat.le_trans SK274 (Nat.le_of_eq (congrArg (fun z : Heap => Array.size z) (Eq.symm eq285)))
    obtain ⟨fs, hrE, hrun, hended, hEnd⟩ := X285.leaveW SI274 SKe (v := some (.int (1 : Int32))) (fun h => by rw [Bd.returns] at h; cases h)
    have CHe := CHr.trans CR274 (CHv.at X285 Z274 hEW CH274)
    have pqE := pq287
    rw [hA0] at pqE
    refine ⟨_, _, pqE _ ?_, hrun, hended, _, _, rfl, ?_, ?_, hEnd.1, hEnd.2.1, hEnd.2.2.1, hEnd.2.2.2.mono (by decide) (by decide)⟩
    · show Steps pP.tables e below (T285.setTop (mkF m 110 #[.val (.int p0), .val (.long q1), .second, .val (.long q2), .second, .val (.long q3), .second, .val (.ref b101), .val (.ref b237), .val (.ref b245), .val (.ref b260), .val (.ref a274)] [(.int (1 : Int32))])) _
      exact retN X285 hx (t := .boolean) Bd.returns (by simp) (hb hby at_110) hrE
    · show Q_law n0 _ T285.heap _
      rw [eq285]
      exact ⟨rfl, N285⟩
    · show CHr Z consts_1 s.vm s.heap T285.vm T285.heap
      first | (rw [hh, eq285]; exact CHe) | (rw [hh]; exact CHe)
set_option maxRecDepth 65536 in
set_option maxHeartbeats 3000000 in
theorem comes_1 {Post : Tables → Env → Array Value → State → Outcome → State → Prop} (hpost : ∀ tb e args s v u, (limb_1_1.after args s (.returned v) u = true ∧ limb_1_2.after args s (.returned v) u = true ∧ True) → ReturnedEndW s (.returned v) u (Jvm.fieldLocs frame_1_writes args s ++ Jvm.arrayLocs frame_1_arrays args s ++ Jvm.staticLocs frame_1_statics s) 48 3904 → Post tb e args s (.returned v) u) :
    ArmFor flags0 classFile x code maxLocals ret World_1 tables_1 room_1 Calls_1 rest_1 Pre_1 Post := by
  intro l hfl _ _ p e ha hc hk s m args below hf hA hF happ hP
  obtain ⟨hcalls, hrest, hpre⟩ := hP
  obtain ⟨-, -, -, hnamed, -, -, -, hat⟩ := (Spec.applies_iff hf).mp happ
  obtain ⟨hg, hn⟩ := and_e (Cond.before_iff.mp (show (Jvm.Cond.and given_1 narrow_1).before args s = true from hpre))
  obtain ⟨gc, g0⟩ := and_e hg
  obtain ⟨ga0, g1⟩ := and_e g0
  obtain ⟨ga1, g2⟩ := and_e g1
  obtain ⟨ga2, g3⟩ := and_e g2
  obtain ⟨w0, w1, w2, w3, rfl⟩ : ∃ w0 w1 w2 w3 : Value, args = #[w0, w1, w2, w3] := by
    have hs : args.size = 4 := by simpa [Cond.value, given_1] using gc
    obtain ⟨L⟩ := args
    match L, hs with
    | [w0, w1, w2, w3], _ => exact ⟨w0, w1, w2, w3, rfl⟩
  have hw := fun d (hd : d ∈ tables_1) => atoms_spec (ws := Jvm.Cond.code x code maxLocals ret :: tables_1) hat d (List.mem_cons_of_mem _ hd)
  have hfit : Fit s := fun {y c} hc i hi => by
    obtain ⟨ha, rfl⟩ := Array.getElem?_eq_some_iff.mp hc
    have q := List.all_eq_true.mp ((Array.all_eq_true_iff_forall_mem.mp hF) _ (Array.getElem_mem ha)) i (List.mem_range.mpr hi)
    simpa [Array.getElem?_eq_getElem hi] using q
  obtain ⟨hsets, hown0⟩ := atoms_of _ (rest_1_c_eq ▸ (show rest_1_c.before _ s = true from hrest))
  have hr0 := Cond.before_iff.mp hown0
  have nz := not_v (Cond.before_iff.mp (hsets _ (List.mem_of_getElem? (i := 2) rfl)))
  obtain ⟨G1, eG1⟩ := is_v (Cond.before_iff.mp (hsets _ (List.mem_of_getElem? (i := 1) rfl)))
  have O2 : Sta s s.heap "java/lang/String" "COMPACT_STRINGS" "Z" (.int G1) := Sta.start eG1 (Or.inl (hsets _ (List.mem_of_getElem? (i := 0) rfl)))
  have P5 : ¬ (G1 = (0 : Int32)) := gotF (Cond.eq_ints eG1 (Term.int_eval (0))) nz
  obtain ⟨G3, eG3, rG3⟩ := isR_v (Cond.before_iff.mp (hsets _ (List.mem_of_getElem? (i := 8) rfl)))
  have O4 : Sta s s.heap "jdk/internal/util/Preconditions" "SIOOBE_FORMATTER" "Ljava/util/function/BiFunction;" G3 := Sta.start eG3 (Or.inl (hsets _ (List.mem_of_getElem? (i := 7) rfl)))
  obtain ⟨ar0, ear0⟩ := is_v ga0
  obtain rfl : w0 = (.int ar0) := Option.some.inj ear0
  obtain ⟨ar1, ear1⟩ := isL_v ga1
  obtain rfl : w1 = (.long ar1) := Option.some.inj ear1
  obtain ⟨ar2, ear2⟩ := isL_v ga2
  obtain rfl : w2 = (.long ar2) := Option.some.inj ear2
  obtain ⟨ar3, ear3⟩ := isL_v g3
  obtain rfl : w3 = (.long ar3) := Option.some.inj ear3
  have OA : Sta s s.heap "java/lang/StringUTF16" "$assertionsDisabled" "Z" (.int 1) := Sta.start (Cond.eq_int (hsets _ (List.mem_of_getElem? (i := 12) rfl)) rfl) (Or.inl (hsets _ (List.mem_of_getElem? (i := 11) rfl)))
  have OH : Sta s s.heap "java/lang/StringUTF16" "HI_BYTE_SHIFT" "I" (.int 0) := Sta.start (Cond.eq_int (hsets _ (List.mem_of_getElem? (i := 15) rfl)) rfl) (Or.inl (hsets _ (List.mem_of_getElem? (i := 14) rfl)))
  have OL : Sta s s.heap "java/lang/StringUTF16" "LO_BYTE_SHIFT" "I" (.int 8) := Sta.start (Cond.eq_int (hsets _ (List.mem_of_getElem? (i := 18) rfl)) rfl) (Or.inl (hsets _ (List.mem_of_getElem? (i := 17) rfl)))
  have hEW : EW s _ consts_1 := (EW.cons (hw _ (List.mem_of_getElem? (i := 237) rfl)) (by decide) (EW.cons (hw _ (List.mem_of_getElem? (i := 24) rfl)) (by decide) EW.nil))
  have hCH : CHv s consts_1 s.vm s.heap := CHv.start hEW (fun p hp => hcalls.1 p hp) (hsets _ (List.mem_of_getElem? (i := 2) rfl)) (hw _ (List.mem_of_getElem? (i := 25) rfl)) (hw _ (List.mem_of_getElem? (i := 12) rfl))
  obtain ⟨n, o, h1, h2, h3, _, L, rfl, ⟨rfl, N⟩, hC, hq⟩ := rm_law l s _ hw hEW tables_1 ar0 ar1 ar2 ar3 G1 G3 s.heap s.heap.size (Nat.le_refl _) O2 P5 (Old.start s) O4 rG3 OA OH OL p e ha hc hk s m _ below hf ((Spec.applies_iff_loose hf).mp happ).1 ⟨rfl, State.Warmed39.refl s, rfl, hCH⟩ trivial
  refine ⟨n, _, h1, h2, h3, hpost _ _ _ _ _ _ ⟨Cond.after_iff.mpr rfl, Cond.after_iff.mpr (eq_i res_at (Term.int_eval (1)) rfl), trivial⟩ ⟨hq.1, hq.2.1, hq.2.2.1, (hq.2.2.2.sift fun y hy => Or.inr (N y hy)).mono (by decide) (by decide)⟩⟩
theorem main_1_1 : Claimed_1_1 := comes_1 fun _ _ _ _ _ _ h hF => ⟨h.1, hF⟩
theorem main_1_2 : Claimed_1_2 := comes_1 fun _ _ _ _ _ _ h hF => ⟨h.2.1, hF⟩
end Jvm.Pilot.@@N@@
namespace Jvm.Pilot.@@N@@
open Jvm Jvm.ClassFile Sem Op Lib Jvm.Free Jvm.Stand Jvm.Pilot.@@N@@.Jvm.D
/-! MADE BY PROGRAM (witnessworld.py) out of the Statement's table words and the real class files: 26 classes; the members and pool entries that the words name. The judged class is class 1, her method 1. -/
namespace start1
open Jvm.ClassFile
def u (s : String) : CpInfo := .utf8 (stringToUtf16 s)
/-- a pool by its gaps: so many unusable entries, then the entry; so many at the end -/
def gap : Nat → List CpInfo → List CpInfo
  | 0, r => r
  | n + 1, r => .unusable :: gap n r
def poolList (es : List (Nat × CpInfo)) (last : Nat) : List CpInfo := es.foldr (fun e r => gap e.1 (e.2 :: r)) (gap last [])
def pool (es : List (Nat × CpInfo)) (last : Nat) : Array CpInfo := ⟨poolList es last⟩
def fileOf (pool : Array CpInfo) (this : Nat) (attrs : Array Attribute := #[]) (ms : Array MethodInfo := #[]) (fl : Nat := 33) (sup : Nat := 0) (ifs : Array Nat := #[]) (fds : Array FieldInfo := #[]) : ClassFile where
  minorVersion := 0
  majorVersion := 65
  constantPool := pool
  accessFlags := fl
  thisClass := this
  superClass := sup
  interfaces := ifs
  fields := fds
  methods := ms
  attributes := attrs
def plain (name : String) (sup : Option ClassId) : Class where
  name := name
  kind := .ordinary
  loader := none
  accessFlags := 33
  super := sup
  interfaces := #[]
  cf := none
  fields := #[]
  methods := #[]
  instanceTypes := #[]
  staticTypes := #[]
  resolved := #[]
  callSites := []
  init := .initialized
  statics := none
  mirror := none

def pool0 : Array CpInfo := pool [(5, u "<init>"), (0, u "()V"), (1, .class_ 10), (1, u "java/lang/Object")] 113

def k0c0 : Code := { maxStack := 0, maxLocals := 1, code := object_method_1_code, exceptionTable := #[], attributes := #[] }
def k0m0 : Method := { name := "<init>", desc := "()V", sig := { parameters := [], returnType := none }, accessFlags := 1, code := some k0c0 }
/-- java/lang/Object -/
def k0 : Class := { plain "java/lang/Object" none with
  accessFlags := 33
  interfaces := #[]
  cf := some (fileOf pool0 8 #[] #[{ accessFlags := 1, nameIndex := 5, descriptorIndex := 6, attributes := #[] }] 33 0 #[] #[])
  fields := #[]
  methods := #[k0m0]
  instanceTypes := #[]
  staticTypes := #[]
  resolved := Array.replicate 124 none
  statics := none }

def pool1 : Array CpInfo := pool [(2, .class_ 4), (1, u "java/lang/Object"), (0, u "<init>"), (0, u "()V"), (0, .methodref 8 9), (0, .class_ 10), (0, .nameAndType 11 12), (0, u "com/example/stateful_search/statefulsearch/format/ExcerptsAbbreviatePinLaw"), (0, u "mk"), (0, u "(I)[C"), (0, .methodref 8 14), (0, .nameAndType 15 16), (0, u "fill"), (0, u "([CJJJI)V"), (0, .class_ 18), (0, u "java/lang/String"), (0, .methodref 17 20), (0, .nameAndType 5 21), (0, u "([C)V"), (0, .methodref 23 24), (0, .class_ 25), (0, .nameAndType 26 27), (0, u "com/example/stateful_search/statefulsearch/format/Excerpts"), (0, u "abbreviate"), (0, u "(Ljava/lang/String;)Ljava/lang/String;"), (0, .methodref 17 29), (0, .nameAndType 30 31), (0, u "equals"), (0, u "(Ljava/lang/Object;)Z"), (0, .integer 40503), (0, .methodref 8 34), (0, .nameAndType 35 36), (0, u "ch"), (0, u "(JJJI)C"), (0, .methodref 8 38), (0, .nameAndType 39 40), (0, u "put"), (0, u "([CIJJJI)V"), (2, u "law"), (0, u "(IJJJ)Z")] 5

def k1m0 : Method := { name := "<init>", desc := "()V", sig := { parameters := [], returnType := none }, accessFlags := 2, code := none }
def k1c1 : Code := { maxStack := 8, maxLocals := 12, code := code, exceptionTable := #[], attributes := #[] }
def k1m1 : Method := { name := "law", desc := "(IJJJ)Z", sig := { parameters := [.int, .long, .long, .long], returnType := some .boolean }, accessFlags := 9, code := some k1c1 }
def k1c2 : Code := { maxStack := 2, maxLocals := 1, code := method_3_code, exceptionTable := #[], attributes := #[] }
def k1m2 : Method := { name := "mk", desc := "(I)[C", sig := { parameters := [.int], returnType := some (.array .char) }, accessFlags := 10, code := some k1c2 }
def k1c3 : Code := { maxStack := 4, maxLocals := 11, code := method_4_code, exceptionTable := #[], attributes := #[] }
def k1m3 : Method := { name := "ch", desc := "(JJJI)C", sig := { parameters := [.long, .long, .long, .int], returnType := some .char }, accessFlags := 10, code := some k1c3 }
def k1c4 : Code := { maxStack := 9, maxLocals := 9, code := method_5_code, exceptionTable := #[], attributes := #[] }
def k1m4 : Method := { name := "put", desc := "([CIJJJI)V", sig := { parameters := [(.array .char), .int, .long, .long, .long, .int], returnType := none }, accessFlags := 10, code := some k1c4 }
def k1c5 : Code := { maxStack := 9, maxLocals := 8, code := method_6_code, exceptionTable := #[], attributes := #[] }
def k1m5 : Method := { name := "fill", desc := "([CJJJI)V", sig := { parameters := [(.array .char), .long, .long, .long, .int], returnType := none }, accessFlags := 10, code := some k1c5 }
/-- com/example/stateful_search/statefulsearch/format/ExcerptsAbbreviatePinLaw -/
def k1 : Class := { plain "com/example/stateful_search/statefulsearch/format/ExcerptsAbbreviatePinLaw" (some 0) with
  accessFlags := 49
  interfaces := #[]
  cf := some (fileOf pool1 8 #[] #[{ accessFlags := 2, nameIndex := 5, descriptorIndex := 6, attributes := #[] }, { accessFlags := 9, nameIndex := 43, descriptorIndex := 44, attributes := #[] }, { accessFlags := 10, nameIndex := 11, descriptorIndex := 12, attributes := #[] }, { accessFlags := 10, nameIndex := 35, descriptorIndex := 36, attributes := #[] }, { accessFlags := 10, nameIndex := 39, descriptorIndex := 40, attributes := #[] }, { accessFlags := 10, nameIndex := 15, descriptorIndex := 16, attributes := #[] }] 49 2 #[] #[])
  fields := #[]
  methods := #[k1m0, k1m1, k1m2, k1m3, k1m4, k1m5]
  instanceTypes := #[]
  staticTypes := #[]
  resolved := Array.replicate 50 none
  statics := none }

def pool2 : Array CpInfo := pool [(1, .class_ 2), (0, u "java/io/Serializable"), (0, .class_ 4), (0, u "java/lang/Object")] 2

/-- java/io/Serializable -/
def k2 : Class := { plain "java/io/Serializable" (some 0) with
  accessFlags := 1537
  interfaces := #[]
  cf := some (fileOf pool2 1 #[] #[] 1537 3 #[] #[])
  fields := #[]
  methods := #[]
  instanceTypes := #[]
  staticTypes := #[]
  resolved := Array.replicate 7 none
  statics := none }

def pool3 : Array CpInfo := pool [(1, .class_ 2), (0, u "java/lang/Comparable"), (0, .class_ 4), (0, u "java/lang/Object")] 7

/-- java/lang/Comparable -/
def k3 : Class := { plain "java/lang/Comparable" (some 0) with
  accessFlags := 1537
  interfaces := #[]
  cf := some (fileOf pool3 1 #[] #[] 1537 3 #[] #[])
  fields := #[]
  methods := #[]
  instanceTypes := #[]
  staticTypes := #[]
  resolved := Array.replicate 12 none
  statics := none }

def pool4 : Array CpInfo := pool [(2, .class_ 4), (1, u "java/lang/CharSequence"), (42, .class_ 48), (0, u "java/lang/CharSequence$1CodePointIterator"), (10, .class_ 60), (0, u "java/lang/CharSequence$1CharIterator"), (5, .class_ 67), (0, u "java/lang/Object")] 63

/-- java/lang/CharSequence -/
def k4 : Class := { plain "java/lang/CharSequence" (some 0) with
  accessFlags := 1537
  interfaces := #[]
  cf := some (fileOf pool4 2 #[.nestMembers #[47, 59]] #[] 1537 66 #[] #[])
  fields := #[]
  methods := #[]
  instanceTypes := #[]
  staticTypes := #[]
  resolved := Array.replicate 131 none
  statics := none }

def pool5 : Array CpInfo := pool [(1, .class_ 2), (0, u "java/lang/constant/Constable"), (0, .class_ 4), (0, u "java/lang/Object")] 6

/-- java/lang/constant/Constable -/
def k5 : Class := { plain "java/lang/constant/Constable" (some 0) with
  accessFlags := 1537
  interfaces := #[]
  cf := some (fileOf pool5 1 #[] #[] 1537 3 #[] #[])
  fields := #[]
  methods := #[]
  instanceTypes := #[]
  staticTypes := #[]
  resolved := Array.replicate 11 none
  statics := none }

def pool6 : Array CpInfo := pool [(1, .class_ 2), (0, u "java/lang/constant/ConstantDesc"), (0, .class_ 4), (0, u "java/lang/Object")] 32

/-- java/lang/constant/ConstantDesc -/
def k6 : Class := { plain "java/lang/constant/ConstantDesc" (some 0) with
  accessFlags := 1537
  interfaces := #[]
  cf := some (fileOf pool6 1 #[] #[] 1537 3 #[] #[])
  fields := #[]
  methods := #[]
  instanceTypes := #[]
  staticTypes := #[]
  resolved := Array.replicate 37 none
  statics := none }

def pool7 : Array CpInfo := pool [(1, .methodref 2 3), (0, .class_ 4), (0, .nameAndType 5 6), (0, u "java/lang/Object"), (0, u "<init>"), (0, u "()V"), (0, .string 8), (0, u ""), (0, .fieldref 10 11), (0, .class_ 12), (0, .nameAndType 13 14), (0, u "java/lang/String"), (0, u "value"), (0, u "[B"), (0, .fieldref 10 16), (0, .nameAndType 17 18), (0, u "coder"), (0, u "B"), (2, u "hash"), (0, u "I"), (2, u "hashIsZero"), (0, u "Z"), (0, .methodref 10 28), (0, .nameAndType 5 29), (0, u "([CIILjava/lang/Void;)V"), (6, u "checkBoundsOffCount"), (0, u "(III)I"), (0, .fieldref 10 39), (0, .nameAndType 40 26), (0, u "COMPACT_STRINGS"), (1, .class_ 44), (1, u "java/lang/StringUTF16"), (0, u "compress"), (1, .methodref 42 48), (0, .nameAndType 49 50), (0, u "coderFromArrayLen"), (0, u "([BI)B"), (3, .methodref 55 56), (0, .class_ 57), (0, .nameAndType 58 59), (0, u "java/util/Arrays"), (0, u "copyOfRange"), (0, u "([BII)[B"), (46, .methodref 107 108), (0, .class_ 109), (0, .nameAndType 110 111), (0, u "java/lang/StringLatin1"), (0, u "inflate"), (0, u "([BI[BII)V"), (30, u "()Z"), (34, .methodref 42 178), (0, .nameAndType 45 179), (0, u "([CII)[B"), (13, .class_ 195), (1, u "java/lang/System"), (15, u "([BB)V"), (0, .methodref 193 213), (0, .nameAndType 214 215), (0, u "arraycopy"), (0, u "(Ljava/lang/Object;ILjava/lang/Object;II)V"), (118, u "()I"), (0, .methodref 10 336), (0, .nameAndType 17 337), (0, u "()B"), (2, u "()[B"), (148, .methodref 10 490), (0, .nameAndType 5 491), (0, u "(Ljava/lang/AbstractStringBuilder;Ljava/lang/Void;)V"), (0, .methodref 10 493), (0, .nameAndType 494 142), (0, u "isLatin1"), (10, .methodref 10 506), (0, .nameAndType 507 334), (0, u "length"), (5, u "checkFromToIndex"), (7, .methodref 10 522), (0, .nameAndType 523 524), (0, u "checkBoundsBeginEnd"), (0, u "(III)V"), (7, u "getBytes"), (8, .methodref 107 542), (0, .nameAndType 543 544), (0, u "equals"), (0, u "([B[B)Z"), (4, .methodref 550 506), (0, .class_ 551), (0, u "java/lang/AbstractStringBuilder"), (0, .methodref 550 553), (0, .nameAndType 554 340), (0, u "getValue"), (18, u "(Ljava/lang/Object;)Z"), (1, .class_ 576), (0, u "java/lang/CharSequence"), (22, u "CASE_INSENSITIVE_ORDER"), (0, u "Ljava/util/Comparator;"), (82, u "substring"), (0, u "(II)Ljava/lang/String;"), (1, .nameAndType 687 688), (0, u "newString"), (0, u "([BII)Ljava/lang/String;"), (0, .methodref 42 686), (131, u "([BIB)V"), (188, u "([C)V"), (36, .methodref 550 493), (0, .fieldref 550 1049), (0, .nameAndType 1050 26), (0, u "maybeLatin1"), (2, .fieldref 1054 1055), (0, .class_ 1056), (0, .nameAndType 1057 1058), (0, u "jdk/internal/util/Preconditions"), (0, u "SIOOBE_FORMATTER"), (0, u "Ljava/util/function/BiFunction;"), (3, .methodref 1054 1063), (0, .nameAndType 513 1064), (0, u "(IIILjava/util/function/BiFunction;)I"), (0, .methodref 1054 1066), (0, .nameAndType 1067 1064), (0, u "checkFromIndexSize"), (33, u "serialPersistentFields"), (0, u "[Ljava/io/ObjectStreamField;"), (0, .class_ 1104), (0, u "java/lang/String$CaseInsensitiveComparator"), (1, .class_ 1107), (0, u "java/io/Serializable"), (0, .class_ 1109), (0, u "java/lang/Comparable"), (0, .class_ 1111), (0, u "java/lang/constant/Constable"), (0, .class_ 1113), (0, u "java/lang/constant/ConstantDesc"), (2, u "serialVersionUID"), (0, u "J"), (3, u "REPL"), (0, u "C"), (2, u "LATIN1"), (1, u "UTF16"), (105, u "(Ljava/lang/StringBuilder;)V")] 217

def k7m0 : Method := { name := "<init>", desc := "()V", sig := { parameters := [], returnType := none }, accessFlags := 1, code := none }
def k7c1 : Code := { maxStack := 5, maxLocals := 2, code := jdk_42_method_3_code, exceptionTable := #[], attributes := #[] }
def k7m1 : Method := { name := "<init>", desc := "([C)V", sig := { parameters := [(.array .char)], returnType := none }, accessFlags := 1, code := some k7c1 }
def k7c2 : Code := { maxStack := 3, maxLocals := 2, code := jdk_42_method_53_code, exceptionTable := #[], attributes := #[] }
def k7m2 : Method := { name := "<init>", desc := "(Ljava/lang/StringBuilder;)V", sig := { parameters := [(.object "java/lang/StringBuilder")], returnType := none }, accessFlags := 1, code := some k7c2 }
def k7c3 : Code := { maxStack := 2, maxLocals := 1, code := jdk_42_method_54_code, exceptionTable := #[], attributes := #[] }
def k7m3 : Method := { name := "length", desc := "()I", sig := { parameters := [], returnType := some .int }, accessFlags := 1, code := some k7c3 }
def k7c4 : Code := { maxStack := 2, maxLocals := 3, code := jdk_42_method_66_code, exceptionTable := #[], attributes := #[] }
def k7m4 : Method := { name := "equals", desc := "(Ljava/lang/Object;)Z", sig := { parameters := [(.object "java/lang/Object")], returnType := some .boolean }, accessFlags := 1, code := some k7c4 }
def k7c5 : Code := { maxStack := 3, maxLocals := 5, code := jdk_42_method_92_code, exceptionTable := #[], attributes := #[] }
def k7m5 : Method := { name := "substring", desc := "(II)Ljava/lang/String;", sig := { parameters := [.int, .int], returnType := some (.object "java/lang/String") }, accessFlags := 1, code := some k7c5 }
def k7c6 : Code := { maxStack := 5, maxLocals := 4, code := jdk_42_method_147_code, exceptionTable := #[], attributes := #[] }
def k7m6 : Method := { name := "getBytes", desc := "([BIB)V", sig := { parameters := [(.array .byte), .int, .byte], returnType := none }, accessFlags := 0, code := some k7c6 }
def k7c7 : Code := { maxStack := 4, maxLocals := 6, code := jdk_42_method_149_code, exceptionTable := #[], attributes := #[] }
def k7m7 : Method := { name := "<init>", desc := "([CIILjava/lang/Void;)V", sig := { parameters := [(.array .char), .int, .int, (.object "java/lang/Void")], returnType := none }, accessFlags := 2, code := some k7c7 }
def k7c8 : Code := { maxStack := 5, maxLocals := 5, code := jdk_42_method_150_code, exceptionTable := #[], attributes := #[] }
def k7m8 : Method := { name := "<init>", desc := "(Ljava/lang/AbstractStringBuilder;Ljava/lang/Void;)V", sig := { parameters := [(.object "java/lang/AbstractStringBuilder"), (.object "java/lang/Void")], returnType := none }, accessFlags := 0, code := some k7c8 }
def k7c9 : Code := { maxStack := 2, maxLocals := 3, code := jdk_42_method_151_code, exceptionTable := #[], attributes := #[] }
def k7m9 : Method := { name := "<init>", desc := "([BB)V", sig := { parameters := [(.array .byte), .byte], returnType := none }, accessFlags := 0, code := some k7c9 }
def k7c10 : Code := { maxStack := 1, maxLocals := 1, code := jdk_42_method_152_code, exceptionTable := #[], attributes := #[] }
def k7m10 : Method := { name := "coder", desc := "()B", sig := { parameters := [], returnType := some .byte }, accessFlags := 0, code := some k7c10 }
def k7c11 : Code := { maxStack := 1, maxLocals := 1, code := jdk_42_method_154_code, exceptionTable := #[], attributes := #[] }
def k7m11 : Method := { name := "isLatin1", desc := "()Z", sig := { parameters := [], returnType := some .boolean }, accessFlags := 0, code := some k7c11 }
def k7c12 : Code := { maxStack := 4, maxLocals := 3, code := jdk_42_method_157_code, exceptionTable := #[], attributes := #[] }
def k7m12 : Method := { name := "checkBoundsOffCount", desc := "(III)I", sig := { parameters := [.int, .int, .int], returnType := some .int }, accessFlags := 8, code := some k7c12 }
def k7c13 : Code := { maxStack := 4, maxLocals := 3, code := jdk_42_method_158_code, exceptionTable := #[], attributes := #[] }
def k7m13 : Method := { name := "checkBoundsBeginEnd", desc := "(III)V", sig := { parameters := [.int, .int, .int], returnType := none }, accessFlags := 8, code := some k7c13 }
/-- java/lang/String -/
def k7 : Class := { plain "java/lang/String" (some 0) with
  accessFlags := 49
  interfaces := #[2, 3, 4, 5, 6]
  cf := some (fileOf pool7 10 #[.nestMembers #[1103]] #[{ accessFlags := 1, nameIndex := 5, descriptorIndex := 6, attributes := #[] }, { accessFlags := 1, nameIndex := 5, descriptorIndex := 1010, attributes := #[] }, { accessFlags := 1, nameIndex := 5, descriptorIndex := 1233, attributes := #[] }, { accessFlags := 1, nameIndex := 507, descriptorIndex := 334, attributes := #[] }, { accessFlags := 1, nameIndex := 543, descriptorIndex := 573, attributes := #[] }, { accessFlags := 1, nameIndex := 683, descriptorIndex := 684, attributes := #[] }, { accessFlags := 0, nameIndex := 532, descriptorIndex := 821, attributes := #[] }, { accessFlags := 2, nameIndex := 5, descriptorIndex := 29, attributes := #[] }, { accessFlags := 0, nameIndex := 5, descriptorIndex := 491, attributes := #[] }, { accessFlags := 0, nameIndex := 5, descriptorIndex := 211, attributes := #[] }, { accessFlags := 0, nameIndex := 17, descriptorIndex := 337, attributes := #[] }, { accessFlags := 0, nameIndex := 494, descriptorIndex := 142, attributes := #[] }, { accessFlags := 8, nameIndex := 36, descriptorIndex := 37, attributes := #[] }, { accessFlags := 8, nameIndex := 523, descriptorIndex := 524, attributes := #[] }] 49 2 #[1106, 1108, 575, 1110, 1112] #[{ accessFlags := 18, nameIndex := 13, descriptorIndex := 14, attributes := #[] }, { accessFlags := 18, nameIndex := 17, descriptorIndex := 18, attributes := #[] }, { accessFlags := 2, nameIndex := 21, descriptorIndex := 22, attributes := #[] }, { accessFlags := 2, nameIndex := 25, descriptorIndex := 26, attributes := #[] }, { accessFlags := 26, nameIndex := 1116, descriptorIndex := 1117, attributes := #[] }, { accessFlags := 24, nameIndex := 40, descriptorIndex := 26, attributes := #[] }, { accessFlags := 26, nameIndex := 1101, descriptorIndex := 1102, attributes := #[] }, { accessFlags := 26, nameIndex := 1121, descriptorIndex := 1122, attributes := #[] }, { accessFlags := 25, nameIndex := 599, descriptorIndex := 600, attributes := #[] }, { accessFlags := 24, nameIndex := 1125, descriptorIndex := 18, attributes := #[] }, { accessFlags := 24, nameIndex := 1127, descriptorIndex := 18, attributes := #[] }])
  fields := #[{ name := "value", type := (.array .byte), accessFlags := 18, slot := 0, constantValue := 0 }, { name := "coder", type := .byte, accessFlags := 18, slot := 1, constantValue := 0 }, { name := "hash", type := .int, accessFlags := 2, slot := 2, constantValue := 0 }, { name := "hashIsZero", type := .boolean, accessFlags := 2, slot := 3, constantValue := 0 }, { name := "serialVersionUID", type := .long, accessFlags := 26, slot := 0, constantValue := 0 }, { name := "COMPACT_STRINGS", type := .boolean, accessFlags := 24, slot := 1, constantValue := 0 }, { name := "serialPersistentFields", type := (.array (.object "java/io/ObjectStreamField")), accessFlags := 26, slot := 2, constantValue := 0 }, { name := "REPL", type := .char, accessFlags := 26, slot := 3, constantValue := 0 }, { name := "CASE_INSENSITIVE_ORDER", type := (.object "java/util/Comparator"), accessFlags := 25, slot := 4, constantValue := 0 }, { name := "LATIN1", type := .byte, accessFlags := 24, slot := 5, constantValue := 0 }, { name := "UTF16", type := .byte, accessFlags := 24, slot := 6, constantValue := 0 }]
  methods := #[k7m0, k7m1, k7m2, k7m3, k7m4, k7m5, k7m6, k7m7, k7m8, k7m9, k7m10, k7m11, k7m12, k7m13]
  instanceTypes := #[(.array .byte), .byte, .int, .boolean]
  staticTypes := #[.long, .boolean, (.array (.object "java/io/ObjectStreamField")), .char, (.object "java/util/Comparator"), .byte, .byte]
  resolved := Array.replicate 1451 none
  statics := some 0 }

def pool8 : Array CpInfo := pool [(3, .class_ 4), (0, u "java/lang/String"), (1, .class_ 8), (1, u "java/lang/Object"), (0, u "<init>"), (0, u "()V"), (0, .methodref 12 13), (0, .class_ 14), (0, .nameAndType 15 16), (0, u "java/lang/StringUTF16"), (0, u "newBytesLength"), (0, u "(I)I"), (3, .integer 1073741823), (23, .fieldref 12 45), (0, .nameAndType 46 47), (0, u "$assertionsDisabled"), (0, u "Z"), (0, .methodref 12 49), (0, .nameAndType 50 51), (0, u "length"), (0, u "([B)I"), (7, .fieldref 12 60), (0, .nameAndType 61 62), (0, u "HI_BYTE_SHIFT"), (0, u "I"), (0, .fieldref 12 64), (0, .nameAndType 65 62), (0, u "LO_BYTE_SHIFT"), (5, .methodref 12 72), (0, .nameAndType 73 74), (0, u "getChar"), (0, u "([BI)C"), (24, u "(II[B)V"), (7, .methodref 12 108), (0, .nameAndType 109 110), (0, u "newBytesFor"), (0, u "(I)[B"), (0, .methodref 12 112), (0, .nameAndType 113 114), (0, u "putChar"), (0, u "([BII)V"), (0, .methodref 12 116), (0, .nameAndType 117 118), (0, u "compress"), (0, u "([CI[BII)I"), (0, .methodref 12 120), (0, .nameAndType 121 122), (0, u "toBytes"), (0, u "([CII)[B"), (0, .methodref 12 124), (0, .nameAndType 117 125), (0, u "([BI[BII)I"), (0, .methodref 127 128), (0, .class_ 129), (0, .nameAndType 130 131), (0, u "java/util/Arrays"), (0, u "copyOfRange"), (0, u "([BII)[B"), (8, u "inflate"), (0, u "([BI[BII)V"), (31, .methodref 12 174), (0, .nameAndType 175 99), (0, u "checkBoundsOffCount"), (75, .fieldref 3 252), (0, .nameAndType 253 47), (0, u "COMPACT_STRINGS"), (3, .methodref 12 258), (0, .nameAndType 117 131), (0, .methodref 12 260), (0, .nameAndType 261 262), (0, u "coderFromArrayLen"), (0, u "([BI)B"), (0, .methodref 3 264), (0, .nameAndType 9 265), (0, u "([BB)V"), (15, u "(III)I"), (45, u "newString"), (0, u "([BII)Ljava/lang/String;"), (40, .class_ 371), (1, u "java/lang/StringUTF16$LinesSpliterator"), (47, .methodref 3 420), (0, .nameAndType 175 281), (9, u "MAX_LENGTH"), (196, .class_ 628), (0, u "java/lang/StringUTF16$CodePointsSpliterator"), (0, .class_ 630), (0, u "java/lang/StringUTF16$CharsSpliterator")] 4

def k8m0 : Method := { name := "<init>", desc := "()V", sig := { parameters := [], returnType := none }, accessFlags := 0, code := none }
def k8c1 : Code := { maxStack := 1, maxLocals := 1, code := jdk_52_method_2_code, exceptionTable := #[], attributes := #[] }
def k8m1 : Method := { name := "newBytesFor", desc := "(I)[B", sig := { parameters := [.int], returnType := some (.array .byte) }, accessFlags := 9, code := some k8c1 }
def k8c2 : Code := { maxStack := 4, maxLocals := 1, code := jdk_52_method_3_code, exceptionTable := #[], attributes := #[] }
def k8m2 : Method := { name := "newBytesLength", desc := "(I)I", sig := { parameters := [.int], returnType := some .int }, accessFlags := 9, code := some k8c2 }
def k8c3 : Code := { maxStack := 4, maxLocals := 3, code := jdk_52_method_4_code, exceptionTable := #[], attributes := #[] }
def k8m3 : Method := { name := "putChar", desc := "([BII)V", sig := { parameters := [(.array .byte), .int, .int], returnType := none }, accessFlags := 8, code := some k8c3 }
def k8c4 : Code := { maxStack := 3, maxLocals := 2, code := jdk_52_method_5_code, exceptionTable := #[], attributes := #[] }
def k8m4 : Method := { name := "getChar", desc := "([BI)C", sig := { parameters := [(.array .byte), .int], returnType := some .char }, accessFlags := 8, code := some k8c4 }
def k8c5 : Code := { maxStack := 2, maxLocals := 1, code := jdk_52_method_6_code, exceptionTable := #[], attributes := #[] }
def k8m5 : Method := { name := "length", desc := "([B)I", sig := { parameters := [(.array .byte)], returnType := some .int }, accessFlags := 9, code := some k8c5 }
def k8c6 : Code := { maxStack := 4, maxLocals := 5, code := jdk_52_method_14_code, exceptionTable := #[], attributes := #[] }
def k8m6 : Method := { name := "toBytes", desc := "([CII)[B", sig := { parameters := [(.array .char), .int, .int], returnType := some (.array .byte) }, accessFlags := 9, code := some k8c6 }
def k8c7 : Code := { maxStack := 2, maxLocals := 2, code := jdk_52_method_15_code, exceptionTable := #[], attributes := #[] }
def k8m7 : Method := { name := "coderFromArrayLen", desc := "([BI)B", sig := { parameters := [(.array .byte), .int], returnType := some .byte }, accessFlags := 8, code := some k8c7 }
def k8c8 : Code := { maxStack := 5, maxLocals := 6, code := jdk_52_method_16_code, exceptionTable := #[], attributes := #[] }
def k8m8 : Method := { name := "compress", desc := "([CII)[B", sig := { parameters := [(.array .char), .int, .int], returnType := some (.array .byte) }, accessFlags := 9, code := some k8c8 }
def k8c9 : Code := { maxStack := 5, maxLocals := 6, code := jdk_52_method_17_code, exceptionTable := #[], attributes := #[] }
def k8m9 : Method := { name := "compress", desc := "([BII)[B", sig := { parameters := [(.array .byte), .int, .int], returnType := some (.array .byte) }, accessFlags := 9, code := some k8c9 }
def k8c10 : Code := { maxStack := 3, maxLocals := 7, code := jdk_52_method_21_code, exceptionTable := #[], attributes := #[] }
def k8m10 : Method := { name := "compress", desc := "([CI[BII)I", sig := { parameters := [(.array .char), .int, (.array .byte), .int, .int], returnType := some .int }, accessFlags := 9, code := some k8c10 }
def k8c11 : Code := { maxStack := 3, maxLocals := 7, code := jdk_52_method_22_code, exceptionTable := #[], attributes := #[] }
def k8m11 : Method := { name := "compress", desc := "([BI[BII)I", sig := { parameters := [(.array .byte), .int, (.array .byte), .int, .int], returnType := some .int }, accessFlags := 9, code := some k8c11 }
def k8c12 : Code := { maxStack := 6, maxLocals := 5, code := jdk_52_method_69_code, exceptionTable := #[], attributes := #[] }
def k8m12 : Method := { name := "newString", desc := "([BII)Ljava/lang/String;", sig := { parameters := [(.array .byte), .int, .int], returnType := some (.object "java/lang/String") }, accessFlags := 9, code := some k8c12 }
def k8c13 : Code := { maxStack := 4, maxLocals := 6, code := jdk_52_method_86_code, exceptionTable := #[], attributes := #[] }
def k8m13 : Method := { name := "inflate", desc := "([BI[BII)V", sig := { parameters := [(.array .byte), .int, (.array .byte), .int, .int], returnType := none }, accessFlags := 9, code := some k8c13 }
def k8c14 : Code := { maxStack := 3, maxLocals := 3, code := jdk_52_method_94_code, exceptionTable := #[], attributes := #[] }
def k8m14 : Method := { name := "checkBoundsOffCount", desc := "(II[B)V", sig := { parameters := [.int, .int, (.array .byte)], returnType := none }, accessFlags := 9, code := some k8c14 }
/-- java/lang/StringUTF16 -/
def k8 : Class := { plain "java/lang/StringUTF16" (some 0) with
  accessFlags := 48
  interfaces := #[]
  cf := some (fileOf pool8 12 #[.nestMembers #[627, 629, 369]] #[{ accessFlags := 0, nameIndex := 9, descriptorIndex := 10, attributes := #[] }, { accessFlags := 9, nameIndex := 109, descriptorIndex := 110, attributes := #[] }, { accessFlags := 9, nameIndex := 15, descriptorIndex := 16, attributes := #[] }, { accessFlags := 8, nameIndex := 113, descriptorIndex := 114, attributes := #[] }, { accessFlags := 8, nameIndex := 73, descriptorIndex := 74, attributes := #[] }, { accessFlags := 9, nameIndex := 50, descriptorIndex := 51, attributes := #[] }, { accessFlags := 9, nameIndex := 121, descriptorIndex := 122, attributes := #[] }, { accessFlags := 8, nameIndex := 261, descriptorIndex := 262, attributes := #[] }, { accessFlags := 9, nameIndex := 117, descriptorIndex := 122, attributes := #[] }, { accessFlags := 9, nameIndex := 117, descriptorIndex := 131, attributes := #[] }, { accessFlags := 9, nameIndex := 117, descriptorIndex := 118, attributes := #[] }, { accessFlags := 9, nameIndex := 117, descriptorIndex := 125, attributes := #[] }, { accessFlags := 9, nameIndex := 327, descriptorIndex := 328, attributes := #[] }, { accessFlags := 9, nameIndex := 140, descriptorIndex := 141, attributes := #[] }, { accessFlags := 9, nameIndex := 175, descriptorIndex := 99, attributes := #[] }] 48 6 #[] #[{ accessFlags := 26, nameIndex := 61, descriptorIndex := 62, attributes := #[] }, { accessFlags := 26, nameIndex := 65, descriptorIndex := 62, attributes := #[] }, { accessFlags := 24, nameIndex := 430, descriptorIndex := 62, attributes := #[] }, { accessFlags := 4120, nameIndex := 46, descriptorIndex := 47, attributes := #[] }])
  fields := #[{ name := "HI_BYTE_SHIFT", type := .int, accessFlags := 26, slot := 0, constantValue := 0 }, { name := "LO_BYTE_SHIFT", type := .int, accessFlags := 26, slot := 1, constantValue := 0 }, { name := "MAX_LENGTH", type := .int, accessFlags := 24, slot := 2, constantValue := 0 }, { name := "$assertionsDisabled", type := .boolean, accessFlags := 4120, slot := 3, constantValue := 0 }]
  methods := #[k8m0, k8m1, k8m2, k8m3, k8m4, k8m5, k8m6, k8m7, k8m8, k8m9, k8m10, k8m11, k8m12, k8m13, k8m14]
  instanceTypes := #[]
  staticTypes := #[.int, .int, .int, .boolean]
  resolved := Array.replicate 635 none
  statics := some 1 }

def pool9 : Array CpInfo := pool [(2, .class_ 4), (0, .nameAndType 5 6), (0, u "java/lang/Object"), (0, u "<init>"), (0, u "()V"), (0, .methodref 8 9), (0, .class_ 10), (0, .nameAndType 11 12), (0, u "java/lang/String"), (0, u "length"), (0, u "()I"), (0, .class_ 14), (0, u "com/example/stateful_search/statefulsearch/format/Excerpts"), (0, .class_ 16), (0, u "java/lang/StringBuilder"), (0, .methodref 15 3), (0, .methodref 8 19), (0, .nameAndType 20 21), (0, u "substring"), (0, u "(II)Ljava/lang/String;"), (0, .methodref 15 23), (0, .nameAndType 24 25), (0, u "append"), (0, u "(Ljava/lang/String;)Ljava/lang/StringBuilder;"), (0, .string 27), (0, u "..."), (0, .methodref 15 29), (0, .nameAndType 30 31), (0, u "toString"), (0, u "()Ljava/lang/String;"), (0, u "LONGEST"), (0, u "I"), (4, u "abbreviate"), (0, u "(Ljava/lang/String;)Ljava/lang/String;")] 3

def k9m0 : Method := { name := "<init>", desc := "()V", sig := { parameters := [], returnType := none }, accessFlags := 2, code := none }
def k9c1 : Code := { maxStack := 4, maxLocals := 1, code := prog_9_method_2_code, exceptionTable := #[], attributes := #[] }
def k9m1 : Method := { name := "abbreviate", desc := "(Ljava/lang/String;)Ljava/lang/String;", sig := { parameters := [(.object "java/lang/String")], returnType := some (.object "java/lang/String") }, accessFlags := 9, code := some k9c1 }
/-- com/example/stateful_search/statefulsearch/format/Excerpts -/
def k9 : Class := { plain "com/example/stateful_search/statefulsearch/format/Excerpts" (some 0) with
  accessFlags := 49
  interfaces := #[]
  cf := some (fileOf pool9 13 #[] #[{ accessFlags := 2, nameIndex := 5, descriptorIndex := 6, attributes := #[] }, { accessFlags := 9, nameIndex := 38, descriptorIndex := 39, attributes := #[] }] 49 2 #[] #[{ accessFlags := 26, nameIndex := 32, descriptorIndex := 33, attributes := #[] }])
  fields := #[{ name := "LONGEST", type := .int, accessFlags := 26, slot := 0, constantValue := 0 }]
  methods := #[k9m0, k9m1]
  instanceTypes := #[]
  staticTypes := #[.int]
  resolved := Array.replicate 43 none
  statics := none }

def pool10 : Array CpInfo := pool [(1, .class_ 2), (0, u "java/lang/Appendable"), (0, .class_ 4), (0, u "java/lang/Object")] 9

/-- java/lang/Appendable -/
def k10 : Class := { plain "java/lang/Appendable" (some 0) with
  accessFlags := 1537
  interfaces := #[]
  cf := some (fileOf pool10 1 #[] #[] 1537 3 #[] #[])
  fields := #[]
  methods := #[]
  instanceTypes := #[]
  staticTypes := #[]
  resolved := Array.replicate 14 none
  statics := none }

def pool11 : Array CpInfo := pool [(1, .class_ 2), (0, u "java/lang/String"), (0, .methodref 4 5), (0, .class_ 6), (0, .nameAndType 7 8), (0, u "java/lang/Object"), (0, u "<init>"), (0, u "()V"), (1, .class_ 12), (1, u "java/lang/AbstractStringBuilder"), (0, u "EMPTYVALUE"), (0, u "[B"), (0, .fieldref 10 16), (0, .nameAndType 17 14), (0, u "value"), (0, .fieldref 1 19), (0, .nameAndType 20 21), (0, u "COMPACT_STRINGS"), (0, u "Z"), (0, .fieldref 10 23), (0, .nameAndType 24 25), (0, u "coder"), (0, u "B"), (0, .methodref 27 28), (0, .class_ 29), (0, .nameAndType 30 31), (0, u "java/lang/StringUTF16"), (0, u "newBytesFor"), (0, u "(I)[B"), (0, .methodref 1 33), (0, .nameAndType 34 35), (0, u "length"), (0, u "()I"), (3, .integer 2147483647), (0, .methodref 1 41), (0, .nameAndType 24 42), (0, u "()B"), (2, u "append"), (0, u "(Ljava/lang/String;)Ljava/lang/AbstractStringBuilder;"), (1, .class_ 49), (0, u "java/lang/CharSequence"), (19, u "(Ljava/lang/String;)V"), (5, u "maybeLatin1"), (3, .fieldref 10 80), (0, .nameAndType 81 82), (0, u "count"), (0, u "I"), (0, .methodref 10 84), (0, .nameAndType 85 86), (0, u "isLatin1"), (0, u "()Z"), (1, .class_ 90), (1, u "java/lang/StringLatin1"), (9, .methodref 10 101), (0, .nameAndType 102 103), (0, u "ensureCapacityInternal"), (0, u "(I)V"), (0, .methodref 10 105), (0, .nameAndType 106 107), (0, u "newCapacity"), (0, u "(I)I"), (0, .methodref 109 110), (0, .class_ 111), (0, .nameAndType 112 113), (0, u "java/util/Arrays"), (0, u "copyOf"), (0, u "([BI)[B"), (0, .methodref 115 116), (0, .class_ 117), (0, .nameAndType 118 119), (0, u "jdk/internal/util/ArraysSupport"), (0, u "newLength"), (0, u "(III)I"), (5, .methodref 88 126), (0, .nameAndType 127 128), (0, u "inflate"), (0, u "([BI[BII)V"), (66, .methodref 10 196), (0, .nameAndType 127 8), (11, .methodref 10 209), (0, .nameAndType 210 211), (0, u "putStringAt"), (0, u "(ILjava/lang/String;)V"), (5, u "inflateIfNeededFor"), (2, .nameAndType 221 222), (0, u "getBytes"), (0, u "([BIB)V"), (174, .methodref 10 398), (0, .nameAndType 217 69), (0, .methodref 1 220), (3, u "()[B"), (40, .class_ 445), (0, u "java/lang/Appendable"), (106, u "getValue")] 56

def k11m0 : Method := { name := "<init>", desc := "()V", sig := { parameters := [], returnType := none }, accessFlags := 0, code := none }
def k11c1 : Code := { maxStack := 2, maxLocals := 2, code := jdk_68_method_2_code, exceptionTable := #[], attributes := #[] }
def k11m1 : Method := { name := "<init>", desc := "(I)V", sig := { parameters := [.int], returnType := none }, accessFlags := 0, code := some k11c1 }
def k11c2 : Code := { maxStack := 1, maxLocals := 1, code := jdk_68_method_6_code, exceptionTable := #[], attributes := #[] }
def k11m2 : Method := { name := "length", desc := "()I", sig := { parameters := [], returnType := some .int }, accessFlags := 1, code := some k11c2 }
def k11c3 : Code := { maxStack := 4, maxLocals := 3, code := jdk_68_method_9_code, exceptionTable := #[], attributes := #[] }
def k11m3 : Method := { name := "ensureCapacityInternal", desc := "(I)V", sig := { parameters := [.int], returnType := none }, accessFlags := 2, code := some k11c3 }
def k11c4 : Code := { maxStack := 5, maxLocals := 6, code := jdk_68_method_10_code, exceptionTable := #[], attributes := #[] }
def k11m4 : Method := { name := "newCapacity", desc := "(I)I", sig := { parameters := [.int], returnType := some .int }, accessFlags := 2, code := some k11c4 }
def k11c5 : Code := { maxStack := 5, maxLocals := 2, code := jdk_68_method_11_code, exceptionTable := #[], attributes := #[] }
def k11m5 : Method := { name := "inflate", desc := "()V", sig := { parameters := [], returnType := none }, accessFlags := 2, code := some k11c5 }
def k11c6 : Code := { maxStack := 3, maxLocals := 3, code := jdk_68_method_22_code, exceptionTable := #[], attributes := #[] }
def k11m6 : Method := { name := "append", desc := "(Ljava/lang/String;)Ljava/lang/AbstractStringBuilder;", sig := { parameters := [(.object "java/lang/String")], returnType := some (.object "java/lang/AbstractStringBuilder") }, accessFlags := 1, code := some k11c6 }
def k11c7 : Code := { maxStack := 1, maxLocals := 1, code := jdk_68_method_64_code, exceptionTable := #[], attributes := #[] }
def k11m7 : Method := { name := "getValue", desc := "()[B", sig := { parameters := [], returnType := some (.array .byte) }, accessFlags := 16, code := some k11c7 }
def k11c8 : Code := { maxStack := 1, maxLocals := 1, code := jdk_68_method_68_code, exceptionTable := #[], attributes := #[] }
def k11m8 : Method := { name := "isLatin1", desc := "()Z", sig := { parameters := [], returnType := some .boolean }, accessFlags := 16, code := some k11c8 }
def k11c9 : Code := { maxStack := 2, maxLocals := 2, code := jdk_68_method_71_code, exceptionTable := #[], attributes := #[] }
def k11m9 : Method := { name := "inflateIfNeededFor", desc := "(Ljava/lang/String;)V", sig := { parameters := [(.object "java/lang/String")], returnType := none }, accessFlags := 2, code := some k11c9 }
def k11c10 : Code := { maxStack := 4, maxLocals := 3, code := jdk_68_method_73_code, exceptionTable := #[], attributes := #[] }
def k11m10 : Method := { name := "putStringAt", desc := "(ILjava/lang/String;)V", sig := { parameters := [.int, (.object "java/lang/String")], returnType := none }, accessFlags := 2, code := some k11c10 }
/-- java/lang/AbstractStringBuilder -/
def k11 : Class := { plain "java/lang/AbstractStringBuilder" (some 0) with
  accessFlags := 1056
  interfaces := #[10, 4]
  cf := some (fileOf pool11 10 #[] #[{ accessFlags := 0, nameIndex := 7, descriptorIndex := 8, attributes := #[] }, { accessFlags := 0, nameIndex := 7, descriptorIndex := 103, attributes := #[] }, { accessFlags := 1, nameIndex := 34, descriptorIndex := 35, attributes := #[] }, { accessFlags := 2, nameIndex := 102, descriptorIndex := 103, attributes := #[] }, { accessFlags := 2, nameIndex := 106, descriptorIndex := 107, attributes := #[] }, { accessFlags := 2, nameIndex := 127, descriptorIndex := 8, attributes := #[] }, { accessFlags := 1, nameIndex := 45, descriptorIndex := 46, attributes := #[] }, { accessFlags := 16, nameIndex := 552, descriptorIndex := 403, attributes := #[] }, { accessFlags := 16, nameIndex := 85, descriptorIndex := 86, attributes := #[] }, { accessFlags := 2, nameIndex := 217, descriptorIndex := 69, attributes := #[] }, { accessFlags := 2, nameIndex := 210, descriptorIndex := 211, attributes := #[] }] 1056 4 #[444, 48] #[{ accessFlags := 0, nameIndex := 17, descriptorIndex := 14, attributes := #[] }, { accessFlags := 0, nameIndex := 24, descriptorIndex := 25, attributes := #[] }, { accessFlags := 0, nameIndex := 75, descriptorIndex := 21, attributes := #[] }, { accessFlags := 0, nameIndex := 81, descriptorIndex := 82, attributes := #[] }, { accessFlags := 26, nameIndex := 13, descriptorIndex := 14, attributes := #[] }])
  fields := #[{ name := "value", type := (.array .byte), accessFlags := 0, slot := 0, constantValue := 0 }, { name := "coder", type := .byte, accessFlags := 0, slot := 1, constantValue := 0 }, { name := "maybeLatin1", type := .boolean, accessFlags := 0, slot := 2, constantValue := 0 }, { name := "count", type := .int, accessFlags := 0, slot := 3, constantValue := 0 }, { name := "EMPTYVALUE", type := (.array .byte), accessFlags := 26, slot := 0, constantValue := 0 }]
  methods := #[k11m0, k11m1, k11m2, k11m3, k11m4, k11m5, k11m6, k11m7, k11m8, k11m9, k11m10]
  instanceTypes := #[(.array .byte), .byte, .boolean, .int]
  staticTypes := #[(.array .byte)]
  resolved := Array.replicate 609 none
  statics := none }

def pool12 : Array CpInfo := pool [(1, .methodref 2 3), (0, .class_ 4), (0, .nameAndType 5 6), (0, u "java/lang/AbstractStringBuilder"), (0, u "<init>"), (0, u "(I)V"), (11, .class_ 20), (1, u "java/lang/String"), (3, .class_ 26), (1, u "java/lang/StringBuilder"), (0, u "append"), (0, u "(Ljava/lang/String;)Ljava/lang/StringBuilder;"), (0, .methodref 2 30), (0, .nameAndType 27 31), (0, u "(Ljava/lang/String;)Ljava/lang/AbstractStringBuilder;"), (105, .methodref 18 138), (0, .nameAndType 5 139), (0, u "(Ljava/lang/StringBuilder;)V"), (5, u "()V"), (10, u "()I"), (186, .methodref 2 344), (0, .nameAndType 345 156), (0, u "length"), (3, .class_ 350), (0, u "java/lang/Appendable"), (0, .class_ 352), (0, u "java/io/Serializable"), (0, .class_ 354), (0, u "java/lang/Comparable"), (0, .class_ 356), (0, u "java/lang/CharSequence"), (0, u "serialVersionUID"), (0, u "J"), (40, u "toString"), (0, u "()Ljava/lang/String;")] 21

def k12c0 : Code := { maxStack := 2, maxLocals := 1, code := jdk_67_method_1_code, exceptionTable := #[], attributes := #[] }
def k12m0 : Method := { name := "<init>", desc := "()V", sig := { parameters := [], returnType := none }, accessFlags := 1, code := some k12c0 }
def k12c1 : Code := { maxStack := 2, maxLocals := 2, code := jdk_67_method_7_code, exceptionTable := #[], attributes := #[] }
def k12m1 : Method := { name := "append", desc := "(Ljava/lang/String;)Ljava/lang/StringBuilder;", sig := { parameters := [(.object "java/lang/String")], returnType := some (.object "java/lang/StringBuilder") }, accessFlags := 1, code := some k12c1 }
def k12c2 : Code := { maxStack := 3, maxLocals := 1, code := jdk_67_method_42_code, exceptionTable := #[], attributes := #[] }
def k12m2 : Method := { name := "toString", desc := "()Ljava/lang/String;", sig := { parameters := [], returnType := some (.object "java/lang/String") }, accessFlags := 1, code := some k12c2 }
def k12c3 : Code := { maxStack := 1, maxLocals := 1, code := jdk_67_method_93_code, exceptionTable := #[], attributes := #[] }
def k12m3 : Method := { name := "length", desc := "()I", sig := { parameters := [], returnType := some .int }, accessFlags := 4161, code := some k12c3 }
/-- java/lang/StringBuilder -/
def k12 : Class := { plain "java/lang/StringBuilder" (some 11) with
  accessFlags := 49
  interfaces := #[10, 2, 3, 4]
  cf := some (fileOf pool12 24 #[] #[{ accessFlags := 1, nameIndex := 5, descriptorIndex := 145, attributes := #[] }, { accessFlags := 1, nameIndex := 27, descriptorIndex := 28, attributes := #[] }, { accessFlags := 1, nameIndex := 399, descriptorIndex := 400, attributes := #[] }, { accessFlags := 4161, nameIndex := 345, descriptorIndex := 156, attributes := #[] }] 49 2 #[349, 351, 353, 355] #[{ accessFlags := 24, nameIndex := 357, descriptorIndex := 358, attributes := #[] }])
  fields := #[{ name := "serialVersionUID", type := .long, accessFlags := 24, slot := 0, constantValue := 0 }]
  methods := #[k12m0, k12m1, k12m2, k12m3]
  instanceTypes := #[(.array .byte), .byte, .boolean, .int]
  staticTypes := #[.long]
  resolved := Array.replicate 422 none
  statics := none }

def pool13 : Array CpInfo := pool [(2, .class_ 4), (1, u "java/lang/Object"), (0, u "<init>"), (0, u "()V"), (17, .class_ 26), (1, u "jdk/internal/util/Preconditions"), (20, u "checkFromToIndex"), (1, u "checkFromIndexSize"), (5, .class_ 56), (0, u "jdk/internal/util/Preconditions$4"), (57, .class_ 115), (0, u "jdk/internal/util/Preconditions$1"), (7, u "SIOOBE_FORMATTER"), (0, u "Ljava/util/function/BiFunction;"), (0, .class_ 126), (0, u "jdk/internal/util/Preconditions$2"), (3, u "AIOOBE_FORMATTER"), (0, .class_ 132), (0, u "jdk/internal/util/Preconditions$3"), (3, u "IOOBE_FORMATTER"), (46, u "(IIILjava/util/function/BiFunction;)I")] 10

def k13m0 : Method := { name := "<init>", desc := "()V", sig := { parameters := [], returnType := none }, accessFlags := 1, code := none }
def k13c1 : Code := { maxStack := 4, maxLocals := 4, code := jdk_41_method_12_code, exceptionTable := #[], attributes := #[] }
def k13m1 : Method := { name := "checkFromToIndex", desc := "(IIILjava/util/function/BiFunction;)I", sig := { parameters := [.int, .int, .int, (.object "java/util/function/BiFunction")], returnType := some .int }, accessFlags := 9, code := some k13c1 }
def k13c2 : Code := { maxStack := 4, maxLocals := 4, code := jdk_41_method_13_code, exceptionTable := #[], attributes := #[] }
def k13m2 : Method := { name := "checkFromIndexSize", desc := "(IIILjava/util/function/BiFunction;)I", sig := { parameters := [.int, .int, .int, (.object "java/util/function/BiFunction")], returnType := some .int }, accessFlags := 9, code := some k13c2 }
/-- jdk/internal/util/Preconditions -/
def k13 : Class := { plain "jdk/internal/util/Preconditions" (some 0) with
  accessFlags := 33
  interfaces := #[]
  cf := some (fileOf pool13 24 #[.nestMembers #[55, 131, 125, 114]] #[{ accessFlags := 1, nameIndex := 5, descriptorIndex := 6, attributes := #[] }, { accessFlags := 9, nameIndex := 47, descriptorIndex := 183, attributes := #[] }, { accessFlags := 9, nameIndex := 49, descriptorIndex := 183, attributes := #[] }] 33 2 #[] #[{ accessFlags := 25, nameIndex := 123, descriptorIndex := 124, attributes := #[] }, { accessFlags := 25, nameIndex := 130, descriptorIndex := 124, attributes := #[] }, { accessFlags := 25, nameIndex := 136, descriptorIndex := 124, attributes := #[] }])
  fields := #[{ name := "SIOOBE_FORMATTER", type := (.object "java/util/function/BiFunction"), accessFlags := 25, slot := 0, constantValue := 0 }, { name := "AIOOBE_FORMATTER", type := (.object "java/util/function/BiFunction"), accessFlags := 25, slot := 1, constantValue := 0 }, { name := "IOOBE_FORMATTER", type := (.object "java/util/function/BiFunction"), accessFlags := 25, slot := 2, constantValue := 0 }]
  methods := #[k13m0, k13m1, k13m2]
  instanceTypes := #[]
  staticTypes := #[(.object "java/util/function/BiFunction"), (.object "java/util/function/BiFunction"), (.object "java/util/function/BiFunction")]
  resolved := Array.replicate 194 none
  statics := some 2 }

def pool14 : Array CpInfo := pool [(2, .class_ 4), (1, u "java/lang/Object"), (0, u "<init>"), (0, u "()V"), (7, .class_ 16), (1, u "java/util/Arrays"), (57, .class_ 76), (1, u "java/util/Arrays$NaturalOrder"), (36, .class_ 115), (1, u "java/util/Arrays$LegacyMergeSort"), (1, u "Z"), (21, u "copyOfRange"), (10, .methodref 151 152), (0, .class_ 153), (0, .nameAndType 154 155), (0, u "java/lang/System"), (0, u "arraycopy"), (0, u "(Ljava/lang/Object;ILjava/lang/Object;II)V"), (146, u "copyOf"), (1, .methodref 305 306), (0, .class_ 307), (0, .nameAndType 308 309), (0, u "java/lang/Math"), (0, u "min"), (0, u "(II)I"), (29, .methodref 14 340), (0, .nameAndType 341 342), (0, u "copyOfRangeByte"), (0, u "([BII)[B"), (0, .methodref 14 344), (0, .nameAndType 345 346), (0, u "checkLength"), (0, u "(II)V"), (28, .class_ 376), (0, u "java/util/Arrays$ArrayList"), (68, u "$assertionsDisabled"), (269, u "MIN_ARRAY_SORT_GRAN"), (0, u "I"), (2, u "INSERTIONSORT_THRESHOLD"), (149, u "([BI)[B"), (105, .class_ 976), (0, u "java/util/Arrays$ArrayItr")] 52

def k14m0 : Method := { name := "<init>", desc := "()V", sig := { parameters := [], returnType := none }, accessFlags := 2, code := none }
def k14c1 : Code := { maxStack := 6, maxLocals := 3, code := jdk_65_method_121_code, exceptionTable := #[], attributes := #[] }
def k14m1 : Method := { name := "copyOf", desc := "([BI)[B", sig := { parameters := [(.array .byte), .int], returnType := some (.array .byte) }, accessFlags := 9, code := some k14c1 }
def k14c2 : Code := { maxStack := 4, maxLocals := 2, code := jdk_65_method_131_code, exceptionTable := #[], attributes := #[] }
def k14m2 : Method := { name := "checkLength", desc := "(II)V", sig := { parameters := [.int, .int], returnType := none }, accessFlags := 10, code := some k14c2 }
def k14c3 : Code := { maxStack := 3, maxLocals := 3, code := jdk_65_method_132_code, exceptionTable := #[], attributes := #[] }
def k14m3 : Method := { name := "copyOfRange", desc := "([BII)[B", sig := { parameters := [(.array .byte), .int, .int], returnType := some (.array .byte) }, accessFlags := 9, code := some k14c3 }
def k14c4 : Code := { maxStack := 6, maxLocals := 5, code := jdk_65_method_133_code, exceptionTable := #[], attributes := #[] }
def k14m4 : Method := { name := "copyOfRangeByte", desc := "([BII)[B", sig := { parameters := [(.array .byte), .int, .int], returnType := some (.array .byte) }, accessFlags := 10, code := some k14c4 }
/-- java/util/Arrays -/
def k14 : Class := { plain "java/util/Arrays" (some 0) with
  accessFlags := 49
  interfaces := #[]
  cf := some (fileOf pool14 14 #[.nestMembers #[975, 375, 113, 74]] #[{ accessFlags := 2, nameIndex := 5, descriptorIndex := 6, attributes := #[] }, { accessFlags := 9, nameIndex := 302, descriptorIndex := 869, attributes := #[] }, { accessFlags := 10, nameIndex := 345, descriptorIndex := 346, attributes := #[] }, { accessFlags := 9, nameIndex := 139, descriptorIndex := 342, attributes := #[] }, { accessFlags := 10, nameIndex := 341, descriptorIndex := 342, attributes := #[] }] 49 2 #[] #[{ accessFlags := 26, nameIndex := 715, descriptorIndex := 716, attributes := #[] }, { accessFlags := 26, nameIndex := 719, descriptorIndex := 716, attributes := #[] }, { accessFlags := 4120, nameIndex := 445, descriptorIndex := 117, attributes := #[] }])
  fields := #[{ name := "MIN_ARRAY_SORT_GRAN", type := .int, accessFlags := 26, slot := 0, constantValue := 0 }, { name := "INSERTIONSORT_THRESHOLD", type := .int, accessFlags := 26, slot := 1, constantValue := 0 }, { name := "$assertionsDisabled", type := .boolean, accessFlags := 4120, slot := 2, constantValue := 0 }]
  methods := #[k14m0, k14m1, k14m2, k14m3, k14m4]
  instanceTypes := #[]
  staticTypes := #[.int, .int, .boolean]
  resolved := Array.replicate 1029 none
  statics := none }

def pool15 : Array CpInfo := pool [(1, .class_ 2), (0, u "java/lang/Math"), (1, .class_ 6), (1, u "java/lang/Object"), (0, u "<init>"), (0, u "()V"), (89, .class_ 100), (1, u "java/lang/Math$RandomNumberGeneratorHolder"), (71, u "negativeZeroFloatBits"), (0, u "J"), (2, u "negativeZeroDoubleBits"), (21, u "max"), (2, u "min"), (43, u "$assertionsDisabled"), (0, u "Z"), (88, u "(II)I"), (2, u "twoToTheDoubleScaleDown"), (0, u "D"), (4, u "twoToTheDoubleScaleUp"), (9, u "E"), (3, u "PI"), (2, u "TAU"), (2, u "DEGREES_TO_RADIANS"), (0, u "RADIANS_TO_DEGREES")] 94

def k15m0 : Method := { name := "<init>", desc := "()V", sig := { parameters := [], returnType := none }, accessFlags := 2, code := none }
def k15c1 : Code := { maxStack := 2, maxLocals := 2, code := jdk_29_method_65_code, exceptionTable := #[], attributes := #[] }
def k15m1 : Method := { name := "max", desc := "(II)I", sig := { parameters := [.int, .int], returnType := some .int }, accessFlags := 9, code := some k15c1 }
def k15c2 : Code := { maxStack := 2, maxLocals := 2, code := jdk_29_method_69_code, exceptionTable := #[], attributes := #[] }
def k15m2 : Method := { name := "min", desc := "(II)I", sig := { parameters := [.int, .int], returnType := some .int }, accessFlags := 9, code := some k15c2 }
/-- java/lang/Math -/
def k15 : Class := { plain "java/lang/Math" (some 0) with
  accessFlags := 49
  interfaces := #[]
  cf := some (fileOf pool15 1 #[.nestMembers #[98]] #[{ accessFlags := 2, nameIndex := 7, descriptorIndex := 8, attributes := #[] }, { accessFlags := 9, nameIndex := 198, descriptorIndex := 335, attributes := #[] }, { accessFlags := 9, nameIndex := 201, descriptorIndex := 335, attributes := #[] }] 49 4 #[] #[{ accessFlags := 25, nameIndex := 354, descriptorIndex := 339, attributes := #[] }, { accessFlags := 25, nameIndex := 358, descriptorIndex := 339, attributes := #[] }, { accessFlags := 25, nameIndex := 361, descriptorIndex := 339, attributes := #[] }, { accessFlags := 26, nameIndex := 364, descriptorIndex := 339, attributes := #[] }, { accessFlags := 26, nameIndex := 365, descriptorIndex := 339, attributes := #[] }, { accessFlags := 26, nameIndex := 172, descriptorIndex := 173, attributes := #[] }, { accessFlags := 26, nameIndex := 176, descriptorIndex := 173, attributes := #[] }, { accessFlags := 8, nameIndex := 344, descriptorIndex := 339, attributes := #[] }, { accessFlags := 8, nameIndex := 338, descriptorIndex := 339, attributes := #[] }, { accessFlags := 4120, nameIndex := 245, descriptorIndex := 246, attributes := #[] }])
  fields := #[{ name := "E", type := .double, accessFlags := 25, slot := 0, constantValue := 0 }, { name := "PI", type := .double, accessFlags := 25, slot := 1, constantValue := 0 }, { name := "TAU", type := .double, accessFlags := 25, slot := 2, constantValue := 0 }, { name := "DEGREES_TO_RADIANS", type := .double, accessFlags := 26, slot := 3, constantValue := 0 }, { name := "RADIANS_TO_DEGREES", type := .double, accessFlags := 26, slot := 4, constantValue := 0 }, { name := "negativeZeroFloatBits", type := .long, accessFlags := 26, slot := 5, constantValue := 0 }, { name := "negativeZeroDoubleBits", type := .long, accessFlags := 26, slot := 6, constantValue := 0 }, { name := "twoToTheDoubleScaleUp", type := .double, accessFlags := 8, slot := 7, constantValue := 0 }, { name := "twoToTheDoubleScaleDown", type := .double, accessFlags := 8, slot := 8, constantValue := 0 }, { name := "$assertionsDisabled", type := .boolean, accessFlags := 4120, slot := 9, constantValue := 0 }]
  methods := #[k15m0, k15m1, k15m2]
  instanceTypes := #[]
  staticTypes := #[.double, .double, .double, .double, .double, .long, .long, .double, .double, .boolean]
  resolved := Array.replicate 460 none
  statics := none }

def pool16 : Array CpInfo := pool [(2, .class_ 4), (1, u "java/lang/Object"), (0, u "<init>"), (0, u "()V"), (1, .class_ 10), (1, u "java/lang/System"), (0, u "allowSecurityManager"), (0, u "I"), (16, u "cons"), (0, u "Ljava/io/Console;"), (77, .class_ 110), (1, u "java/lang/System$CallersHolder"), (43, u "initialErrStream"), (0, u "Ljava/io/PrintStream;"), (19, u "security"), (0, u "Ljava/lang/SecurityManager;"), (31, .class_ 209), (0, u "java/lang/System$1"), (7, u "props"), (0, u "Ljava/util/Properties;"), (2, u "lineSeparator"), (0, u "Ljava/lang/String;"), (96, .class_ 321), (1, u "java/lang/System$LoggerFinder"), (5, .class_ 328), (0, u "java/lang/System$Logger"), (67, u "err"), (2, u "out"), (91, u "notSupportedJnuEncoding"), (15, u "in"), (17, u "initialIn"), (0, u "Ljava/io/InputStream;"), (35, u "bootLayer"), (0, u "Ljava/lang/ModuleLayer;"), (99, .class_ 664), (0, u "java/lang/System$2"), (9, u "NEVER"), (2, u "MAYBE"), (49, u "arraycopy"), (0, u "(Ljava/lang/Object;ILjava/lang/Object;II)V"), (72, .class_ 802), (0, u "java/lang/System$Logger$Level")] 31

def k16m0 : Method := { name := "<init>", desc := "()V", sig := { parameters := [], returnType := none }, accessFlags := 2, code := none }
def k16m1 : Method := { name := "arraycopy", desc := "(Ljava/lang/Object;ILjava/lang/Object;II)V", sig := { parameters := [(.object "java/lang/Object"), .int, (.object "java/lang/Object"), .int, .int], returnType := none }, accessFlags := 265, code := none }
/-- java/lang/System -/
def k16 : Class := { plain "java/lang/System" (some 0) with
  accessFlags := 49
  interfaces := #[]
  cf := some (fileOf pool16 8 #[.nestMembers #[319, 327, 801, 108, 663, 208]] #[{ accessFlags := 2, nameIndex := 5, descriptorIndex := 6, attributes := #[] }, { accessFlags := 265, nameIndex := 727, descriptorIndex := 728, attributes := #[] }] 49 2 #[] #[{ accessFlags := 25, nameIndex := 507, descriptorIndex := 526, attributes := #[] }, { accessFlags := 25, nameIndex := 399, descriptorIndex := 155, attributes := #[] }, { accessFlags := 25, nameIndex := 396, descriptorIndex := 155, attributes := #[] }, { accessFlags := 10, nameIndex := 525, descriptorIndex := 526, attributes := #[] }, { accessFlags := 26, nameIndex := 674, descriptorIndex := 12, attributes := #[] }, { accessFlags := 26, nameIndex := 677, descriptorIndex := 12, attributes := #[] }, { accessFlags := 10, nameIndex := 11, descriptorIndex := 12, attributes := #[] }, { accessFlags := 74, nameIndex := 175, descriptorIndex := 176, attributes := #[] }, { accessFlags := 10, nameIndex := 491, descriptorIndex := 222, attributes := #[] }, { accessFlags := 74, nameIndex := 29, descriptorIndex := 30, attributes := #[] }, { accessFlags := 74, nameIndex := 154, descriptorIndex := 155, attributes := #[] }, { accessFlags := 10, nameIndex := 217, descriptorIndex := 218, attributes := #[] }, { accessFlags := 10, nameIndex := 221, descriptorIndex := 222, attributes := #[] }, { accessFlags := 8, nameIndex := 562, descriptorIndex := 563, attributes := #[] }])
  fields := #[{ name := "in", type := (.object "java/io/InputStream"), accessFlags := 25, slot := 0, constantValue := 0 }, { name := "out", type := (.object "java/io/PrintStream"), accessFlags := 25, slot := 1, constantValue := 0 }, { name := "err", type := (.object "java/io/PrintStream"), accessFlags := 25, slot := 2, constantValue := 0 }, { name := "initialIn", type := (.object "java/io/InputStream"), accessFlags := 10, slot := 3, constantValue := 0 }, { name := "NEVER", type := .int, accessFlags := 26, slot := 4, constantValue := 0 }, { name := "MAYBE", type := .int, accessFlags := 26, slot := 5, constantValue := 0 }, { name := "allowSecurityManager", type := .int, accessFlags := 10, slot := 6, constantValue := 0 }, { name := "security", type := (.object "java/lang/SecurityManager"), accessFlags := 74, slot := 7, constantValue := 0 }, { name := "notSupportedJnuEncoding", type := (.object "java/lang/String"), accessFlags := 10, slot := 8, constantValue := 0 }, { name := "cons", type := (.object "java/io/Console"), accessFlags := 74, slot := 9, constantValue := 0 }, { name := "initialErrStream", type := (.object "java/io/PrintStream"), accessFlags := 74, slot := 10, constantValue := 0 }, { name := "props", type := (.object "java/util/Properties"), accessFlags := 10, slot := 11, constantValue := 0 }, { name := "lineSeparator", type := (.object "java/lang/String"), accessFlags := 10, slot := 12, constantValue := 0 }, { name := "bootLayer", type := (.object "java/lang/ModuleLayer"), accessFlags := 8, slot := 13, constantValue := 0 }]
  methods := #[k16m0, k16m1]
  instanceTypes := #[]
  staticTypes := #[(.object "java/io/InputStream"), (.object "java/io/PrintStream"), (.object "java/io/PrintStream"), (.object "java/io/InputStream"), .int, .int, .int, (.object "java/lang/SecurityManager"), (.object "java/lang/String"), (.object "java/io/Console"), (.object "java/io/PrintStream"), (.object "java/util/Properties"), (.object "java/lang/String"), (.object "java/lang/ModuleLayer")]
  resolved := Array.replicate 834 none
  statics := none }

def pool17 : Array CpInfo := pool [(9, u "<init>"), (6, .class_ 18), (1, u "java/lang/Object"), (0, u "()V"), (1, .class_ 23), (1, u "jdk/internal/util/ArraysSupport"), (0, u "LOG2_ARRAY_LONG_INDEX_SCALE"), (0, u "I"), (2, u "U"), (0, u "Ljdk/internal/misc/Unsafe;"), (8, u "BIG_ENDIAN"), (0, u "Z"), (8, u "LOG2_BYTE_BIT_SIZE"), (4, u "LOG2_ARRAY_INT_INDEX_SCALE"), (54, u "JLA"), (0, u "Ljdk/internal/access/JavaLangAccess;"), (11, u "LOG2_ARRAY_BOOLEAN_INDEX_SCALE"), (9, u "LOG2_ARRAY_BYTE_INDEX_SCALE"), (5, u "LOG2_ARRAY_CHAR_INDEX_SCALE"), (5, u "LOG2_ARRAY_SHORT_INDEX_SCALE"), (18, u "LOG2_ARRAY_FLOAT_INDEX_SCALE"), (24, u "LOG2_ARRAY_DOUBLE_INDEX_SCALE"), (6, .methodref 195 196), (0, .class_ 197), (0, .nameAndType 198 199), (0, u "java/lang/Math"), (0, u "max"), (0, u "(II)I"), (0, .integer 2147483639), (76, u "T_BOOLEAN"), (2, u "T_CHAR"), (1, u "T_FLOAT"), (1, u "T_DOUBLE"), (1, u "T_BYTE"), (1, u "T_SHORT"), (1, u "T_INT"), (1, u "T_LONG"), (1, u "SOFT_MAX_ARRAY_LENGTH"), (56, u "newLength"), (0, u "(III)I")] 25

def k17m0 : Method := { name := "<init>", desc := "()V", sig := { parameters := [], returnType := none }, accessFlags := 2, code := none }
def k17c1 : Code := { maxStack := 3, maxLocals := 4, code := jdk_48_method_27_code, exceptionTable := #[], attributes := #[] }
def k17m1 : Method := { name := "newLength", desc := "(III)I", sig := { parameters := [.int, .int, .int], returnType := some .int }, accessFlags := 9, code := some k17c1 }
/-- jdk/internal/util/ArraysSupport -/
def k17 : Class := { plain "jdk/internal/util/ArraysSupport" (some 0) with
  accessFlags := 33
  interfaces := #[]
  cf := some (fileOf pool17 21 #[] #[{ accessFlags := 2, nameIndex := 9, descriptorIndex := 19, attributes := #[] }, { accessFlags := 9, nameIndex := 351, descriptorIndex := 352, attributes := #[] }] 33 16 #[] #[{ accessFlags := 24, nameIndex := 28, descriptorIndex := 29, attributes := #[] }, { accessFlags := 26, nameIndex := 38, descriptorIndex := 39, attributes := #[] }, { accessFlags := 25, nameIndex := 121, descriptorIndex := 25, attributes := #[] }, { accessFlags := 25, nameIndex := 131, descriptorIndex := 25, attributes := #[] }, { accessFlags := 25, nameIndex := 137, descriptorIndex := 25, attributes := #[] }, { accessFlags := 25, nameIndex := 143, descriptorIndex := 25, attributes := #[] }, { accessFlags := 25, nameIndex := 53, descriptorIndex := 25, attributes := #[] }, { accessFlags := 25, nameIndex := 24, descriptorIndex := 25, attributes := #[] }, { accessFlags := 25, nameIndex := 162, descriptorIndex := 25, attributes := #[] }, { accessFlags := 25, nameIndex := 187, descriptorIndex := 25, attributes := #[] }, { accessFlags := 26, nameIndex := 48, descriptorIndex := 25, attributes := #[] }, { accessFlags := 25, nameIndex := 277, descriptorIndex := 25, attributes := #[] }, { accessFlags := 25, nameIndex := 280, descriptorIndex := 25, attributes := #[] }, { accessFlags := 25, nameIndex := 282, descriptorIndex := 25, attributes := #[] }, { accessFlags := 25, nameIndex := 284, descriptorIndex := 25, attributes := #[] }, { accessFlags := 25, nameIndex := 286, descriptorIndex := 25, attributes := #[] }, { accessFlags := 25, nameIndex := 288, descriptorIndex := 25, attributes := #[] }, { accessFlags := 25, nameIndex := 290, descriptorIndex := 25, attributes := #[] }, { accessFlags := 25, nameIndex := 292, descriptorIndex := 25, attributes := #[] }, { accessFlags := 26, nameIndex := 108, descriptorIndex := 109, attributes := #[] }, { accessFlags := 25, nameIndex := 294, descriptorIndex := 25, attributes := #[] }])
  fields := #[{ name := "U", type := (.object "jdk/internal/misc/Unsafe"), accessFlags := 24, slot := 0, constantValue := 0 }, { name := "BIG_ENDIAN", type := .boolean, accessFlags := 26, slot := 1, constantValue := 0 }, { name := "LOG2_ARRAY_BOOLEAN_INDEX_SCALE", type := .int, accessFlags := 25, slot := 2, constantValue := 0 }, { name := "LOG2_ARRAY_BYTE_INDEX_SCALE", type := .int, accessFlags := 25, slot := 3, constantValue := 0 }, { name := "LOG2_ARRAY_CHAR_INDEX_SCALE", type := .int, accessFlags := 25, slot := 4, constantValue := 0 }, { name := "LOG2_ARRAY_SHORT_INDEX_SCALE", type := .int, accessFlags := 25, slot := 5, constantValue := 0 }, { name := "LOG2_ARRAY_INT_INDEX_SCALE", type := .int, accessFlags := 25, slot := 6, constantValue := 0 }, { name := "LOG2_ARRAY_LONG_INDEX_SCALE", type := .int, accessFlags := 25, slot := 7, constantValue := 0 }, { name := "LOG2_ARRAY_FLOAT_INDEX_SCALE", type := .int, accessFlags := 25, slot := 8, constantValue := 0 }, { name := "LOG2_ARRAY_DOUBLE_INDEX_SCALE", type := .int, accessFlags := 25, slot := 9, constantValue := 0 }, { name := "LOG2_BYTE_BIT_SIZE", type := .int, accessFlags := 26, slot := 10, constantValue := 0 }, { name := "T_BOOLEAN", type := .int, accessFlags := 25, slot := 11, constantValue := 0 }, { name := "T_CHAR", type := .int, accessFlags := 25, slot := 12, constantValue := 0 }, { name := "T_FLOAT", type := .int, accessFlags := 25, slot := 13, constantValue := 0 }, { name := "T_DOUBLE", type := .int, accessFlags := 25, slot := 14, constantValue := 0 }, { name := "T_BYTE", type := .int, accessFlags := 25, slot := 15, constantValue := 0 }, { name := "T_SHORT", type := .int, accessFlags := 25, slot := 16, constantValue := 0 }, { name := "T_INT", type := .int, accessFlags := 25, slot := 17, constantValue := 0 }, { name := "T_LONG", type := .int, accessFlags := 25, slot := 18, constantValue := 0 }, { name := "JLA", type := (.object "jdk/internal/access/JavaLangAccess"), accessFlags := 26, slot := 19, constantValue := 0 }, { name := "SOFT_MAX_ARRAY_LENGTH", type := .int, accessFlags := 25, slot := 20, constantValue := 0 }]
  methods := #[k17m0, k17m1]
  instanceTypes := #[]
  staticTypes := #[(.object "jdk/internal/misc/Unsafe"), .boolean, .int, .int, .int, .int, .int, .int, .int, .int, .int, .int, .int, .int, .int, .int, .int, .int, .int, (.object "jdk/internal/access/JavaLangAccess"), .int]
  resolved := Array.replicate 378 none
  statics := none }

def pool18 : Array CpInfo := pool [(4, .class_ 6), (1, u "java/lang/Object"), (0, u "<init>"), (0, u "()V"), (5, .class_ 16), (1, u "java/lang/StringLatin1"), (0, u "inflate"), (2, .class_ 22), (1, u "java/lang/StringUTF16"), (3, .nameAndType 17 27), (0, u "([BI[BII)V"), (93, u "$assertionsDisabled"), (0, u "Z"), (98, .class_ 223), (1, u "java/lang/StringLatin1$LinesSpliterator"), (16, .methodref 20 26), (40, u "equals"), (0, u "([B[B)Z"), (107, .class_ 391), (0, u "java/lang/StringLatin1$CharsSpliterator")] 3

def k18m0 : Method := { name := "<init>", desc := "()V", sig := { parameters := [], returnType := none }, accessFlags := 0, code := none }
def k18c1 : Code := { maxStack := 3, maxLocals := 3, code := jdk_43_method_13_code, exceptionTable := #[], attributes := #[] }
def k18m1 : Method := { name := "equals", desc := "([B[B)Z", sig := { parameters := [(.array .byte), (.array .byte)], returnType := some .boolean }, accessFlags := 9, code := some k18c1 }
def k18c2 : Code := { maxStack := 5, maxLocals := 5, code := jdk_43_method_50_code, exceptionTable := #[], attributes := #[] }
def k18m2 : Method := { name := "inflate", desc := "([BI[BII)V", sig := { parameters := [(.array .byte), .int, (.array .byte), .int, .int], returnType := none }, accessFlags := 9, code := some k18c2 }
/-- java/lang/StringLatin1 -/
def k18 : Class := { plain "java/lang/StringLatin1" (some 0) with
  accessFlags := 48
  interfaces := #[]
  cf := some (fileOf pool18 14 #[.nestMembers #[390, 221]] #[{ accessFlags := 0, nameIndex := 7, descriptorIndex := 8, attributes := #[] }, { accessFlags := 9, nameIndex := 281, descriptorIndex := 282, attributes := #[] }, { accessFlags := 9, nameIndex := 17, descriptorIndex := 27, attributes := #[] }] 48 4 #[] #[{ accessFlags := 4120, nameIndex := 121, descriptorIndex := 122, attributes := #[] }])
  fields := #[{ name := "$assertionsDisabled", type := .boolean, accessFlags := 4120, slot := 0, constantValue := 0 }]
  methods := #[k18m0, k18m1, k18m2]
  instanceTypes := #[]
  staticTypes := #[.boolean]
  resolved := Array.replicate 395 none
  statics := none }

def pool19 : Array CpInfo := pool [(1, u "java/lang/Cloneable"), (0, .class_ 1), (0, u "java/lang/Object"), (0, .class_ 3)] 3

/-- java/lang/Cloneable -/
def k19 : Class := { plain "java/lang/Cloneable" (some 0) with
  accessFlags := 1537
  interfaces := #[]
  cf := some (fileOf pool19 2 #[] #[] 1537 4 #[] #[])
  fields := #[]
  methods := #[]
  instanceTypes := #[]
  staticTypes := #[]
  resolved := Array.replicate 8 none
  statics := none }

/-- the primitive byte -/
def k20 : Class := { plain "byte" none with kind := .primitive 'B', accessFlags := 0x411 }
/-- [B -/
def k21 : Class := { plain "[B" (some 0) with kind := .array 20 .byte, interfaces := #[19, 2], accessFlags := 1041 }

/-- the primitive char -/
def k22 : Class := { plain "char" none with kind := .primitive 'C', accessFlags := 0x411 }
/-- [C -/
def k23 : Class := { plain "[C" (some 0) with kind := .array 22 .char, interfaces := #[19, 2], accessFlags := 1041 }

/-- the primitive int -/
def k24 : Class := { plain "int" none with kind := .primitive 'I', accessFlags := 0x411 }
/-- [I -/
def k25 : Class := { plain "[I" (some 0) with kind := .array 24 .int, interfaces := #[19, 2], accessFlags := 1041 }

def heap : Heap := #[{ cls := 7, slots := #[.long 0, .int 1, .null, .int 0, .null, .int 0, .int 0], vm := .statics 7 },
  { cls := 8, slots := #[.int 0, .int 8, .int 0, .int 1], vm := .statics 8 },
  { cls := 13, slots := #[.null, .null, .null], vm := .statics 13 }]
def classes : Array Class := #[k0, k1, k2, k3, k4, k5, k6, k7, k8, k9, k10, k11, k12, k13, k14, k15, k16, k17, k18, k19, k20, k21, k22, k23, k24, k25]
def interned : List (Array UInt16 × Addr) := []
def slotsUsed : Nat := 14
def theMethod : MethodId := ⟨1, 1⟩
def args0 : Array Value := #[.int 5, .long 6, .long 7, .long 8]
def aboutOver (below : List Frame) : State where
  vm := { classes := classes, interned := interned.toArray }
  heap := heap
  slotsUsed := slotsUsed
  threads := #[{ frames := .invoking theMethod args0 :: below }]
def below0 : List Frame := [.native { method := ⟨0, 0⟩, args := #[] }]
def about1 : State := aboutOver below0
def p0 : Program := .bare "" "" ""
def e0 : Env := launch0.env 0 0 0
theorem w_frames : about1.frames = Frame.invoking theMethod args0 :: below0 := rfl
set_option maxRecDepth 65536 in
theorem w_args : argsFit about1.vm theMethod args0 = true := by decide +kernel
set_option maxRecDepth 65536 in
theorem w_heap : heapFits about1 = true := by decide +kernel
set_option maxRecDepth 65536 in
theorem w_runnable : about1.curStatus? = some .runnable := by decide +kernel
set_option maxRecDepth 65536 in
theorem w_alone : about1.alone = true := by decide +kernel
set_option maxRecDepth 65536 in
theorem w_named : about1.methodNamed? x = some theMethod := by decide +kernel
set_option maxRecDepth 65536 in
theorem w_hears : about1.hears theMethod below0 = true := by decide +kernel
set_option maxRecDepth 65536 in
theorem w_ripe : about1.ripe theMethod args0 below0 = true := by decide +kernel
theorem w_running : about1.status = .running := rfl
set_option maxRecDepth 65536 in
theorem w_room : about1.hasRoom e0.platform room_1 = true :=
  launch0.hasRoom_least _ room_1 (by decide +kernel) (by decide +kernel) (by decide +kernel) (by decide +kernel) (by decide +kernel) (by decide +kernel)
theorem allAtoms_all (ts : List Jvm.Cond) (a : Array Jvm.Value) (st : Jvm.State) : (allAtoms ts).before a st = ts.all (fun c => c.before a st) := by
  induction ts with
  | nil => rfl
  | cons c t ih =>
    show (Jvm.Cond.and c (allAtoms t)).before a st = _
    rw [Jvm.Cond.before_and, ih, List.all_cons]
def words1 : List Jvm.Cond := Jvm.Cond.code x code maxLocals ret :: tables_1
/-- a 'code' word, met by the world's own term for the bytes: nothing is compared byte by byte -/
theorem code_word {y : MethodName} {bytes : ByteArray} {mx : Nat} {rt : Option FieldType} {a : Array Value} {s : State} {m : MethodId} {meth : Method} {c : Code} (h1 : s.methodNamed? y = some m) (h2 : s.vm.method? m = some meth) (h3 : meth.code = some c) (h4 : c.code = bytes)
    (h5 : (c.maxLocals == mx && c.exceptionTable.isEmpty && decide (c.maxStack ≤ mostOperands) && decide (meth.sig.returnType = rt) && !meth.locks && decide (parseMethodDescriptor y.desc = some meth.sig)) = true) : (Jvm.Cond.code y bytes mx rt).before a s = true := by
  simp only [Bool.and_eq_true, beq_iff_eq, Bool.not_eq_true', decide_eq_true_eq] at h5
  obtain ⟨⟨⟨⟨⟨g1, g2⟩, g3⟩, g4⟩, g5⟩, g6⟩ := h5
  simp [Cond.before, Cond.holds, Cond.value, h1, h2, h3, h4, g1, g2, g3, g4, g5, g6]
def isCode : Jvm.Cond → Bool
  | .code _ _ _ _ => true
  | _ => false
theorem all_split {L : List Jvm.Cond} {P : Jvm.Cond → Bool} (h1 : L.all (fun c => isCode c || P c) = true) (h2 : ∀ c ∈ L.filter isCode, P c = true) : L.all P = true := by
  refine List.all_eq_true.mpr fun c hc => ?_
  have h := List.all_eq_true.mp h1 c hc
  rcases Bool.eq_false_or_eq_true (isCode c) with hi | hi
  · exact h2 c (List.mem_filter.mpr ⟨hc, hi⟩)
  · simpa [hi] using h
set_option maxRecDepth 65536 in
theorem w_c0 : (Jvm.Cond.code x code maxLocals ret).before args0 about1 = true := code_word (m := ⟨1, 1⟩) (meth := k1m1) (c := k1c1) (by decide +kernel) rfl rfl rfl (by decide +kernel)
set_option maxRecDepth 65536 in
theorem w_c1 : (Jvm.Cond.code ({ cls := "com/example/stateful_search/statefulsearch/format/ExcerptsAbbreviatePinLaw", name := "mk", desc := "(I)[C" } : Jvm.MethodName) method_3_code (1 : Nat) (Option.some (Jvm.ClassFile.FieldType.array Jvm.ClassFile.FieldType.char))).before args0 about1 = true := code_word (m := ⟨1, 2⟩) (meth := k1m2) (c := k1c2) (by decide +kernel) rfl rfl rfl (by decide +kernel)
set_option maxRecDepth 65536 in
theorem w_c2 : (Jvm.Cond.code ({ cls := "com/example/stateful_search/statefulsearch/format/ExcerptsAbbreviatePinLaw", name := "fill", desc := "([CJJJI)V" } : Jvm.MethodName) method_6_code (8 : Nat) (Option.none : Option Jvm.ClassFile.FieldType)).before args0 about1 = true := code_word (m := ⟨1, 5⟩) (meth := k1m5) (c := k1c5) (by decide +kernel) rfl rfl rfl (by decide +kernel)
set_option maxRecDepth 65536 in
theorem w_c3 : (Jvm.Cond.code ({ cls := "com/example/stateful_search/statefulsearch/format/ExcerptsAbbreviatePinLaw", name := "put", desc := "([CIJJJI)V" } : Jvm.MethodName) method_5_code (9 : Nat) (Option.none : Option Jvm.ClassFile.FieldType)).before args0 about1 = true := code_word (m := ⟨1, 4⟩) (meth := k1m4) (c := k1c4) (by decide +kernel) rfl rfl rfl (by decide +kernel)
set_option maxRecDepth 65536 in
theorem w_c4 : (Jvm.Cond.code ({ cls := "java/lang/String", name := "<init>", desc := "([C)V" } : Jvm.MethodName) jdk_42_method_3_code (2 : Nat) (Option.none : Option Jvm.ClassFile.FieldType)).before args0 about1 = true := code_word (m := ⟨7, 1⟩) (meth := k7m1) (c := k7c1) (by decide +kernel) rfl rfl rfl (by decide +kernel)
set_option maxRecDepth 65536 in
theorem w_c5 : (Jvm.Cond.code ({ cls := "java/lang/String", name := "<init>", desc := "([CIILjava/lang/Void;)V" } : Jvm.MethodName) jdk_42_method_149_code (6 : Nat) (Option.none : Option Jvm.ClassFile.FieldType)).before args0 about1 = true := code_word (m := ⟨7, 7⟩) (meth := k7m7) (c := k7c7) (by decide +kernel) rfl rfl rfl (by decide +kernel)
set_option maxRecDepth 65536 in
theorem w_c6 : (Jvm.Cond.code ({ cls := "java/lang/Object", name := "<init>", desc := "()V" } : Jvm.MethodName) object_method_1_code (1 : Nat) (Option.none : Option Jvm.ClassFile.FieldType)).before args0 about1 = true := code_word (m := ⟨0, 0⟩) (meth := k0m0) (c := k0c0) (by decide +kernel) rfl rfl rfl (by decide +kernel)
set_option maxRecDepth 65536 in
theorem w_c7 : (Jvm.Cond.code ({ cls := "com/example/stateful_search/statefulsearch/format/ExcerptsAbbreviatePinLaw", name := "ch", desc := "(JJJI)C" } : Jvm.MethodName) method_4_code (11 : Nat) (Option.some Jvm.ClassFile.FieldType.char)).before args0 about1 = true := code_word (m := ⟨1, 3⟩) (meth := k1m3) (c := k1c3) (by decide +kernel) rfl rfl rfl (by decide +kernel)
set_option maxRecDepth 65536 in
theorem w_c8 : (Jvm.Cond.code ({ cls := "java/lang/StringUTF16", name := "compress", desc := "([CII)[B" } : Jvm.MethodName) jdk_52_method_16_code (6 : Nat) (Option.some (Jvm.ClassFile.FieldType.array Jvm.ClassFile.FieldType.byte))).before args0 about1 = true := code_word (m := ⟨8, 8⟩) (meth := k8m8) (c := k8c8) (by decide +kernel) rfl rfl rfl (by decide +kernel)
set_option maxRecDepth 65536 in
theorem w_c9 : (Jvm.Cond.code ({ cls := "java/lang/StringUTF16", name := "compress", desc := "([CI[BII)I" } : Jvm.MethodName) jdk_52_method_21_code (7 : Nat) (Option.some Jvm.ClassFile.FieldType.int)).before args0 about1 = true := code_word (m := ⟨8, 10⟩) (meth := k8m10) (c := k8c10) (by decide +kernel) rfl rfl rfl (by decide +kernel)
set_option maxRecDepth 65536 in
theorem w_c10 : (Jvm.Cond.code ({ cls := "java/lang/StringUTF16", name := "toBytes", desc := "([CII)[B" } : Jvm.MethodName) jdk_52_method_14_code (5 : Nat) (Option.some (Jvm.ClassFile.FieldType.array Jvm.ClassFile.FieldType.byte))).before args0 about1 = true := code_word (m := ⟨8, 6⟩) (meth := k8m6) (c := k8c6) (by decide +kernel) rfl rfl rfl (by decide +kernel)
set_option maxRecDepth 65536 in
theorem w_c11 : (Jvm.Cond.code ({ cls := "java/lang/StringUTF16", name := "newBytesFor", desc := "(I)[B" } : Jvm.MethodName) jdk_52_method_2_code (1 : Nat) (Option.some (Jvm.ClassFile.FieldType.array Jvm.ClassFile.FieldType.byte))).before args0 about1 = true := code_word (m := ⟨8, 1⟩) (meth := k8m1) (c := k8c1) (by decide +kernel) rfl rfl rfl (by decide +kernel)
set_option maxRecDepth 65536 in
theorem w_c12 : (Jvm.Cond.code ({ cls := "java/lang/StringUTF16", name := "newBytesLength", desc := "(I)I" } : Jvm.MethodName) jdk_52_method_3_code (1 : Nat) (Option.some Jvm.ClassFile.FieldType.int)).before args0 about1 = true := code_word (m := ⟨8, 2⟩) (meth := k8m2) (c := k8c2) (by decide +kernel) rfl rfl rfl (by decide +kernel)
set_option maxRecDepth 65536 in
theorem w_c13 : (Jvm.Cond.code ({ cls := "java/lang/StringUTF16", name := "putChar", desc := "([BII)V" } : Jvm.MethodName) jdk_52_method_4_code (3 : Nat) (Option.none : Option Jvm.ClassFile.FieldType)).before args0 about1 = true := code_word (m := ⟨8, 3⟩) (meth := k8m3) (c := k8c3) (by decide +kernel) rfl rfl rfl (by decide +kernel)
set_option maxRecDepth 65536 in
theorem w_c14 : (Jvm.Cond.code ({ cls := "java/lang/StringUTF16", name := "getChar", desc := "([BI)C" } : Jvm.MethodName) jdk_52_method_5_code (2 : Nat) (Option.some Jvm.ClassFile.FieldType.char)).before args0 about1 = true := code_word (m := ⟨8, 4⟩) (meth := k8m4) (c := k8c4) (by decide +kernel) rfl rfl rfl (by decide +kernel)
set_option maxRecDepth 65536 in
theorem w_c15 : (Jvm.Cond.code ({ cls := "java/lang/StringUTF16", name := "coderFromArrayLen", desc := "([BI)B" } : Jvm.MethodName) jdk_52_method_15_code (2 : Nat) (Option.some Jvm.ClassFile.FieldType.byte)).before args0 about1 = true := code_word (m := ⟨8, 7⟩) (meth := k8m7) (c := k8c7) (by decide +kernel) rfl rfl rfl (by decide +kernel)
set_option maxRecDepth 65536 in
theorem w_c16 : (Jvm.Cond.code ({ cls := "com/example/stateful_search/statefulsearch/format/Excerpts", name := "abbreviate", desc := "(Ljava/lang/String;)Ljava/lang/String;" } : Jvm.MethodName) prog_9_method_2_code (1 : Nat) (Option.some (Jvm.ClassFile.FieldType.object "java/lang/String"))).before args0 about1 = true := code_word (m := ⟨9, 1⟩) (meth := k9m1) (c := k9c1) (by decide +kernel) rfl rfl rfl (by decide +kernel)
set_option maxRecDepth 65536 in
theorem w_c17 : (Jvm.Cond.code ({ cls := "java/lang/String", name := "length", desc := "()I" } : Jvm.MethodName) jdk_42_method_54_code (1 : Nat) (Option.some Jvm.ClassFile.FieldType.int)).before args0 about1 = true := code_word (m := ⟨7, 3⟩) (meth := k7m3) (c := k7c3) (by decide +kernel) rfl rfl rfl (by decide +kernel)
set_option maxRecDepth 65536 in
theorem w_c18 : (Jvm.Cond.code ({ cls := "java/lang/String", name := "coder", desc := "()B" } : Jvm.MethodName) jdk_42_method_152_code (1 : Nat) (Option.some Jvm.ClassFile.FieldType.byte)).before args0 about1 = true := code_word (m := ⟨7, 10⟩) (meth := k7m10) (c := k7c10) (by decide +kernel) rfl rfl rfl (by decide +kernel)
set_option maxRecDepth 65536 in
theorem w_c19 : (Jvm.Cond.code ({ cls := "java/lang/String", name := "equals", desc := "(Ljava/lang/Object;)Z" } : Jvm.MethodName) jdk_42_method_66_code (3 : Nat) (Option.some Jvm.ClassFile.FieldType.boolean)).before args0 about1 = true := code_word (m := ⟨7, 4⟩) (meth := k7m4) (c := k7c4) (by decide +kernel) rfl rfl rfl (by decide +kernel)
set_option maxRecDepth 65536 in
theorem w_c20 : (Jvm.Cond.code ({ cls := "java/lang/StringBuilder", name := "<init>", desc := "()V" } : Jvm.MethodName) jdk_67_method_1_code (1 : Nat) (Option.none : Option Jvm.ClassFile.FieldType)).before args0 about1 = true := code_word (m := ⟨12, 0⟩) (meth := k12m0) (c := k12c0) (by decide +kernel) rfl rfl rfl (by decide +kernel)
set_option maxRecDepth 65536 in
theorem w_c21 : (Jvm.Cond.code ({ cls := "java/lang/AbstractStringBuilder", name := "<init>", desc := "(I)V" } : Jvm.MethodName) jdk_68_method_2_code (2 : Nat) (Option.none : Option Jvm.ClassFile.FieldType)).before args0 about1 = true := code_word (m := ⟨11, 1⟩) (meth := k11m1) (c := k11c1) (by decide +kernel) rfl rfl rfl (by decide +kernel)
set_option maxRecDepth 65536 in
theorem w_c22 : (Jvm.Cond.code ({ cls := "java/lang/String", name := "substring", desc := "(II)Ljava/lang/String;" } : Jvm.MethodName) jdk_42_method_92_code (5 : Nat) (Option.some (Jvm.ClassFile.FieldType.object "java/lang/String"))).before args0 about1 = true := code_word (m := ⟨7, 5⟩) (meth := k7m5) (c := k7c5) (by decide +kernel) rfl rfl rfl (by decide +kernel)
set_option maxRecDepth 65536 in
theorem w_c23 : (Jvm.Cond.code ({ cls := "java/lang/String", name := "checkBoundsBeginEnd", desc := "(III)V" } : Jvm.MethodName) jdk_42_method_158_code (3 : Nat) (Option.none : Option Jvm.ClassFile.FieldType)).before args0 about1 = true := code_word (m := ⟨7, 13⟩) (meth := k7m13) (c := k7c13) (by decide +kernel) rfl rfl rfl (by decide +kernel)
set_option maxRecDepth 65536 in
theorem w_c24 : (Jvm.Cond.code ({ cls := "jdk/internal/util/Preconditions", name := "checkFromToIndex", desc := "(IIILjava/util/function/BiFunction;)I" } : Jvm.MethodName) jdk_41_method_12_code (4 : Nat) (Option.some Jvm.ClassFile.FieldType.int)).before args0 about1 = true := code_word (m := ⟨13, 1⟩) (meth := k13m1) (c := k13c1) (by decide +kernel) rfl rfl rfl (by decide +kernel)
set_option maxRecDepth 65536 in
theorem w_c25 : (Jvm.Cond.code ({ cls := "java/lang/String", name := "isLatin1", desc := "()Z" } : Jvm.MethodName) jdk_42_method_154_code (1 : Nat) (Option.some Jvm.ClassFile.FieldType.boolean)).before args0 about1 = true := code_word (m := ⟨7, 11⟩) (meth := k7m11) (c := k7c11) (by decide +kernel) rfl rfl rfl (by decide +kernel)
set_option maxRecDepth 65536 in
theorem w_c26 : (Jvm.Cond.code ({ cls := "java/lang/StringUTF16", name := "newString", desc := "([BII)Ljava/lang/String;" } : Jvm.MethodName) jdk_52_method_69_code (5 : Nat) (Option.some (Jvm.ClassFile.FieldType.object "java/lang/String"))).before args0 about1 = true := code_word (m := ⟨8, 12⟩) (meth := k8m12) (c := k8c12) (by decide +kernel) rfl rfl rfl (by decide +kernel)
set_option maxRecDepth 65536 in
theorem w_c27 : (Jvm.Cond.code ({ cls := "java/lang/StringUTF16", name := "compress", desc := "([BII)[B" } : Jvm.MethodName) jdk_52_method_17_code (6 : Nat) (Option.some (Jvm.ClassFile.FieldType.array Jvm.ClassFile.FieldType.byte))).before args0 about1 = true := code_word (m := ⟨8, 9⟩) (meth := k8m9) (c := k8c9) (by decide +kernel) rfl rfl rfl (by decide +kernel)
set_option maxRecDepth 65536 in
theorem w_c28 : (Jvm.Cond.code ({ cls := "java/lang/StringUTF16", name := "compress", desc := "([BI[BII)I" } : Jvm.MethodName) jdk_52_method_22_code (7 : Nat) (Option.some Jvm.ClassFile.FieldType.int)).before args0 about1 = true := code_word (m := ⟨8, 11⟩) (meth := k8m11) (c := k8c11) (by decide +kernel) rfl rfl rfl (by decide +kernel)
set_option maxRecDepth 65536 in
theorem w_c29 : (Jvm.Cond.code ({ cls := "java/lang/StringUTF16", name := "checkBoundsOffCount", desc := "(II[B)V" } : Jvm.MethodName) jdk_52_method_94_code (3 : Nat) (Option.none : Option Jvm.ClassFile.FieldType)).before args0 about1 = true := code_word (m := ⟨8, 14⟩) (meth := k8m14) (c := k8c14) (by decide +kernel) rfl rfl rfl (by decide +kernel)
set_option maxRecDepth 65536 in
theorem w_c30 : (Jvm.Cond.code ({ cls := "java/lang/StringUTF16", name := "length", desc := "([B)I" } : Jvm.MethodName) jdk_52_method_6_code (1 : Nat) (Option.some Jvm.ClassFile.FieldType.int)).before args0 about1 = true := code_word (m := ⟨8, 5⟩) (meth := k8m5) (c := k8c5) (by decide +kernel) rfl rfl rfl (by decide +kernel)
set_option maxRecDepth 65536 in
theorem w_c31 : (Jvm.Cond.code ({ cls := "java/lang/String", name := "checkBoundsOffCount", desc := "(III)I" } : Jvm.MethodName) jdk_42_method_157_code (3 : Nat) (Option.some Jvm.ClassFile.FieldType.int)).before args0 about1 = true := code_word (m := ⟨7, 12⟩) (meth := k7m12) (c := k7c12) (by decide +kernel) rfl rfl rfl (by decide +kernel)
set_option maxRecDepth 65536 in
theorem w_c32 : (Jvm.Cond.code ({ cls := "jdk/internal/util/Preconditions", name := "checkFromIndexSize", desc := "(IIILjava/util/function/BiFunction;)I" } : Jvm.MethodName) jdk_41_method_13_code (4 : Nat) (Option.some Jvm.ClassFile.FieldType.int)).before args0 about1 = true := code_word (m := ⟨13, 2⟩) (meth := k13m2) (c := k13c2) (by decide +kernel) rfl rfl rfl (by decide +kernel)
set_option maxRecDepth 65536 in
theorem w_c33 : (Jvm.Cond.code ({ cls := "java/util/Arrays", name := "copyOfRange", desc := "([BII)[B" } : Jvm.MethodName) jdk_65_method_132_code (3 : Nat) (Option.some (Jvm.ClassFile.FieldType.array Jvm.ClassFile.FieldType.byte))).before args0 about1 = true := code_word (m := ⟨14, 3⟩) (meth := k14m3) (c := k14c3) (by decide +kernel) rfl rfl rfl (by decide +kernel)
set_option maxRecDepth 65536 in
theorem w_c34 : (Jvm.Cond.code ({ cls := "java/util/Arrays", name := "copyOfRangeByte", desc := "([BII)[B" } : Jvm.MethodName) jdk_65_method_133_code (5 : Nat) (Option.some (Jvm.ClassFile.FieldType.array Jvm.ClassFile.FieldType.byte))).before args0 about1 = true := code_word (m := ⟨14, 4⟩) (meth := k14m4) (c := k14c4) (by decide +kernel) rfl rfl rfl (by decide +kernel)
set_option maxRecDepth 65536 in
theorem w_c35 : (Jvm.Cond.code ({ cls := "java/util/Arrays", name := "checkLength", desc := "(II)V" } : Jvm.MethodName) jdk_65_method_131_code (2 : Nat) (Option.none : Option Jvm.ClassFile.FieldType)).before args0 about1 = true := code_word (m := ⟨14, 2⟩) (meth := k14m2) (c := k14c2) (by decide +kernel) rfl rfl rfl (by decide +kernel)
set_option maxRecDepth 65536 in
theorem w_c36 : (Jvm.Cond.code ({ cls := "java/lang/Math", name := "min", desc := "(II)I" } : Jvm.MethodName) jdk_29_method_69_code (2 : Nat) (Option.some Jvm.ClassFile.FieldType.int)).before args0 about1 = true := code_word (m := ⟨15, 2⟩) (meth := k15m2) (c := k15c2) (by decide +kernel) rfl rfl rfl (by decide +kernel)
set_option maxRecDepth 65536 in
theorem w_c37 : (Jvm.Cond.code ({ cls := "java/lang/String", name := "<init>", desc := "([BB)V" } : Jvm.MethodName) jdk_42_method_151_code (3 : Nat) (Option.none : Option Jvm.ClassFile.FieldType)).before args0 about1 = true := code_word (m := ⟨7, 9⟩) (meth := k7m9) (c := k7c9) (by decide +kernel) rfl rfl rfl (by decide +kernel)
set_option maxRecDepth 65536 in
theorem w_c38 : (Jvm.Cond.code ({ cls := "java/lang/StringBuilder", name := "append", desc := "(Ljava/lang/String;)Ljava/lang/StringBuilder;" } : Jvm.MethodName) jdk_67_method_7_code (2 : Nat) (Option.some (Jvm.ClassFile.FieldType.object "java/lang/StringBuilder"))).before args0 about1 = true := code_word (m := ⟨12, 1⟩) (meth := k12m1) (c := k12c1) (by decide +kernel) rfl rfl rfl (by decide +kernel)
set_option maxRecDepth 65536 in
theorem w_c39 : (Jvm.Cond.code ({ cls := "java/lang/AbstractStringBuilder", name := "append", desc := "(Ljava/lang/String;)Ljava/lang/AbstractStringBuilder;" } : Jvm.MethodName) jdk_68_method_22_code (3 : Nat) (Option.some (Jvm.ClassFile.FieldType.object "java/lang/AbstractStringBuilder"))).before args0 about1 = true := code_word (m := ⟨11, 6⟩) (meth := k11m6) (c := k11c6) (by decide +kernel) rfl rfl rfl (by decide +kernel)
set_option maxRecDepth 65536 in
theorem w_c40 : (Jvm.Cond.code ({ cls := "java/lang/AbstractStringBuilder", name := "ensureCapacityInternal", desc := "(I)V" } : Jvm.MethodName) jdk_68_method_9_code (3 : Nat) (Option.none : Option Jvm.ClassFile.FieldType)).before args0 about1 = true := code_word (m := ⟨11, 3⟩) (meth := k11m3) (c := k11c3) (by decide +kernel) rfl rfl rfl (by decide +kernel)
set_option maxRecDepth 65536 in
theorem w_c41 : (Jvm.Cond.code ({ cls := "java/lang/AbstractStringBuilder", name := "newCapacity", desc := "(I)I" } : Jvm.MethodName) jdk_68_method_10_code (6 : Nat) (Option.some Jvm.ClassFile.FieldType.int)).before args0 about1 = true := code_word (m := ⟨11, 4⟩) (meth := k11m4) (c := k11c4) (by decide +kernel) rfl rfl rfl (by decide +kernel)
set_option maxRecDepth 65536 in
theorem w_c42 : (Jvm.Cond.code ({ cls := "jdk/internal/util/ArraysSupport", name := "newLength", desc := "(III)I" } : Jvm.MethodName) jdk_48_method_27_code (4 : Nat) (Option.some Jvm.ClassFile.FieldType.int)).before args0 about1 = true := code_word (m := ⟨17, 1⟩) (meth := k17m1) (c := k17c1) (by decide +kernel) rfl rfl rfl (by decide +kernel)
set_option maxRecDepth 65536 in
theorem w_c43 : (Jvm.Cond.code ({ cls := "java/lang/Math", name := "max", desc := "(II)I" } : Jvm.MethodName) jdk_29_method_65_code (2 : Nat) (Option.some Jvm.ClassFile.FieldType.int)).before args0 about1 = true := code_word (m := ⟨15, 1⟩) (meth := k15m1) (c := k15c1) (by decide +kernel) rfl rfl rfl (by decide +kernel)
set_option maxRecDepth 65536 in
theorem w_c44 : (Jvm.Cond.code ({ cls := "java/util/Arrays", name := "copyOf", desc := "([BI)[B" } : Jvm.MethodName) jdk_65_method_121_code (3 : Nat) (Option.some (Jvm.ClassFile.FieldType.array Jvm.ClassFile.FieldType.byte))).before args0 about1 = true := code_word (m := ⟨14, 1⟩) (meth := k14m1) (c := k14c1) (by decide +kernel) rfl rfl rfl (by decide +kernel)
set_option maxRecDepth 65536 in
theorem w_c45 : (Jvm.Cond.code ({ cls := "java/lang/AbstractStringBuilder", name := "putStringAt", desc := "(ILjava/lang/String;)V" } : Jvm.MethodName) jdk_68_method_73_code (3 : Nat) (Option.none : Option Jvm.ClassFile.FieldType)).before args0 about1 = true := code_word (m := ⟨11, 10⟩) (meth := k11m10) (c := k11c10) (by decide +kernel) rfl rfl rfl (by decide +kernel)
set_option maxRecDepth 65536 in
theorem w_c46 : (Jvm.Cond.code ({ cls := "java/lang/AbstractStringBuilder", name := "inflateIfNeededFor", desc := "(Ljava/lang/String;)V" } : Jvm.MethodName) jdk_68_method_71_code (2 : Nat) (Option.none : Option Jvm.ClassFile.FieldType)).before args0 about1 = true := code_word (m := ⟨11, 9⟩) (meth := k11m9) (c := k11c9) (by decide +kernel) rfl rfl rfl (by decide +kernel)
set_option maxRecDepth 65536 in
theorem w_c47 : (Jvm.Cond.code ({ cls := "java/lang/AbstractStringBuilder", name := "inflate", desc := "()V" } : Jvm.MethodName) jdk_68_method_11_code (2 : Nat) (Option.none : Option Jvm.ClassFile.FieldType)).before args0 about1 = true := code_word (m := ⟨11, 5⟩) (meth := k11m5) (c := k11c5) (by decide +kernel) rfl rfl rfl (by decide +kernel)
set_option maxRecDepth 65536 in
theorem w_c48 : (Jvm.Cond.code ({ cls := "java/lang/AbstractStringBuilder", name := "isLatin1", desc := "()Z" } : Jvm.MethodName) jdk_68_method_68_code (1 : Nat) (Option.some Jvm.ClassFile.FieldType.boolean)).before args0 about1 = true := code_word (m := ⟨11, 8⟩) (meth := k11m8) (c := k11c8) (by decide +kernel) rfl rfl rfl (by decide +kernel)
set_option maxRecDepth 65536 in
theorem w_c49 : (Jvm.Cond.code ({ cls := "java/lang/StringLatin1", name := "inflate", desc := "([BI[BII)V" } : Jvm.MethodName) jdk_43_method_50_code (5 : Nat) (Option.none : Option Jvm.ClassFile.FieldType)).before args0 about1 = true := code_word (m := ⟨18, 2⟩) (meth := k18m2) (c := k18c2) (by decide +kernel) rfl rfl rfl (by decide +kernel)
set_option maxRecDepth 65536 in
theorem w_c50 : (Jvm.Cond.code ({ cls := "java/lang/StringUTF16", name := "inflate", desc := "([BI[BII)V" } : Jvm.MethodName) jdk_52_method_86_code (6 : Nat) (Option.none : Option Jvm.ClassFile.FieldType)).before args0 about1 = true := code_word (m := ⟨8, 13⟩) (meth := k8m13) (c := k8c13) (by decide +kernel) rfl rfl rfl (by decide +kernel)
set_option maxRecDepth 65536 in
theorem w_c51 : (Jvm.Cond.code ({ cls := "java/lang/String", name := "getBytes", desc := "([BIB)V" } : Jvm.MethodName) jdk_42_method_147_code (4 : Nat) (Option.none : Option Jvm.ClassFile.FieldType)).before args0 about1 = true := code_word (m := ⟨7, 6⟩) (meth := k7m6) (c := k7c6) (by decide +kernel) rfl rfl rfl (by decide +kernel)
set_option maxRecDepth 65536 in
theorem w_c52 : (Jvm.Cond.code ({ cls := "java/lang/StringBuilder", name := "toString", desc := "()Ljava/lang/String;" } : Jvm.MethodName) jdk_67_method_42_code (1 : Nat) (Option.some (Jvm.ClassFile.FieldType.object "java/lang/String"))).before args0 about1 = true := code_word (m := ⟨12, 2⟩) (meth := k12m2) (c := k12c2) (by decide +kernel) rfl rfl rfl (by decide +kernel)
set_option maxRecDepth 65536 in
theorem w_c53 : (Jvm.Cond.code ({ cls := "java/lang/String", name := "<init>", desc := "(Ljava/lang/StringBuilder;)V" } : Jvm.MethodName) jdk_42_method_53_code (2 : Nat) (Option.none : Option Jvm.ClassFile.FieldType)).before args0 about1 = true := code_word (m := ⟨7, 2⟩) (meth := k7m2) (c := k7c2) (by decide +kernel) rfl rfl rfl (by decide +kernel)
set_option maxRecDepth 65536 in
theorem w_c54 : (Jvm.Cond.code ({ cls := "java/lang/String", name := "<init>", desc := "(Ljava/lang/AbstractStringBuilder;Ljava/lang/Void;)V" } : Jvm.MethodName) jdk_42_method_150_code (5 : Nat) (Option.none : Option Jvm.ClassFile.FieldType)).before args0 about1 = true := code_word (m := ⟨7, 8⟩) (meth := k7m8) (c := k7c8) (by decide +kernel) rfl rfl rfl (by decide +kernel)
set_option maxRecDepth 65536 in
theorem w_c55 : (Jvm.Cond.code ({ cls := "java/lang/AbstractStringBuilder", name := "getValue", desc := "()[B" } : Jvm.MethodName) jdk_68_method_64_code (1 : Nat) (Option.some (Jvm.ClassFile.FieldType.array Jvm.ClassFile.FieldType.byte))).before args0 about1 = true := code_word (m := ⟨11, 7⟩) (meth := k11m7) (c := k11c7) (by decide +kernel) rfl rfl rfl (by decide +kernel)
set_option maxRecDepth 65536 in
theorem w_c56 : (Jvm.Cond.code ({ cls := "java/lang/StringBuilder", name := "length", desc := "()I" } : Jvm.MethodName) jdk_67_method_93_code (1 : Nat) (Option.some Jvm.ClassFile.FieldType.int)).before args0 about1 = true := code_word (m := ⟨12, 3⟩) (meth := k12m3) (c := k12c3) (by decide +kernel) rfl rfl rfl (by decide +kernel)
set_option maxRecDepth 65536 in
theorem w_c57 : (Jvm.Cond.code ({ cls := "java/lang/AbstractStringBuilder", name := "length", desc := "()I" } : Jvm.MethodName) jdk_68_method_6_code (1 : Nat) (Option.some Jvm.ClassFile.FieldType.int)).before args0 about1 = true := code_word (m := ⟨11, 2⟩) (meth := k11m2) (c := k11c2) (by decide +kernel) rfl rfl rfl (by decide +kernel)
set_option maxRecDepth 65536 in
theorem w_c58 : (Jvm.Cond.code ({ cls := "java/lang/StringLatin1", name := "equals", desc := "([B[B)Z" } : Jvm.MethodName) jdk_43_method_13_code (3 : Nat) (Option.some Jvm.ClassFile.FieldType.boolean)).before args0 about1 = true := code_word (m := ⟨18, 1⟩) (meth := k18m1) (c := k18c1) (by decide +kernel) rfl rfl rfl (by decide +kernel)
def codes1 : List Jvm.Cond := [Jvm.Cond.code x code maxLocals ret, Jvm.Cond.code ({ cls := "com/example/stateful_search/statefulsearch/format/ExcerptsAbbreviatePinLaw", name := "mk", desc := "(I)[C" } : Jvm.MethodName) method_3_code (1 : Nat) (Option.some (Jvm.ClassFile.FieldType.array Jvm.ClassFile.FieldType.char)), Jvm.Cond.code ({ cls := "com/example/stateful_search/statefulsearch/format/ExcerptsAbbreviatePinLaw", name := "fill", desc := "([CJJJI)V" } : Jvm.MethodName) method_6_code (8 : Nat) (Option.none : Option Jvm.ClassFile.FieldType), Jvm.Cond.code ({ cls := "com/example/stateful_search/statefulsearch/format/ExcerptsAbbreviatePinLaw", name := "put", desc := "([CIJJJI)V" } : Jvm.MethodName) method_5_code (9 : Nat) (Option.none : Option Jvm.ClassFile.FieldType), Jvm.Cond.code ({ cls := "java/lang/String", name := "<init>", desc := "([C)V" } : Jvm.MethodName) jdk_42_method_3_code (2 : Nat) (Option.none : Option Jvm.ClassFile.FieldType), Jvm.Cond.code ({ cls := "java/lang/String", name := "<init>", desc := "([CIILjava/lang/Void;)V" } : Jvm.MethodName) jdk_42_method_149_code (6 : Nat) (Option.none : Option Jvm.ClassFile.FieldType), Jvm.Cond.code ({ cls := "java/lang/Object", name := "<init>", desc := "()V" } : Jvm.MethodName) object_method_1_code (1 : Nat) (Option.none : Option Jvm.ClassFile.FieldType), Jvm.Cond.code ({ cls := "com/example/stateful_search/statefulsearch/format/ExcerptsAbbreviatePinLaw", name := "ch", desc := "(JJJI)C" } : Jvm.MethodName) method_4_code (11 : Nat) (Option.some Jvm.ClassFile.FieldType.char), Jvm.Cond.code ({ cls := "java/lang/StringUTF16", name := "compress", desc := "([CII)[B" } : Jvm.MethodName) jdk_52_method_16_code (6 : Nat) (Option.some (Jvm.ClassFile.FieldType.array Jvm.ClassFile.FieldType.byte)), Jvm.Cond.code ({ cls := "java/lang/StringUTF16", name := "compress", desc := "([CI[BII)I" } : Jvm.MethodName) jdk_52_method_21_code (7 : Nat) (Option.some Jvm.ClassFile.FieldType.int), Jvm.Cond.code ({ cls := "java/lang/StringUTF16", name := "toBytes", desc := "([CII)[B" } : Jvm.MethodName) jdk_52_method_14_code (5 : Nat) (Option.some (Jvm.ClassFile.FieldType.array Jvm.ClassFile.FieldType.byte)), Jvm.Cond.code ({ cls := "java/lang/StringUTF16", name := "newBytesFor", desc := "(I)[B" } : Jvm.MethodName) jdk_52_method_2_code (1 : Nat) (Option.some (Jvm.ClassFile.FieldType.array Jvm.ClassFile.FieldType.byte)), Jvm.Cond.code ({ cls := "java/lang/StringUTF16", name := "newBytesLength", desc := "(I)I" } : Jvm.MethodName) jdk_52_method_3_code (1 : Nat) (Option.some Jvm.ClassFile.FieldType.int), Jvm.Cond.code ({ cls := "java/lang/StringUTF16", name := "putChar", desc := "([BII)V" } : Jvm.MethodName) jdk_52_method_4_code (3 : Nat) (Option.none : Option Jvm.ClassFile.FieldType), Jvm.Cond.code ({ cls := "java/lang/StringUTF16", name := "getChar", desc := "([BI)C" } : Jvm.MethodName) jdk_52_method_5_code (2 : Nat) (Option.some Jvm.ClassFile.FieldType.char), Jvm.Cond.code ({ cls := "java/lang/StringUTF16", name := "coderFromArrayLen", desc := "([BI)B" } : Jvm.MethodName) jdk_52_method_15_code (2 : Nat) (Option.some Jvm.ClassFile.FieldType.byte), Jvm.Cond.code ({ cls := "com/example/stateful_search/statefulsearch/format/Excerpts", name := "abbreviate", desc := "(Ljava/lang/String;)Ljava/lang/String;" } : Jvm.MethodName) prog_9_method_2_code (1 : Nat) (Option.some (Jvm.ClassFile.FieldType.object "java/lang/String")), Jvm.Cond.code ({ cls := "java/lang/String", name := "length", desc := "()I" } : Jvm.MethodName) jdk_42_method_54_code (1 : Nat) (Option.some Jvm.ClassFile.FieldType.int), Jvm.Cond.code ({ cls := "java/lang/String", name := "coder", desc := "()B" } : Jvm.MethodName) jdk_42_method_152_code (1 : Nat) (Option.some Jvm.ClassFile.FieldType.byte), Jvm.Cond.code ({ cls := "java/lang/String", name := "equals", desc := "(Ljava/lang/Object;)Z" } : Jvm.MethodName) jdk_42_method_66_code (3 : Nat) (Option.some Jvm.ClassFile.FieldType.boolean), Jvm.Cond.code ({ cls := "java/lang/StringBuilder", name := "<init>", desc := "()V" } : Jvm.MethodName) jdk_67_method_1_code (1 : Nat) (Option.none : Option Jvm.ClassFile.FieldType), Jvm.Cond.code ({ cls := "java/lang/AbstractStringBuilder", name := "<init>", desc := "(I)V" } : Jvm.MethodName) jdk_68_method_2_code (2 : Nat) (Option.none : Option Jvm.ClassFile.FieldType), Jvm.Cond.code ({ cls := "java/lang/String", name := "substring", desc := "(II)Ljava/lang/String;" } : Jvm.MethodName) jdk_42_method_92_code (5 : Nat) (Option.some (Jvm.ClassFile.FieldType.object "java/lang/String")), Jvm.Cond.code ({ cls := "java/lang/String", name := "checkBoundsBeginEnd", desc := "(III)V" } : Jvm.MethodName) jdk_42_method_158_code (3 : Nat) (Option.none : Option Jvm.ClassFile.FieldType), Jvm.Cond.code ({ cls := "jdk/internal/util/Preconditions", name := "checkFromToIndex", desc := "(IIILjava/util/function/BiFunction;)I" } : Jvm.MethodName) jdk_41_method_12_code (4 : Nat) (Option.some Jvm.ClassFile.FieldType.int), Jvm.Cond.code ({ cls := "java/lang/String", name := "isLatin1", desc := "()Z" } : Jvm.MethodName) jdk_42_method_154_code (1 : Nat) (Option.some Jvm.ClassFile.FieldType.boolean), Jvm.Cond.code ({ cls := "java/lang/StringUTF16", name := "newString", desc := "([BII)Ljava/lang/String;" } : Jvm.MethodName) jdk_52_method_69_code (5 : Nat) (Option.some (Jvm.ClassFile.FieldType.object "java/lang/String")), Jvm.Cond.code ({ cls := "java/lang/StringUTF16", name := "compress", desc := "([BII)[B" } : Jvm.MethodName) jdk_52_method_17_code (6 : Nat) (Option.some (Jvm.ClassFile.FieldType.array Jvm.ClassFile.FieldType.byte)), Jvm.Cond.code ({ cls := "java/lang/StringUTF16", name := "compress", desc := "([BI[BII)I" } : Jvm.MethodName) jdk_52_method_22_code (7 : Nat) (Option.some Jvm.ClassFile.FieldType.int), Jvm.Cond.code ({ cls := "java/lang/StringUTF16", name := "checkBoundsOffCount", desc := "(II[B)V" } : Jvm.MethodName) jdk_52_method_94_code (3 : Nat) (Option.none : Option Jvm.ClassFile.FieldType), Jvm.Cond.code ({ cls := "java/lang/StringUTF16", name := "length", desc := "([B)I" } : Jvm.MethodName) jdk_52_method_6_code (1 : Nat) (Option.some Jvm.ClassFile.FieldType.int), Jvm.Cond.code ({ cls := "java/lang/String", name := "checkBoundsOffCount", desc := "(III)I" } : Jvm.MethodName) jdk_42_method_157_code (3 : Nat) (Option.some Jvm.ClassFile.FieldType.int), Jvm.Cond.code ({ cls := "jdk/internal/util/Preconditions", name := "checkFromIndexSize", desc := "(IIILjava/util/function/BiFunction;)I" } : Jvm.MethodName) jdk_41_method_13_code (4 : Nat) (Option.some Jvm.ClassFile.FieldType.int), Jvm.Cond.code ({ cls := "java/util/Arrays", name := "copyOfRange", desc := "([BII)[B" } : Jvm.MethodName) jdk_65_method_132_code (3 : Nat) (Option.some (Jvm.ClassFile.FieldType.array Jvm.ClassFile.FieldType.byte)), Jvm.Cond.code ({ cls := "java/util/Arrays", name := "copyOfRangeByte", desc := "([BII)[B" } : Jvm.MethodName) jdk_65_method_133_code (5 : Nat) (Option.some (Jvm.ClassFile.FieldType.array Jvm.ClassFile.FieldType.byte)), Jvm.Cond.code ({ cls := "java/util/Arrays", name := "checkLength", desc := "(II)V" } : Jvm.MethodName) jdk_65_method_131_code (2 : Nat) (Option.none : Option Jvm.ClassFile.FieldType), Jvm.Cond.code ({ cls := "java/lang/Math", name := "min", desc := "(II)I" } : Jvm.MethodName) jdk_29_method_69_code (2 : Nat) (Option.some Jvm.ClassFile.FieldType.int), Jvm.Cond.code ({ cls := "java/lang/String", name := "<init>", desc := "([BB)V" } : Jvm.MethodName) jdk_42_method_151_code (3 : Nat) (Option.none : Option Jvm.ClassFile.FieldType), Jvm.Cond.code ({ cls := "java/lang/StringBuilder", name := "append", desc := "(Ljava/lang/String;)Ljava/lang/StringBuilder;" } : Jvm.MethodName) jdk_67_method_7_code (2 : Nat) (Option.some (Jvm.ClassFile.FieldType.object "java/lang/StringBuilder")), Jvm.Cond.code ({ cls := "java/lang/AbstractStringBuilder", name := "append", desc := "(Ljava/lang/String;)Ljava/lang/AbstractStringBuilder;" } : Jvm.MethodName) jdk_68_method_22_code (3 : Nat) (Option.some (Jvm.ClassFile.FieldType.object "java/lang/AbstractStringBuilder")), Jvm.Cond.code ({ cls := "java/lang/AbstractStringBuilder", name := "ensureCapacityInternal", desc := "(I)V" } : Jvm.MethodName) jdk_68_method_9_code (3 : Nat) (Option.none : Option Jvm.ClassFile.FieldType), Jvm.Cond.code ({ cls := "java/lang/AbstractStringBuilder", name := "newCapacity", desc := "(I)I" } : Jvm.MethodName) jdk_68_method_10_code (6 : Nat) (Option.some Jvm.ClassFile.FieldType.int), Jvm.Cond.code ({ cls := "jdk/internal/util/ArraysSupport", name := "newLength", desc := "(III)I" } : Jvm.MethodName) jdk_48_method_27_code (4 : Nat) (Option.some Jvm.ClassFile.FieldType.int), Jvm.Cond.code ({ cls := "java/lang/Math", name := "max", desc := "(II)I" } : Jvm.MethodName) jdk_29_method_65_code (2 : Nat) (Option.some Jvm.ClassFile.FieldType.int), Jvm.Cond.code ({ cls := "java/util/Arrays", name := "copyOf", desc := "([BI)[B" } : Jvm.MethodName) jdk_65_method_121_code (3 : Nat) (Option.some (Jvm.ClassFile.FieldType.array Jvm.ClassFile.FieldType.byte)), Jvm.Cond.code ({ cls := "java/lang/AbstractStringBuilder", name := "putStringAt", desc := "(ILjava/lang/String;)V" } : Jvm.MethodName) jdk_68_method_73_code (3 : Nat) (Option.none : Option Jvm.ClassFile.FieldType), Jvm.Cond.code ({ cls := "java/lang/AbstractStringBuilder", name := "inflateIfNeededFor", desc := "(Ljava/lang/String;)V" } : Jvm.MethodName) jdk_68_method_71_code (2 : Nat) (Option.none : Option Jvm.ClassFile.FieldType), Jvm.Cond.code ({ cls := "java/lang/AbstractStringBuilder", name := "inflate", desc := "()V" } : Jvm.MethodName) jdk_68_method_11_code (2 : Nat) (Option.none : Option Jvm.ClassFile.FieldType), Jvm.Cond.code ({ cls := "java/lang/AbstractStringBuilder", name := "isLatin1", desc := "()Z" } : Jvm.MethodName) jdk_68_method_68_code (1 : Nat) (Option.some Jvm.ClassFile.FieldType.boolean), Jvm.Cond.code ({ cls := "java/lang/StringLatin1", name := "inflate", desc := "([BI[BII)V" } : Jvm.MethodName) jdk_43_method_50_code (5 : Nat) (Option.none : Option Jvm.ClassFile.FieldType), Jvm.Cond.code ({ cls := "java/lang/StringUTF16", name := "inflate", desc := "([BI[BII)V" } : Jvm.MethodName) jdk_52_method_86_code (6 : Nat) (Option.none : Option Jvm.ClassFile.FieldType), Jvm.Cond.code ({ cls := "java/lang/String", name := "getBytes", desc := "([BIB)V" } : Jvm.MethodName) jdk_42_method_147_code (4 : Nat) (Option.none : Option Jvm.ClassFile.FieldType), Jvm.Cond.code ({ cls := "java/lang/StringBuilder", name := "toString", desc := "()Ljava/lang/String;" } : Jvm.MethodName) jdk_67_method_42_code (1 : Nat) (Option.some (Jvm.ClassFile.FieldType.object "java/lang/String")), Jvm.Cond.code ({ cls := "java/lang/String", name := "<init>", desc := "(Ljava/lang/StringBuilder;)V" } : Jvm.MethodName) jdk_42_method_53_code (2 : Nat) (Option.none : Option Jvm.ClassFile.FieldType), Jvm.Cond.code ({ cls := "java/lang/String", name := "<init>", desc := "(Ljava/lang/AbstractStringBuilder;Ljava/lang/Void;)V" } : Jvm.MethodName) jdk_42_method_150_code (5 : Nat) (Option.none : Option Jvm.ClassFile.FieldType), Jvm.Cond.code ({ cls := "java/lang/AbstractStringBuilder", name := "getValue", desc := "()[B" } : Jvm.MethodName) jdk_68_method_64_code (1 : Nat) (Option.some (Jvm.ClassFile.FieldType.array Jvm.ClassFile.FieldType.byte)), Jvm.Cond.code ({ cls := "java/lang/StringBuilder", name := "length", desc := "()I" } : Jvm.MethodName) jdk_67_method_93_code (1 : Nat) (Option.some Jvm.ClassFile.FieldType.int), Jvm.Cond.code ({ cls := "java/lang/AbstractStringBuilder", name := "length", desc := "()I" } : Jvm.MethodName) jdk_68_method_6_code (1 : Nat) (Option.some Jvm.ClassFile.FieldType.int), Jvm.Cond.code ({ cls := "java/lang/StringLatin1", name := "equals", desc := "([B[B)Z" } : Jvm.MethodName) jdk_43_method_13_code (3 : Nat) (Option.some Jvm.ClassFile.FieldType.boolean)]
set_option maxRecDepth 65536 in
theorem codes_eq : words1.filter isCode = codes1 := rfl
theorem w_codes : ∀ c ∈ words1.filter isCode, c.before args0 about1 = true := by
  rw [codes_eq]
  intro c hc
  simp only [codes1, List.mem_cons, List.not_mem_nil, or_false] at hc
  rcases hc with rfl | rfl | rfl | rfl | rfl | rfl | rfl | rfl | rfl | rfl | rfl | rfl | rfl | rfl | rfl | rfl | rfl | rfl | rfl | rfl | rfl | rfl | rfl | rfl | rfl | rfl | rfl | rfl | rfl | rfl | rfl | rfl | rfl | rfl | rfl | rfl | rfl | rfl | rfl | rfl | rfl | rfl | rfl | rfl | rfl | rfl | rfl | rfl | rfl | rfl | rfl | rfl | rfl | rfl | rfl | rfl | rfl | rfl | rfl
  · exact w_c0
  · exact w_c1
  · exact w_c2
  · exact w_c3
  · exact w_c4
  · exact w_c5
  · exact w_c6
  · exact w_c7
  · exact w_c8
  · exact w_c9
  · exact w_c10
  · exact w_c11
  · exact w_c12
  · exact w_c13
  · exact w_c14
  · exact w_c15
  · exact w_c16
  · exact w_c17
  · exact w_c18
  · exact w_c19
  · exact w_c20
  · exact w_c21
  · exact w_c22
  · exact w_c23
  · exact w_c24
  · exact w_c25
  · exact w_c26
  · exact w_c27
  · exact w_c28
  · exact w_c29
  · exact w_c30
  · exact w_c31
  · exact w_c32
  · exact w_c33
  · exact w_c34
  · exact w_c35
  · exact w_c36
  · exact w_c37
  · exact w_c38
  · exact w_c39
  · exact w_c40
  · exact w_c41
  · exact w_c42
  · exact w_c43
  · exact w_c44
  · exact w_c45
  · exact w_c46
  · exact w_c47
  · exact w_c48
  · exact w_c49
  · exact w_c50
  · exact w_c51
  · exact w_c52
  · exact w_c53
  · exact w_c54
  · exact w_c55
  · exact w_c56
  · exact w_c57
  · exact w_c58
set_option maxRecDepth 65536 in
theorem w_t1 : (words1.take 24).all (fun c => isCode c || c.before args0 about1) = true := by decide +kernel
set_option maxRecDepth 65536 in
theorem w_t2 : ((words1.drop 24).take 24).all (fun c => isCode c || c.before args0 about1) = true := by decide +kernel
set_option maxRecDepth 65536 in
theorem w_t3 : (((words1.drop 24).drop 24).take 24).all (fun c => isCode c || c.before args0 about1) = true := by decide +kernel
set_option maxRecDepth 65536 in
theorem w_t4 : ((((words1.drop 24).drop 24).drop 24).take 24).all (fun c => isCode c || c.before args0 about1) = true := by decide +kernel
set_option maxRecDepth 65536 in
theorem w_t5 : (((((words1.drop 24).drop 24).drop 24).drop 24).take 24).all (fun c => isCode c || c.before args0 about1) = true := by decide +kernel
set_option maxRecDepth 65536 in
theorem w_t6 : ((((((words1.drop 24).drop 24).drop 24).drop 24).drop 24).take 24).all (fun c => isCode c || c.before args0 about1) = true := by decide +kernel
set_option maxRecDepth 65536 in
theorem w_t7 : (((((((words1.drop 24).drop 24).drop 24).drop 24).drop 24).drop 24).take 24).all (fun c => isCode c || c.before args0 about1) = true := by decide +kernel
set_option maxRecDepth 65536 in
theorem w_t8 : ((((((((words1.drop 24).drop 24).drop 24).drop 24).drop 24).drop 24).drop 24).take 24).all (fun c => isCode c || c.before args0 about1) = true := by decide +kernel
set_option maxRecDepth 65536 in
theorem w_t9 : (((((((((words1.drop 24).drop 24).drop 24).drop 24).drop 24).drop 24).drop 24).drop 24).take 24).all (fun c => isCode c || c.before args0 about1) = true := by decide +kernel
set_option maxRecDepth 65536 in
theorem w_t10 : ((((((((((words1.drop 24).drop 24).drop 24).drop 24).drop 24).drop 24).drop 24).drop 24).drop 24).take 24).all (fun c => isCode c || c.before args0 about1) = true := by decide +kernel
set_option maxRecDepth 65536 in
theorem w_t11 : (((((((((((words1.drop 24).drop 24).drop 24).drop 24).drop 24).drop 24).drop 24).drop 24).drop 24).drop 24).take 24).all (fun c => isCode c || c.before args0 about1) = true := by decide +kernel
set_option maxRecDepth 65536 in
theorem w_t12 : (((((((((((words1.drop 24).drop 24).drop 24).drop 24).drop 24).drop 24).drop 24).drop 24).drop 24).drop 24).drop 24).all (fun c => isCode c || c.before args0 about1) = true := by decide +kernel
theorem w_tables : (allAtoms (Jvm.Cond.code x code maxLocals ret :: tables_1)).before args0 about1 = true := by
  rw [allAtoms_all]
  show words1.all (fun c => c.before args0 about1) = true
  refine all_split ?_ w_codes
  rw [← List.take_append_drop 24 words1, List.all_append, w_t1, ← List.take_append_drop 24 (words1.drop 24), List.all_append, w_t2, ← List.take_append_drop 24 ((words1.drop 24).drop 24), List.all_append, w_t3, ← List.take_append_drop 24 (((words1.drop 24).drop 24).drop 24), List.all_append, w_t4, ← List.take_append_drop 24 ((((words1.drop 24).drop 24).drop 24).drop 24), List.all_append, w_t5, ← List.take_append_drop 24 (((((words1.drop 24).drop 24).drop 24).drop 24).drop 24), List.all_append, w_t6, ← List.take_append_drop 24 ((((((words1.drop 24).drop 24).drop 24).drop 24).drop 24).drop 24), List.all_append, w_t7, ← List.take_append_drop 24 (((((((words1.drop 24).drop 24).drop 24).drop 24).drop 24).drop 24).drop 24), List.all_append, w_t8, ← List.take_append_drop 24 ((((((((words1.drop 24).drop 24).drop 24).drop 24).drop 24).drop 24).drop 24).drop 24), List.all_append, w_t9, ← List.take_append_drop 24 (((((((((words1.drop 24).drop 24).drop 24).drop 24).drop 24).drop 24).drop 24).drop 24).drop 24), List.all_append, w_t10, ← List.take_append_drop 24 ((((((((((words1.drop 24).drop 24).drop 24).drop 24).drop 24).drop 24).drop 24).drop 24).drop 24).drop 24), List.all_append, w_t11, w_t12]
  rfl
set_option maxRecDepth 65536 in
theorem w_rest : rest_1_c.before args0 about1 = true := by decide +kernel
set_option maxRecDepth 65536 in
theorem w_case : (Jvm.Cond.and given_1 narrow_1).before args0 about1 = true := by decide +kernel
set_option maxRecDepth 65536 in
theorem w_consts : constsHeld consts_1 about1 := Jvm.Lit.constsHeldB_iff.mp (by decide +kernel)
theorem w_applies : (headSpec (Jvm.Cond.code x code maxLocals ret :: tables_1) room_1).applies x e0.platform about1 = true :=
  (Spec.applies_iff w_frames).mpr ⟨w_running, w_runnable, w_alone, w_named, w_hears, w_ripe, w_room, w_tables⟩
theorem atStart : AtStart classFile x code maxLocals ret World_1 tables_1 room_1 Calls_1 rest_1 Pre_1 launch0 p0 e0 about1 theMethod args0 below0 :=
  ⟨lists_1, trivial, launch0.admits_env _ _ _, launch0.least_env, fairChoices_fair.cas, fairChoices_fair.clock, w_frames, w_args, w_heap, w_applies, ⟨w_consts, trivial⟩, w_rest, w_case⟩
end start1
theorem witness_1 : WitnessClaimed_1 := ⟨start1.p0, start1.e0, start1.about1, start1.theMethod, start1.args0, start1.below0, start1.atStart⟩
end Jvm.Pilot.@@N@@
