import JvmDerived
import JvmDerived.Pilot.@@N@@Statement
import JvmDerived.Pilot.@@N@@Code
set_option linter.unusedVariables false
set_option linter.unusedSimpArgs false
/- laws to paste: Road.backV (cut by pick.py; bodies as the Statement names them) -/
namespace Jvm.Pilot.@@N@@
namespace StrChars
open Jvm Sem ClassFile Op Lib Jvm.Stand Jvm.Free.XT Jvm.Free.ALB Jvm.Free.JM Jvm.Free
open Jvm.Lib.Cold (StaticIs)
/-- a char array whose places are chars -/
def Ch (a : Addr) (A : Cell) (U : State) : Prop := Arr .char a A U ∧ Typed .char A
theorem Ch.mv {a : Addr} {A : Cell} {U U' : State} (h : Ch a A U) (hal : U.vm.Alike U'.vm) (hh : U'.heap = U.heap) : Ch a A U' := ⟨h.1.mv hal hh, h.2⟩
theorem Ch.keep {a : Addr} {A : Cell} {U U' : State} (h : Ch a A U) (hal : U.vm.Alike U'.vm) (hk : U'.heap[a]? = some A) : Ch a A U' := ⟨h.1.keep hal hk, h.2⟩
/-- what place i of a char[]'s cell holds -/
def cv (A : Cell) (i : Nat) : Int32 := match A.slots[i]? with | some (.int x) => x | _ => 0
theorem Ch.get {a : Addr} {A : Cell} {U : State} (h : Ch a A U) {i : Nat} (hi : i < A.slots.size) : A.slots[i]? = some (.int (cv A i)) := by
  have e := Array.getElem?_eq_getElem hi
  have f := h.2 i _ e
  unfold cv; rw [e]
  generalize A.slots[i] = v at f
  cases v <;> simp [fits] at f ⊢
/-- the byte that i2b leaves of a char -/
def lo8 (x : Int32) : Int32 := x.toInt8.toInt32
theorem fits_lo8 (y : Int32) : fits .byte (.int (lo8 y)) = true := by
  have h1 := y.toInt8.le_toInt
  have h2 := y.toInt8.toInt_lt
  simp only [lo8, fits, Bool.and_eq_true, decide_eq_true_eq, Int32.le_iff_toInt_le, Int8.toInt_toInt32, show (-128 : Int32).toInt = -128 from by decide, show (127 : Int32).toInt = 127 from by decide]
  omega
/-- A' is A but that each place j of lo .. hi - 1 holds f j -/
def Laid (A A' : Cell) (lo hi : Nat) (f : Nat → Value) : Prop := A'.cls = A.cls ∧ A'.vm = A.vm ∧ A'.slots.size = A.slots.size ∧ ∀ i, A'.slots[i]? = if lo ≤ i ∧ i < hi then some (f i) else A.slots[i]?
theorem Laid.zero (A : Cell) (lo : Nat) (f : Nat → Value) : Laid A A lo (lo + 0) f := ⟨rfl, rfl, rfl, fun i => by rw [if_neg (by omega)]⟩
theorem Laid.step {A Ak : Cell} {lo k : Nat} {f : Nat → Value} {v : Value} (h : Laid A Ak lo k f) (hlo : lo ≤ k) (hk : k < Ak.slots.size) (hv : v = f k) : Laid A (Ak.setSlot k v) lo (k + 1) f := by
  refine ⟨h.1, h.2.1, by simpa [Cell.setSlot] using h.2.2.1, fun i => ?_⟩
  by_cases e : k = i
  · subst e; rw [Cell.slots_setSlot_self v hk, if_pos (by omega), hv]
  · rw [Cell.slots_setSlot_ne v e, h.2.2.2 i]
    by_cases q : lo ≤ i ∧ i < k
    · rw [if_pos q, if_pos (by omega)]
    · rw [if_neg q, if_neg (by omega)]
def U16 : String := "java/lang/StringUTF16"
namespace Cmp5
def yN : MethodName := ⟨"java/lang/StringUTF16", "compress", "([CI[BII)I"⟩
abbrev yB : ByteArray := jdk_52_method_21_code
theorem d0 : decode yB 0 = .ok (.iconst 0, 1) := by decide +kernel
theorem d1 : decode yB 1 = .ok (.istore 5, 2) := by decide +kernel
theorem d3 : decode yB 3 = .ok (.iload 5, 2) := by decide +kernel
theorem d5 : decode yB 5 = .ok (.iload 4, 2) := by decide +kernel
theorem d7 : decode yB 7 = .ok (.if_icmp (.ge) 37, 3) := by decide +kernel
theorem d10 : decode yB 10 = .ok (.aload_n 0, 1) := by decide +kernel
theorem d11 : decode yB 11 = .ok (.iload_n 1, 1) := by decide +kernel
theorem d12 : decode yB 12 = .ok (.caload, 1) := by decide +kernel
theorem d13 : decode yB 13 = .ok (.istore 6, 2) := by decide +kernel
theorem d15 : decode yB 15 = .ok (.iload 6, 2) := by decide +kernel
theorem d17 : decode yB 17 = .ok (.sipush 255, 3) := by decide +kernel
theorem d20 : decode yB 20 = .ok (.if_icmp (.le) 6, 3) := by decide +kernel
theorem d26 : decode yB 26 = .ok (.aload_n 2, 1) := by decide +kernel
theorem d27 : decode yB 27 = .ok (.iload_n 3, 1) := by decide +kernel
theorem d28 : decode yB 28 = .ok (.iload 6, 2) := by decide +kernel
theorem d30 : decode yB 30 = .ok (.i2b, 1) := by decide +kernel
theorem d31 : decode yB 31 = .ok (.bastore, 1) := by decide +kernel
theorem d32 : decode yB 32 = .ok (.iinc 1 1, 3) := by decide +kernel
theorem d35 : decode yB 35 = .ok (.iinc 3 1, 3) := by decide +kernel
theorem d38 : decode yB 38 = .ok (.iinc 5 1, 3) := by decide +kernel
theorem d41 : decode yB 41 = .ok (.goto (-38), 3) := by decide +kernel
theorem d44 : decode yB 44 = .ok (.iload 4, 2) := by decide +kernel
theorem d46 : decode yB 46 = .ok (.ireturn, 1) := by decide +kernel
def site : List Cond := []
def tab : Cond := tabOf yN yB 7 (some .int) site
def P (b : Addr) (A : Cell) (d : Addr) (B : Cell) (o q len : Nat) (args : Array Value) (s : State) : Prop := args = #[.ref b, .int (Int32.ofNat o), .ref d, .int (Int32.ofNat q), .int (Int32.ofNat len)] ∧ Ch b A s ∧ Arr .byte d B s ∧ b ≠ d ∧ o + len ≤ A.slots.size ∧ q + len ≤ B.slots.size ∧ ∀ i, i < len → ¬ 255 < cv A (o + i)
def E (b : Addr) (A : Cell) (d : Addr) (B : Cell) (o q len : Nat) (r : Option Value) (s u : State) : Prop := r = some (.int (Int32.ofNat len)) ∧ ∃ B', Put d B' s u ∧ Laid B B' q (q + len) (fun j => Value.int (lo8 (cv A (o + (j - q)))))
/-- no char of the range above 255: len; the places written hold each char's low byte -/
theorem law (l : Launch) (b : Addr) (A : Cell) (d : Addr) (B : Cell) (o q len : Nat) : Law l yN 5 5 0 0 yB 7 (some .int) site (P b A d B o q len) (E b A d B o q len) (copyLocs d q len) 0 0 := by
  refine Law.of_walk (plainFor_of_name (by decide +kernel)) (by decide +kernel) (by decide +kernel) (by decide) (fun _ _ h => by rw [h.1]; rfl) (fun _ U U' hal hh h => ⟨h.1, h.2.1.mv hal hh, h.2.2.1.mv hal hh, h.2.2.2⟩) (fun r U U' V V' h1 hal h2 h => ⟨h.1, h.2.elim fun B' q => ⟨B', q.1.mv h1 h2, q.2⟩⟩) ?_
  intro p e s m args below meth c s₁ X0 hexec hbytes hml hret hlk hnm hown hh0 W hP
  obtain ⟨rfl, hA, hB, hne, l1, l2, hp⟩ := hP
  have c1 : Steps p.tables e below (s₁.setTop (entryFrame m #[.ref b, .int (Int32.ofNat o), .ref d, .int (Int32.ofNat q), .int (Int32.ofNat len)] 7)) (s₁.setTop (mkF m 0 #[.val (.ref b), .val (.int (Int32.ofNat o)), .val (.ref d), .val (.int (Int32.ofNat q)), .val (.int (Int32.ofNat len)), .unset, .unset] [])) := entry rfl
  have hA0 := hA.1.mv X0.warmed.alike hh0
  have hB0 := hB.mv X0.warmed.alike hh0
  have a31 := hA.1.2.2.2
  have c2 : Steps p.tables e below (s₁.setTop (entryFrame m #[.ref b, .int (Int32.ofNat o), .ref d, .int (Int32.ofNat q), .int (Int32.ofNat len)] 7)) (s₁.setTop (mkF m 3 #[.val (.ref b), .val (.int (Int32.ofNat o)), .val (.ref d), .val (.int (Int32.ofNat q)), .val (.int (Int32.ofNat len)), .val (.int 0), .unset] [])) := c1.trans (by
    refine iconstV X0.here hexec rfl 0 (hb hbytes d0) (by decide) ?_
    refine XS.istore X0.here hexec rfl (hb hbytes d1) rfl rfl ?_
    exact Steps.refl _)
  have loop : ∀ (r i : Nat), i + r = len → ∀ (z : Slot), (z = .unset ∨ ∃ w, z = .val w ∧ w.category = 1) → ∀ (Tl : State) (Bk : Cell), Stand p l e { frames := 0, locals := 0, cells := 0, slots := 0 } s m #[.ref b, .int (Int32.ofNat o), .ref d, .int (Int32.ofNat q), .int (Int32.ofNat len)] below meth c Tl ([] ++ copyLocs d q i) 0 0 → Put d Bk s₁ Tl → Laid B Bk q (q + i) (fun j => Value.int (lo8 (cv A (o + (j - q))))) →
      Steps p.tables e below (s₁.setTop (entryFrame m #[.ref b, .int (Int32.ofNat o), .ref d, .int (Int32.ofNat q), .int (Int32.ofNat len)] 7)) (Tl.setTop (mkF m 3 #[.val (.ref b), .val (.int (Int32.ofNat (o + i))), .val (.ref d), .val (.int (Int32.ofNat (q + i))), .val (.int (Int32.ofNat len)), .val (.int (Int32.ofNat i)), z] [])) → ∃ (T' : State) (B' : Cell) (z' : Slot), Stand p l e { frames := 0, locals := 0, cells := 0, slots := 0 } s m #[.ref b, .int (Int32.ofNat o), .ref d, .int (Int32.ofNat q), .int (Int32.ofNat len)] below meth c T' ([] ++ copyLocs d q len) 0 0 ∧ Put d B' s₁ T' ∧ Laid B B' q (q + len) (fun j => Value.int (lo8 (cv A (o + (j - q))))) ∧
      Steps p.tables e below (s₁.setTop (entryFrame m #[.ref b, .int (Int32.ofNat o), .ref d, .int (Int32.ofNat q), .int (Int32.ofNat len)] 7)) (T'.setTop (mkF m 3 #[.val (.ref b), .val (.int (Int32.ofNat (o + len))), .val (.ref d), .val (.int (Int32.ofNat (q + len))), .val (.int (Int32.ofNat len)), .val (.int (Int32.ofNat len)), z'] [])) := by
    intro r
    induction r with
    | zero =>
      intro i hi z hz Tl Bk Xl pl fl cl
      have hil : i = len := by omega
      rw [hil] at Xl fl cl
      exact ⟨Tl, Bk, z, Xl, pl, fl, cl⟩
    | succ r ih =>
      intro i hi z hz Tl Bk Xl pl fl cl
      have all := X0.warmed.alike.symm.trans Xl.warmed.alike
      have hAl := hA0.keep all (pl.other hne hA0.1)
      have hBk := hB0.like all pl.1 fl.1 fl.2.1 fl.2.2.1
      have hlt : q + i < Bk.slots.size := by rw [fl.2.2.1]; omega
      have c3 : Steps p.tables e below (s₁.setTop (entryFrame m #[.ref b, .int (Int32.ofNat o), .ref d, .int (Int32.ofNat q), .int (Int32.ofNat len)] 7)) (Tl.setTop (mkF m 12 #[.val (.ref b), .val (.int (Int32.ofNat (o + i))), .val (.ref d), .val (.int (Int32.ofNat (q + i))), .val (.int (Int32.ofNat len)), .val (.int (Int32.ofNat i)), z] [.int (Int32.ofNat (o + i)), .ref b])) := cl.trans (by
        refine XS.iload Xl.here hexec rfl (hb hbytes d3) rfl ?_
        refine XS.iload Xl.here hexec rfl (hb hbytes d5) rfl ?_
        refine XS.icmpNo Xl.here hexec rfl (hb hbytes d7) rfl (ii_ge_f (lt32 (by omega) (by omega))) ?_
        refine XS.aloadN Xl.here hexec rfl (hb hbytes d10) rfl rfl ?_
        refine XS.iloadN Xl.here hexec rfl (hb hbytes d11) rfl ?_
        exact Steps.refl _)
      have c4 : Steps p.tables e below (s₁.setTop (entryFrame m #[.ref b, .int (Int32.ofNat o), .ref d, .int (Int32.ofNat q), .int (Int32.ofNat len)] 7)) (Tl.setTop (mkF m 13 #[.val (.ref b), .val (.int (Int32.ofNat (o + i))), .val (.ref d), .val (.int (Int32.ofNat (q + i))), .val (.int (Int32.ofNat len)), .val (.int (Int32.ofNat i)), z] [.int (cv A (o + i))])) := c3.trans (by
        refine Xl.aget hexec hAl rfl (hA.get (i := o + i) (by omega)) rfl rfl (hb hbytes d12) ?_
        exact Steps.refl _)
      have c5 : Steps p.tables e below (s₁.setTop (entryFrame m #[.ref b, .int (Int32.ofNat o), .ref d, .int (Int32.ofNat q), .int (Int32.ofNat len)] 7)) (Tl.setTop (mkF m 15 #[.val (.ref b), .val (.int (Int32.ofNat (o + i))), .val (.ref d), .val (.int (Int32.ofNat (q + i))), .val (.int (Int32.ofNat len)), .val (.int (Int32.ofNat i)), .val (.int (cv A (o + i)))] [])) := c4.trans (by
        refine XS.istoreS Xl.here hexec rfl (hb hbytes d13) rfl rfl hz ?_
        exact Steps.refl _)
      have c6 : Steps p.tables e below (s₁.setTop (entryFrame m #[.ref b, .int (Int32.ofNat o), .ref d, .int (Int32.ofNat q), .int (Int32.ofNat len)] 7)) (Tl.setTop (mkF m 31 #[.val (.ref b), .val (.int (Int32.ofNat (o + i))), .val (.ref d), .val (.int (Int32.ofNat (q + i))), .val (.int (Int32.ofNat len)), .val (.int (Int32.ofNat i)), .val (.int (cv A (o + i)))] [.int (lo8 (cv A (o + i))), .int (Int32.ofNat (q + i)), .ref d])) := c5.trans (by
        refine XS.iload Xl.here hexec rfl (hb hbytes d15) rfl ?_
        refine sipushV Xl.here hexec rfl 255 (hb hbytes d17) (by decide) ?_
        refine XS.icmpYes Xl.here hexec rfl (pc0 := 20) rfl (hb hbytes d20) rfl (ii_le_t (hp i (by omega))) (by decide) rfl ?_
        refine XS.aloadN Xl.here hexec rfl (hb hbytes d26) rfl rfl ?_
        refine XS.iloadN Xl.here hexec rfl (hb hbytes d27) rfl ?_
        refine XS.iload Xl.here hexec rfl (hb hbytes d28) rfl ?_
        refine i2b Xl.here hexec rfl (hb hbytes d30) rfl ?_
        exact Steps.refl _)
      obtain ⟨T7, X7, p7, st7⟩ := Xl.aput hexec hBk rfl hlt rfl (fits_lo8 (cv A (o + i))) (g := (mkF m 31 #[.val (.ref b), .val (.int (Int32.ofNat (o + i))), .val (.ref d), .val (.int (Int32.ofNat (q + i))), .val (.int (Int32.ofNat len)), .val (.int (Int32.ofNat i)), .val (.int (cv A (o + i)))] [.int (lo8 (cv A (o + i))), .int (Int32.ofNat (q + i)), .ref d])) rfl (rest := []) rfl (hb hbytes d31)
      have c8 : Steps p.tables e below (s₁.setTop (entryFrame m #[.ref b, .int (Int32.ofNat o), .ref d, .int (Int32.ofNat q), .int (Int32.ofNat len)] 7)) (T7.setTop (mkF m 32 #[.val (.ref b), .val (.int (Int32.ofNat (o + i))), .val (.ref d), .val (.int (Int32.ofNat (q + i))), .val (.int (Int32.ofNat len)), .val (.int (Int32.ofNat i)), .val (.int (cv A (o + i)))] [])) := c6.trans (st7 _ (Steps.refl _))
      have c9 : Steps p.tables e below (s₁.setTop (entryFrame m #[.ref b, .int (Int32.ofNat o), .ref d, .int (Int32.ofNat q), .int (Int32.ofNat len)] 7)) (T7.setTop (mkF m 3 #[.val (.ref b), .val (.int (Int32.ofNat (o + i) + 1)), .val (.ref d), .val (.int (Int32.ofNat (q + i) + 1)), .val (.int (Int32.ofNat len)), .val (.int (Int32.ofNat i + 1)), .val (.int (cv A (o + i)))] [])) := c8.trans (by
        refine iincV X7.here hexec rfl 1 (hb hbytes d32) (by decide) rfl rfl ?_
        refine iincV X7.here hexec rfl 1 (hb hbytes d35) (by decide) rfl rfl ?_
        refine iincV X7.here hexec rfl 1 (hb hbytes d38) (by decide) rfl rfl ?_
        refine XS.goto X7.here hexec rfl (pc0 := 41) rfl (hb hbytes d41) (by decide) rfl ?_
        exact Steps.refl _)
      have c10 : Steps p.tables e below (s₁.setTop (entryFrame m #[.ref b, .int (Int32.ofNat o), .ref d, .int (Int32.ofNat q), .int (Int32.ofNat len)] 7)) (T7.setTop (mkF m 3 #[.val (.ref b), .val (.int (Int32.ofNat (o + (i + 1)))), .val (.ref d), .val (.int (Int32.ofNat (q + (i + 1)))), .val (.int (Int32.ofNat len)), .val (.int (Int32.ofNat (i + 1))), .val (.int (cv A (o + i)))] [])) := by
        have := c9
        rw [succ32, succ32, succ32] at this
        exact this
      exact ih (i + 1) (by omega) _ (Or.inr ⟨_, rfl, rfl⟩) T7 _ (by rw [copyLocs_step, ← List.append_assoc]; exact X7) (pl.trans p7) (fl.step (by omega) hlt (by simp)) c10
  obtain ⟨T9, B9, z9, X9, p9, f9, g9⟩ := loop len 0 (by omega) .unset (Or.inl rfl) s₁ B (by simpa [copyLocs] using X0) ⟨hB0.1, fun _ _ => rfl, rfl⟩ (Laid.zero _ _ _) c2
  have c11 : Steps p.tables e below (s₁.setTop (entryFrame m #[.ref b, .int (Int32.ofNat o), .ref d, .int (Int32.ofNat q), .int (Int32.ofNat len)] 7)) (T9.setTop (mkF m 46 #[.val (.ref b), .val (.int (Int32.ofNat (o + len))), .val (.ref d), .val (.int (Int32.ofNat (q + len))), .val (.int (Int32.ofNat len)), .val (.int (Int32.ofNat len)), z9] [.int (Int32.ofNat len)])) := g9.trans (by
    refine XS.iload X9.here hexec rfl (hb hbytes d3) rfl ?_
    refine XS.iload X9.here hexec rfl (hb hbytes d5) rfl ?_
    refine XS.icmpYes X9.here hexec rfl (pc0 := 7) rfl (hb hbytes d7) rfl (ii_ge_t (nlt32 (by omega) (Nat.le_refl _))) (by decide) rfl ?_
    refine XS.iload X9.here hexec rfl (hb hbytes d44) rfl ?_
    exact Steps.refl _)
  exact ⟨T9, some (.int (Int32.ofNat len)), _, _, _, X9, by simp, rfl, rfl, (fun h => by cases h), ⟨rfl, B9, p9.from hh0, f9⟩, fun fs hl => c11.trans (X9.ireturnOut hexec hret rfl (Or.inl rfl) (hb hbytes d46) hl)⟩
end Cmp5
namespace Cmp3
def yN : MethodName := ⟨"java/lang/StringUTF16", "compress", "([CII)[B"⟩
abbrev yB : ByteArray := jdk_52_method_16_code
theorem d0 : decode yB 0 = .ok (.iload_n 2, 1) := by decide +kernel
theorem d1 : decode yB 1 = .ok (.newarray .byte, 2) := by decide +kernel
theorem d3 : decode yB 3 = .ok (.astore_n 3, 1) := by decide +kernel
theorem d4 : decode yB 4 = .ok (.aload_n 0, 1) := by decide +kernel
theorem d5 : decode yB 5 = .ok (.iload_n 1, 1) := by decide +kernel
theorem d6 : decode yB 6 = .ok (.aload_n 3, 1) := by decide +kernel
theorem d7 : decode yB 7 = .ok (.iconst 0, 1) := by decide +kernel
theorem d8 : decode yB 8 = .ok (.iload_n 2, 1) := by decide +kernel
theorem d9 : decode yB 9 = .ok (.invokestatic 115, 3) := by decide +kernel
theorem d12 : decode yB 12 = .ok (.istore 4, 2) := by decide +kernel
theorem d14 : decode yB 14 = .ok (.iload 4, 2) := by decide +kernel
theorem d16 : decode yB 16 = .ok (.iload_n 2, 1) := by decide +kernel
theorem d17 : decode yB 17 = .ok (.if_icmp (.eq) 40, 3) := by decide +kernel
theorem d57 : decode yB 57 = .ok (.aload_n 3, 1) := by decide +kernel
theorem d58 : decode yB 58 = .ok (.areturn, 1) := by decide +kernel
def site : List Cond := [.arrayClass .byte, Cmp5.tab] ++ staticW U16 115 Cmp5.yN
def tab : Cond := tabOf yN yB 6 (some (.array .byte)) site
def P (b : Addr) (A : Cell) (o len : Nat) (args : Array Value) (s : State) : Prop := args = #[.ref b, .int (Int32.ofNat o), .int (Int32.ofNat len)] ∧ Ch b A s ∧ o + len ≤ A.slots.size ∧ len ≤ 536870912 ∧ ∀ i, i < len → ¬ 255 < cv A (o + i)
def E (b : Addr) (A : Cell) (o len : Nat) (r : Option Value) (s u : State) : Prop := NewArr .byte "[B" len (fun j => .int (lo8 (cv A (o + j)))) r s u ∧ u.heap.size = s.heap.size + 1
/-- no char of the range above 255: a new byte[] of their low bytes -/
theorem law (l : Launch) (b : Addr) (A : Cell) (o len : Nat) : Law l yN 3 3 1 18 yB 6 (some (.array .byte)) site (P b A o len) (E b A o len) [] 1 len := by
  refine Law.of_walk (plainFor_of_name (by decide +kernel)) (by decide +kernel) (by decide +kernel) (by decide) (fun _ _ h => by rw [h.1]; rfl) (fun _ U U' hal hh h => ⟨h.1, h.2.1.mv hal hh, h.2.2⟩) (fun r U U' V V' h1 hal h2 h => ⟨NewArr.mv r U U' V V' h1 hal h2 h.1, by rw [h1, h2]; exact h.2⟩) ?_
  intro p e s m args below meth c s₁ X0 hexec hbytes hml hret hlk hnm hown hh0 W hP
  obtain ⟨rfl, hA, l1, l2, hp⟩ := hP
  have a31 := hA.1.2.2.2
  have c1 : Steps p.tables e below (s₁.setTop (entryFrame m #[.ref b, .int (Int32.ofNat o), .int (Int32.ofNat len)] 6)) (s₁.setTop (mkF m 0 #[.val (.ref b), .val (.int (Int32.ofNat o)), .val (.int (Int32.ofNat len)), .unset, .unset, .unset] [])) := entry rfl
  have c2 : Steps p.tables e below (s₁.setTop (entryFrame m #[.ref b, .int (Int32.ofNat o), .int (Int32.ofNat len)] 6)) (s₁.setTop (mkF m 1 #[.val (.ref b), .val (.int (Int32.ofNat o)), .val (.int (Int32.ofNat len)), .unset, .unset, .unset] [.int (Int32.ofNat len)])) := c1.trans (by
    refine XS.iloadN X0.here hexec rfl (hb hbytes d0) rfl ?_
    exact Steps.refl _)
  obtain ⟨T3, B3, X3, ba3, bs3, bv3, bh3, bf3, st3⟩ := X0.anew hexec (atype := .byte) (wk W (.arrayClass .byte)) rfl (by show len * 1 ≤ _; omega) (by omega) (g := (mkF m 1 #[.val (.ref b), .val (.int (Int32.ofNat o)), .val (.int (Int32.ofNat len)), .unset, .unset, .unset] [.int (Int32.ofNat len)])) rfl (hb hbytes d1) (rest := []) rfl (Nat.le_refl _) (by show 0 + len ≤ len; omega)
  rw [hh0] at ba3 st3
  have kp3 : XT.Kept s T3 := (XT.Kept.of_eq hh0).push bh3
  have hA3 := hA.keep X3.warmed.alike (kp3 _ _ hA.1.1)
  have hne : b ≠ s.heap.size := hA.1.ne
  have c4 : Steps p.tables e below (s₁.setTop (entryFrame m #[.ref b, .int (Int32.ofNat o), .int (Int32.ofNat len)] 6)) (T3.setTop (mkF m 3 #[.val (.ref b), .val (.int (Int32.ofNat o)), .val (.int (Int32.ofNat len)), .unset, .unset, .unset] [.ref s.heap.size])) := c2.trans (st3 _ (Steps.refl _))
  have c5 : Steps p.tables e below (s₁.setTop (entryFrame m #[.ref b, .int (Int32.ofNat o), .int (Int32.ofNat len)] 6)) (T3.setTop (mkF m 9 #[.val (.ref b), .val (.int (Int32.ofNat o)), .val (.int (Int32.ofNat len)), .val (.ref s.heap.size), .unset, .unset] [.int (Int32.ofNat len), .int 0, .ref s.heap.size, .int (Int32.ofNat o), .ref b])) := c4.trans (by
    refine XS.astoreN X3.here hexec rfl (hb hbytes d3) rfl rfl rfl ?_
    refine XS.aloadN X3.here hexec rfl (hb hbytes d4) rfl rfl ?_
    refine XS.iloadN X3.here hexec rfl (hb hbytes d5) rfl ?_
    refine XS.aloadN X3.here hexec rfl (hb hbytes d6) rfl rfl ?_
    refine iconstV X3.here hexec rfl 0 (hb hbytes d7) (by decide) ?_
    refine XS.iloadN X3.here hexec rfl (hb hbytes d8) rfl ?_
    exact Steps.refl _)
  obtain ⟨v6, T6, X6, E6, g6⟩ := X3.callS hexec (Cmp5.law l b A s.heap.size B3 o 0 len) hown (wks W (staticW U16 115 Cmp5.yN)) (wk W Cmp5.tab) (W := 0) (Nat.le_of_ble_eq_true rfl) (Nat.le_of_ble_eq_true rfl) (Nat.le_refl _) (by show 0 + len + 0 ≤ len; omega) (g := (mkF m 9 #[.val (.ref b), .val (.int (Int32.ofNat o)), .val (.int (Int32.ofNat len)), .val (.ref s.heap.size), .unset, .unset] [.int (Int32.ofNat len), .int (Int32.ofNat 0), .ref s.heap.size, .int (Int32.ofNat o), .ref b])) rfl (by rw [hml]; rfl) c5 (argsL := [.ref b, .int (Int32.ofNat o), .ref s.heap.size, .int (Int32.ofNat 0), .int (Int32.ofNat len)]) (rest := []) rfl rfl (by show 2 * 0 + 0 ≤ _; decide) (hb hbytes d9) (⟨rfl, hA3, ba3, hne, l1, by rw [bs3]; simp, hp⟩)
  obtain ⟨rfl, B6, p6, f6⟩ := E6
  have c7 : Steps p.tables e below (s₁.setTop (entryFrame m #[.ref b, .int (Int32.ofNat o), .int (Int32.ofNat len)] 6)) (T6.setTop (mkF m 12 #[.val (.ref b), .val (.int (Int32.ofNat o)), .val (.int (Int32.ofNat len)), .val (.ref s.heap.size), .unset, .unset] [.int (Int32.ofNat len)])) := g6
  have c8 : Steps p.tables e below (s₁.setTop (entryFrame m #[.ref b, .int (Int32.ofNat o), .int (Int32.ofNat len)] 6)) (T6.setTop (mkF m 58 #[.val (.ref b), .val (.int (Int32.ofNat o)), .val (.int (Int32.ofNat len)), .val (.ref s.heap.size), .val (.int (Int32.ofNat len)), .unset] [.ref s.heap.size])) := c7.trans (by
    refine XS.istore X6.here hexec rfl (hb hbytes d12) rfl rfl ?_
    refine XS.iload X6.here hexec rfl (hb hbytes d14) rfl ?_
    refine XS.iloadN X6.here hexec rfl (hb hbytes d16) rfl ?_
    refine XS.icmpYes X6.here hexec rfl (pc0 := 17) rfl (hb hbytes d17) rfl (ii_eq_t rfl) (by decide) rfl ?_
    refine XS.aloadN X6.here hexec rfl (hb hbytes d57) rfl rfl ?_
    exact Steps.refl _)
  have X8 := X6.wide (L' := []) (cells' := 1) (slots' := len) (fun x hx hlt => by
    simp only [List.nil_append, copyLocs, List.mem_map, List.mem_range] at hx
    obtain ⟨i, -, rfl⟩ := hx
    exact absurd hlt (Nat.lt_irrefl _)) (Nat.le_refl _) (by omega)
  exact ⟨T6, some (.ref s.heap.size), _, _, _, X8, rfl, rfl, rfl, (fun h => by cases h), ⟨⟨rfl, B6, ba3.like (X3.warmed.alike.symm.trans X6.warmed.alike) p6.1 f6.1 f6.2.1 f6.2.2.1, f6.2.1.trans bv3, by rw [X6.warmed.alike.findClass, f6.1]; exact bf3, by rw [f6.2.2.1, bs3]; simp, fun j hj => by rw [f6.2.2.2 j, if_pos (by omega)]; rfl, kp3.put p6 (Nat.le_refl _)⟩, by rw [p6.2.2, bh3, hh0]; simp⟩, fun fs hl => c8.trans (X8.areturnOut hexec rfl hret rfl (hb hbytes d58) hl)⟩
end Cmp3
namespace CodL
def yN : MethodName := ⟨"java/lang/StringUTF16", "coderFromArrayLen", "([BI)B"⟩
abbrev yB : ByteArray := jdk_52_method_15_code
theorem d0 : decode yB 0 = .ok (.iload_n 1, 1) := by decide +kernel
theorem d1 : decode yB 1 = .ok (.aload_n 0, 1) := by decide +kernel
theorem d2 : decode yB 2 = .ok (.arraylength, 1) := by decide +kernel
theorem d3 : decode yB 3 = .ok (.isub, 1) := by decide +kernel
theorem d4 : decode yB 4 = .ok (.bipush 31, 2) := by decide +kernel
theorem d6 : decode yB 6 = .ok (.iushr, 1) := by decide +kernel
theorem d7 : decode yB 7 = .ok (.i2b, 1) := by decide +kernel
theorem d8 : decode yB 8 = .ok (.ireturn, 1) := by decide +kernel
def site : List Cond := []
def tab : Cond := tabOf yN yB 2 (some .byte) site
def P (d : Addr) (B : Cell) (args : Array Value) (s : State) : Prop := args = #[.ref d, .int (Int32.ofNat B.slots.size)] ∧ Arr .byte d B s
def E (r : Option Value) (s u : State) : Prop := XT.PureE (some (.int 0)) r s u
/-- an array as long as the number of chars: LATIN1 -/
theorem law (l : Launch) (d : Addr) (B : Cell) : Law l yN 2 2 0 0 yB 2 (some .byte) site (P d B) E [] 0 0 := by
  refine Law.of_walk (plainFor_of_name (by decide +kernel)) (by decide +kernel) (by decide +kernel) (by decide) (fun _ _ h => by rw [h.1]; rfl) (fun _ U U' hal hh h => ⟨h.1, h.2.mv hal hh⟩) (fun r U U' V V' h1 hal h2 h => XT.PureE.mv r U U' V V' h1 hal h2 h) ?_
  intro p e s m args below meth c s₁ X0 hexec hbytes hml hret hlk hnm hown hh0 W hP
  obtain ⟨rfl, hB⟩ := hP
  have hB0 := hB.mv X0.warmed.alike hh0
  have c1 : Steps p.tables e below (s₁.setTop (entryFrame m #[.ref d, .int (Int32.ofNat B.slots.size)] 2)) (s₁.setTop (mkF m 0 #[.val (.ref d), .val (.int (Int32.ofNat B.slots.size))] [])) := entry rfl
  have c2 : Steps p.tables e below (s₁.setTop (entryFrame m #[.ref d, .int (Int32.ofNat B.slots.size)] 2)) (s₁.setTop (mkF m 2 #[.val (.ref d), .val (.int (Int32.ofNat B.slots.size))] [.ref d, .int (Int32.ofNat B.slots.size)])) := c1.trans (by
    refine XS.iloadN X0.here hexec rfl (hb hbytes d0) rfl ?_
    refine XS.aloadN X0.here hexec rfl (hb hbytes d1) rfl rfl ?_
    exact Steps.refl _)
  have c3 : Steps p.tables e below (s₁.setTop (entryFrame m #[.ref d, .int (Int32.ofNat B.slots.size)] 2)) (s₁.setTop (mkF m 8 #[.val (.ref d), .val (.int (Int32.ofNat B.slots.size))] [.int (lo8 (ushr (Int32.ofNat B.slots.size - Int32.ofNat B.slots.size) 31))])) := c2.trans (by
    refine X0.alen hexec hB0 rfl rfl (hb hbytes d2) ?_
    refine XS.isub X0.here hexec rfl (hb hbytes d3) rfl ?_
    refine bipushV X0.here hexec rfl 31 (hb hbytes d4) (by decide) ?_
    refine iushr X0.here hexec rfl (hb hbytes d6) rfl ?_
    refine i2b X0.here hexec rfl (hb hbytes d7) rfl ?_
    exact Steps.refl _)
  have e0 : lo8 (ushr (Int32.ofNat B.slots.size - Int32.ofNat B.slots.size) 31) = 0 := by rw [Int32.sub_self]; decide
  rw [e0] at c3
  exact ⟨s₁, some (.int 0), _, _, _, X0, rfl, rfl, rfl, (fun h => by cases h), ⟨rfl, hh0⟩, fun fs hl => c3.trans (X0.ireturnOut hexec hret rfl (Or.inr (Or.inr (Or.inl rfl))) (hb hbytes d8) hl)⟩
end CodL
/-- the String at a is Latin-1 over a new byte[] (the heap's one new cell): the low bytes of the len chars of A from o on; every cell but a is kept -/
def Got (a : Addr) (D : Cell) (fV fC : Field) (A : Cell) (o len : Nat) (r : Option Value) (s u : State) : Prop := r = none ∧ ∃ D' V : Cell, Blank "java/lang/String" a D' u ∧ Same D D' [fV.slot, fC.slot] ∧ D'.slots[fV.slot]? = some (.ref s.heap.size) ∧ D'.slots[fC.slot]? = some (.int 0) ∧ Arr .byte s.heap.size V u ∧ V.vm = .none ∧ u.vm.findClass "[B" = some V.cls ∧ V.slots.size = len ∧ (∀ j, j < len → V.slots[j]? = some (.int (lo8 (cv A (o + j))))) ∧ (∀ (y : Addr) (c : Cell), y ≠ a → s.heap[y]? = some c → u.heap[y]? = some c) ∧ u.heap.size = s.heap.size + 1
theorem Got.mv {a : Addr} {D A : Cell} {fV fC : Field} {o len : Nat} : ∀ r (U U' V V' : State), U'.heap = U.heap → V.vm.Alike V'.vm → V'.heap = V.heap → Got a D fV fC A o len r U V → Got a D fV fC A o len r U' V' :=
  fun r U U' V V' h1 hal h2 ⟨e0, D', X, a1, a2, a3, a4, a5, a6, a7, a8, a9, a10, a11⟩ => ⟨e0, D', X, a1.mv hal h2, a2, by rw [h1]; exact a3, a4, by rw [h1]; exact a5.mv hal h2, a6, by rw [hal.findClass]; exact a7, a8, a9, by rw [h1, h2]; exact a10, by rw [h1, h2]; exact a11⟩
namespace New4
def yN : MethodName := ⟨"java/lang/String", "<init>", "([CIILjava/lang/Void;)V"⟩
abbrev yB : ByteArray := jdk_42_method_149_code
theorem d0 : decode yB 0 = .ok (.aload_n 0, 1) := by decide +kernel
theorem d1 : decode yB 1 = .ok (.invokespecial 1, 3) := by decide +kernel
theorem d4 : decode yB 4 = .ok (.iload_n 3, 1) := by decide +kernel
theorem d5 : decode yB 5 = .ok (.ifCond (.ne) 22, 3) := by decide +kernel
theorem d27 : decode yB 27 = .ok (.getstatic 38, 3) := by decide +kernel
theorem d30 : decode yB 30 = .ok (.ifCond (.eq) 28, 3) := by decide +kernel
theorem d33 : decode yB 33 = .ok (.aload_n 1, 1) := by decide +kernel
theorem d34 : decode yB 34 = .ok (.iload_n 2, 1) := by decide +kernel
theorem d35 : decode yB 35 = .ok (.iload_n 3, 1) := by decide +kernel
theorem d36 : decode yB 36 = .ok (.invokestatic 177, 3) := by decide +kernel
theorem d39 : decode yB 39 = .ok (.astore 5, 2) := by decide +kernel
theorem d41 : decode yB 41 = .ok (.aload_n 0, 1) := by decide +kernel
theorem d42 : decode yB 42 = .ok (.aload 5, 2) := by decide +kernel
theorem d44 : decode yB 44 = .ok (.iload_n 3, 1) := by decide +kernel
theorem d45 : decode yB 45 = .ok (.invokestatic 47, 3) := by decide +kernel
theorem d48 : decode yB 48 = .ok (.putfield 15, 3) := by decide +kernel
theorem d51 : decode yB 51 = .ok (.aload_n 0, 1) := by decide +kernel
theorem d52 : decode yB 52 = .ok (.aload 5, 2) := by decide +kernel
theorem d54 : decode yB 54 = .ok (.putfield 9, 3) := by decide +kernel
theorem d57 : decode yB 57 = .ok (.return_, 1) := by decide +kernel
def site : List Cond := [.fieldLink "java/lang/String" 38 "java/lang/String" "COMPACT_STRINGS" "Z", Cmp3.tab, CodL.tab, .laysFinal "java/lang/String" "java/lang/String" "value" "[B", .fieldLink "java/lang/String" 9 "java/lang/String" "value" "[B", .laysFinal "java/lang/String" "java/lang/String" "coder" "B", .fieldLink "java/lang/String" 15 "java/lang/String" "coder" "B"] ++ objW "java/lang/String" 1 ++ staticW "java/lang/String" 177 Cmp3.yN ++ staticW "java/lang/String" 47 CodL.yN
def tab : Cond := tabOf yN yB 6 none site
def P (a : Addr) (D : Cell) (fV fC : Field) (b : Addr) (A : Cell) (z : Int32) (o len : Nat) (args : Array Value) (s : State) : Prop := args = #[.ref a, .ref b, .int (Int32.ofNat o), .int (Int32.ofNat len), .null] ∧ Blank "java/lang/String" a D s ∧ Found "java/lang/String" "value" "[B" fV s ∧ Found "java/lang/String" "coder" "B" fC s ∧ Ch b A s ∧ StaticIs s "java/lang/String" "COMPACT_STRINGS" "Z" (.int z) ∧ ¬ z = 0 ∧ 0 < len ∧ o + len ≤ A.slots.size ∧ len ≤ 536870912 ∧ ∀ i, i < len → ¬ 255 < cv A (o + i)
def E (a : Addr) (D : Cell) (fV fC : Field) (A : Cell) (o len : Nat) (r : Option Value) (s u : State) : Prop := Got a D fV fC A o len r s u
/-- len > 0, no char of the range above 255: a Latin-1 String of their low bytes -/
theorem law (l : Launch) (a : Addr) (D : Cell) (fV fC : Field) (b : Addr) (A : Cell) (z : Int32) (o len : Nat) : Law l yN 5 4 2 35 yB 6 none site (P a D fV fC b A z o len) (E a D fV fC A o len) [⟨a, fC.slot⟩, ⟨a, fV.slot⟩] 1 len := by
  refine Law.of_walk (plainFor_of_name (by decide +kernel)) (by decide +kernel) (by decide +kernel) (by decide) (fun _ _ h => by rw [h.1]; rfl) (fun _ U U' hal hh h => ⟨h.1, h.2.1.mv hal hh, h.2.2.1.al hal, h.2.2.2.1.al hal, h.2.2.2.2.1.mv hal hh, h.2.2.2.2.2.1.there hal hh, h.2.2.2.2.2.2⟩) (fun r U U' V V' h1 hal h2 h => Got.mv r U U' V V' h1 hal h2 h) ?_
  intro p e s m args below meth c s₁ X0 hexec hbytes hml hret hlk hnm hown hh0 W hP
  obtain ⟨rfl, hB, f1, f2, hA, s1, hz, l0, l1, l2, hp⟩ := hP
  have a31 := hA.1.2.2.2
  have c1 : Steps p.tables e below (s₁.setTop (entryFrame m #[.ref a, .ref b, .int (Int32.ofNat o), .int (Int32.ofNat len), .null] 6)) (s₁.setTop (mkF m 0 #[.val (.ref a), .val (.ref b), .val (.int (Int32.ofNat o)), .val (.int (Int32.ofNat len)), .val .null, .unset] [])) := entry rfl
  have c2 : Steps p.tables e below (s₁.setTop (entryFrame m #[.ref a, .ref b, .int (Int32.ofNat o), .int (Int32.ofNat len), .null] 6)) (s₁.setTop (mkF m 1 #[.val (.ref a), .val (.ref b), .val (.int (Int32.ofNat o)), .val (.int (Int32.ofNat len)), .val .null, .unset] [.ref a])) := c1.trans (by
    refine XS.aloadN X0.here hexec rfl (hb hbytes d0) rfl rfl ?_
    exact Steps.refl _)
  obtain ⟨T3, X3, q3, st3⟩ := X0.oinit hexec hown (wks W (objW "java/lang/String" 1)) (g := (mkF m 1 #[.val (.ref a), .val (.ref b), .val (.int (Int32.ofNat o)), .val (.int (Int32.ofNat len)), .val .null, .unset] [.ref a])) rfl (by rw [hml]; rfl) (rest := []) rfl (hb hbytes d1) (W := 0) (by show 2 * 0 + 0 ≤ _; decide) (Nat.le_of_ble_eq_true rfl) (Nat.le_of_ble_eq_true rfl)
  have hh3 := q3.trans hh0
  have c4 : Steps p.tables e below (s₁.setTop (entryFrame m #[.ref a, .ref b, .int (Int32.ofNat o), .int (Int32.ofNat len), .null] 6)) (T3.setTop (mkF m 27 #[.val (.ref a), .val (.ref b), .val (.int (Int32.ofNat o)), .val (.int (Int32.ofNat len)), .val .null, .unset] [])) := (c2.trans (st3 _ (Steps.refl _))).trans (by
    refine XS.iloadN X3.here hexec rfl (hb hbytes d4) rfl ?_
    refine XS.ifYes X3.here hexec rfl (pc0 := 5) rfl (hb hbytes d5) rfl (i0_ne_t (nz32 (by omega) l0)) (by decide) rfl ?_
    exact Steps.refl _)
  obtain ⟨T5, X5, q5, st5⟩ := X3.sget hexec hown (wk W (.fieldLink "java/lang/String" 38 "java/lang/String" "COMPACT_STRINGS" "Z")) s1 (fun _ _ h => by rw [hh3]; exact h) (g := (mkF m 27 #[.val (.ref a), .val (.ref b), .val (.int (Int32.ofNat o)), .val (.int (Int32.ofNat len)), .val .null, .unset] [])) rfl (hb hbytes d27)
  have hh5 := q5.trans hh3
  have c6 : Steps p.tables e below (s₁.setTop (entryFrame m #[.ref a, .ref b, .int (Int32.ofNat o), .int (Int32.ofNat len), .null] 6)) (T5.setTop (mkF m 30 #[.val (.ref a), .val (.ref b), .val (.int (Int32.ofNat o)), .val (.int (Int32.ofNat len)), .val .null, .unset] [.int z])) := c4.trans (st5 _ (Steps.refl _))
  have c7 : Steps p.tables e below (s₁.setTop (entryFrame m #[.ref a, .ref b, .int (Int32.ofNat o), .int (Int32.ofNat len), .null] 6)) (T5.setTop (mkF m 36 #[.val (.ref a), .val (.ref b), .val (.int (Int32.ofNat o)), .val (.int (Int32.ofNat len)), .val .null, .unset] [.int (Int32.ofNat len), .int (Int32.ofNat o), .ref b])) := c6.trans (by
    refine XS.ifNo X5.here hexec rfl (hb hbytes d30) rfl (i0_eq_f hz) ?_
    refine XS.aloadN X5.here hexec rfl (hb hbytes d33) rfl rfl ?_
    refine XS.iloadN X5.here hexec rfl (hb hbytes d34) rfl ?_
    refine XS.iloadN X5.here hexec rfl (hb hbytes d35) rfl ?_
    exact Steps.refl _)
  obtain ⟨v8, T8, X8, E8, g8⟩ := X5.callS hexec (Cmp3.law l b A o len) hown (wks W (staticW "java/lang/String" 177 Cmp3.yN)) (wk W Cmp3.tab) (W := 0) (Nat.le_of_ble_eq_true rfl) (Nat.le_of_ble_eq_true rfl) (Nat.le_refl _) (by show 0 + len ≤ len; omega) (g := (mkF m 36 #[.val (.ref a), .val (.ref b), .val (.int (Int32.ofNat o)), .val (.int (Int32.ofNat len)), .val .null, .unset] [.int (Int32.ofNat len), .int (Int32.ofNat o), .ref b])) rfl (by rw [hml]; rfl) c7 (argsL := [.ref b, .int (Int32.ofNat o), .int (Int32.ofNat len)]) (rest := []) rfl rfl (by show 2 * 0 + 0 ≤ _; decide) (hb hbytes d36) (⟨rfl, hA.mv X5.warmed.alike hh5, l1, l2, hp⟩)
  obtain ⟨e8, z8⟩ := E8
  obtain ⟨rfl, N, n1, n2, n3, n4, n5, n6⟩ := NewArr.mv _ T5 s _ _ hh5.symm (Vm.Alike.refl _) rfl e8
  rw [hh5] at z8
  have hB1 := hB.keep X8.warmed.alike (n6 _ _ hB.1)
  have hne : s.heap.size ≠ a := (Nat.ne_of_lt (Array.getElem?_eq_some_iff.mp hB.1).1).symm
  have c9 : Steps p.tables e below (s₁.setTop (entryFrame m #[.ref a, .ref b, .int (Int32.ofNat o), .int (Int32.ofNat len), .null] 6)) (T8.setTop (mkF m 39 #[.val (.ref a), .val (.ref b), .val (.int (Int32.ofNat o)), .val (.int (Int32.ofNat len)), .val .null, .unset] [.ref s.heap.size])) := g8
  have c10 : Steps p.tables e below (s₁.setTop (entryFrame m #[.ref a, .ref b, .int (Int32.ofNat o), .int (Int32.ofNat len), .null] 6)) (T8.setTop (mkF m 45 #[.val (.ref a), .val (.ref b), .val (.int (Int32.ofNat o)), .val (.int (Int32.ofNat len)), .val .null, .val (.ref s.heap.size)] [.int (Int32.ofNat N.slots.size), .ref s.heap.size, .ref a])) := by
    have hc : Steps p.tables e below (s₁.setTop (entryFrame m #[.ref a, .ref b, .int (Int32.ofNat o), .int (Int32.ofNat len), .null] 6)) (T8.setTop (mkF m 45 #[.val (.ref a), .val (.ref b), .val (.int (Int32.ofNat o)), .val (.int (Int32.ofNat len)), .val .null, .val (.ref s.heap.size)] [.int (Int32.ofNat len), .ref s.heap.size, .ref a])) := c9.trans (by
      refine XS.astore X8.here hexec rfl (hb hbytes d39) rfl rfl rfl ?_
      refine XS.aloadN X8.here hexec rfl (hb hbytes d41) rfl rfl ?_
      refine XS.aload X8.here hexec rfl (hb hbytes d42) rfl rfl ?_
      refine XS.iloadN X8.here hexec rfl (hb hbytes d44) rfl ?_
      exact Steps.refl _)
    rw [n4]; exact hc
  obtain ⟨v11, T11, X11, E11, g11⟩ := X8.callS hexec (CodL.law l s.heap.size N) hown (wks W (staticW "java/lang/String" 47 CodL.yN)) (wk W CodL.tab) (W := 1) (Nat.le_of_ble_eq_true rfl) (Nat.le_of_ble_eq_true rfl) (Nat.le_refl _) (by show 0 + len + 0 ≤ len; omega) (g := (mkF m 45 #[.val (.ref a), .val (.ref b), .val (.int (Int32.ofNat o)), .val (.int (Int32.ofNat len)), .val .null, .val (.ref s.heap.size)] [.int (Int32.ofNat N.slots.size), .ref s.heap.size, .ref a])) rfl (by rw [hml]; rfl) c10 (argsL := [.ref s.heap.size, .int (Int32.ofNat N.slots.size)]) (rest := [.ref a]) rfl rfl (by show 2 * 0 + (1 + 0) ≤ _; decide) (hb hbytes d45) (⟨rfl, n1⟩)
  obtain ⟨rfl, q11⟩ := E11
  have hB11 := hB1.mv (X8.warmed.alike.symm.trans X11.warmed.alike) q11
  have c12 : Steps p.tables e below (s₁.setTop (entryFrame m #[.ref a, .ref b, .int (Int32.ofNat o), .int (Int32.ofNat len), .null] 6)) (T11.setTop (mkF m 48 #[.val (.ref a), .val (.ref b), .val (.int (Int32.ofNat o)), .val (.int (Int32.ofNat len)), .val .null, .val (.ref s.heap.size)] [.int 0, .ref a])) := g11
  obtain ⟨T13, X13, p13, bl13, sl13, st13⟩ := X11.finit hexec hown (wk W (.fieldLink "java/lang/String" 15 "java/lang/String" "coder" "B")) (Or.inr ⟨_, (wk W (.laysFinal "java/lang/String" "java/lang/String" "coder" "B"))⟩) (Or.inl ⟨rfl, hnm⟩) f2 (Or.inl rfl) hB11 (t := .byte) (by decide +kernel) rfl (g := (mkF m 48 #[.val (.ref a), .val (.ref b), .val (.int (Int32.ofNat o)), .val (.int (Int32.ofNat len)), .val .null, .val (.ref s.heap.size)] [.int 0, .ref a])) rfl (rest := []) rfl (hb hbytes d48)
  have c14 : Steps p.tables e below (s₁.setTop (entryFrame m #[.ref a, .ref b, .int (Int32.ofNat o), .int (Int32.ofNat len), .null] 6)) (T13.setTop (mkF m 54 #[.val (.ref a), .val (.ref b), .val (.int (Int32.ofNat o)), .val (.int (Int32.ofNat len)), .val .null, .val (.ref s.heap.size)] [.ref s.heap.size, .ref a])) := (c12.trans (st13 _ (Steps.refl _))).trans (by
    refine XS.aloadN X13.here hexec rfl (hb hbytes d51) rfl rfl ?_
    refine XS.aload X13.here hexec rfl (hb hbytes d52) rfl rfl ?_
    exact Steps.refl _)
  obtain ⟨T15, X15, p15, bl15, sl15, st15⟩ := X13.finit hexec hown (wk W (.fieldLink "java/lang/String" 9 "java/lang/String" "value" "[B")) (Or.inr ⟨_, (wk W (.laysFinal "java/lang/String" "java/lang/String" "value" "[B"))⟩) (Or.inl ⟨rfl, hnm⟩) f1 (Or.inl rfl) bl13 (t := (.array .byte)) (by decide +kernel) rfl (g := (mkF m 54 #[.val (.ref a), .val (.ref b), .val (.int (Int32.ofNat o)), .val (.int (Int32.ofNat len)), .val .null, .val (.ref s.heap.size)] [.ref s.heap.size, .ref a])) rfl (rest := []) rfl (hb hbytes d54)
  have c16 : Steps p.tables e below (s₁.setTop (entryFrame m #[.ref a, .ref b, .int (Int32.ofNat o), .int (Int32.ofNat len), .null] 6)) (T15.setTop (mkF m 57 #[.val (.ref a), .val (.ref b), .val (.int (Int32.ofNat o)), .val (.int (Int32.ofNat len)), .val .null, .val (.ref s.heap.size)] [])) := c14.trans (st15 _ (Steps.refl _))
  have ap := apart (Or.inr ⟨_, (wk W (.laysFinal "java/lang/String" "java/lang/String" "value" "[B"))⟩) (Or.inr ⟨_, (wk W (.laysFinal "java/lang/String" "java/lang/String" "coder" "B"))⟩) f1 f2 (t₁ := .array .byte) (t₂ := .byte) (by decide +kernel) (by decide +kernel) (by decide)
  have al := X8.warmed.alike.symm.trans X15.warmed.alike
  have n7 : T11.heap[s.heap.size]? = some N := by rw [q11]; exact n1.1
  exact ⟨T15, none, _, _, _, X15, by simp, rfl, by omega, (fun _ => rfl), ⟨rfl, _, N, bl15, ((Same.refl D _).set _ (by simp)).set _ (by simp), sl15, (Cell.slots_setSlot_ne _ ap).trans sl13, n1.keep al (p15.other hne (p13.other hne n7)), n2, by rw [al.findClass]; exact n3, n4, n5, fun y c h1 h2 => p15.other h1 (p13.other h1 (by rw [q11]; exact n6 y c h2)), by rw [p15.2.2, p13.2.2, q11]; exact z8⟩, fun fs hl => c16.trans (X15.returnOut hexec hret (hb hbytes d57) hl)⟩
end New4
namespace New1
def yN : MethodName := ⟨"java/lang/String", "<init>", "([C)V"⟩
abbrev yB : ByteArray := jdk_42_method_3_code
theorem d0 : decode yB 0 = .ok (.aload_n 0, 1) := by decide +kernel
theorem d1 : decode yB 1 = .ok (.aload_n 1, 1) := by decide +kernel
theorem d2 : decode yB 2 = .ok (.iconst 0, 1) := by decide +kernel
theorem d3 : decode yB 3 = .ok (.aload_n 1, 1) := by decide +kernel
theorem d4 : decode yB 4 = .ok (.arraylength, 1) := by decide +kernel
theorem d5 : decode yB 5 = .ok (.aconst_null, 1) := by decide +kernel
theorem d6 : decode yB 6 = .ok (.invokespecial 27, 3) := by decide +kernel
theorem d9 : decode yB 9 = .ok (.return_, 1) := by decide +kernel
def site : List Cond := [New4.tab] ++ initW "java/lang/String" 27 New4.yN
def tab : Cond := tabOf yN yB 2 none site
def P (a : Addr) (D : Cell) (fV fC : Field) (b : Addr) (A : Cell) (z : Int32) (args : Array Value) (s : State) : Prop := args = #[.ref a, .ref b] ∧ Blank "java/lang/String" a D s ∧ Found "java/lang/String" "value" "[B" fV s ∧ Found "java/lang/String" "coder" "B" fC s ∧ Ch b A s ∧ StaticIs s "java/lang/String" "COMPACT_STRINGS" "Z" (.int z) ∧ ¬ z = 0 ∧ 0 < A.slots.size ∧ A.slots.size ≤ 536870912 ∧ ∀ i, i < A.slots.size → ¬ 255 < cv A i
def E (a : Addr) (D : Cell) (fV fC : Field) (A : Cell) (r : Option Value) (s u : State) : Prop := Got a D fV fC A 0 A.slots.size r s u
/-- new String(chars), not empty, no char above 255: a Latin-1 String of their low bytes -/
theorem law (l : Launch) (a : Addr) (D : Cell) (fV fC : Field) (b : Addr) (A : Cell) (z : Int32) : Law l yN 2 1 3 52 yB 2 none site (P a D fV fC b A z) (E a D fV fC A) [⟨a, fC.slot⟩, ⟨a, fV.slot⟩] 1 A.slots.size := by
  refine Law.of_walk (plainFor_of_name (by decide +kernel)) (by decide +kernel) (by decide +kernel) (by decide) (fun _ _ h => by rw [h.1]; rfl) (fun _ U U' hal hh h => ⟨h.1, h.2.1.mv hal hh, h.2.2.1.al hal, h.2.2.2.1.al hal, h.2.2.2.2.1.mv hal hh, h.2.2.2.2.2.1.there hal hh, h.2.2.2.2.2.2⟩) (fun r U U' V V' h1 hal h2 h => Got.mv r U U' V V' h1 hal h2 h) ?_
  intro p e s m args below meth c s₁ X0 hexec hbytes hml hret hlk hnm hown hh0 W hP
  obtain ⟨rfl, hB, f1, f2, hA, s1, hz, l0, l2, hp⟩ := hP
  have c1 : Steps p.tables e below (s₁.setTop (entryFrame m #[.ref a, .ref b] 2)) (s₁.setTop (mkF m 0 #[.val (.ref a), .val (.ref b)] [])) := entry rfl
  have c2 : Steps p.tables e below (s₁.setTop (entryFrame m #[.ref a, .ref b] 2)) (s₁.setTop (mkF m 6 #[.val (.ref a), .val (.ref b)] [.null, .int (Int32.ofNat A.slots.size), .int 0, .ref b, .ref a])) := c1.trans (by
    refine XS.aloadN X0.here hexec rfl (hb hbytes d0) rfl rfl ?_
    refine XS.aloadN X0.here hexec rfl (hb hbytes d1) rfl rfl ?_
    refine iconstV X0.here hexec rfl 0 (hb hbytes d2) (by decide) ?_
    refine XS.aloadN X0.here hexec rfl (hb hbytes d3) rfl rfl ?_
    refine X0.alen hexec (hA.1.mv X0.warmed.alike hh0) rfl rfl (hb hbytes d4) ?_
    refine XS.aconstNull X0.here hexec rfl (hb hbytes d5) ?_
    exact Steps.refl _)
  obtain ⟨v3, T3, X3, E3, g3⟩ := X0.callN hexec (New4.law l a D fV fC b A z 0 A.slots.size) rfl hown (wks W (initW "java/lang/String" 27 New4.yN)) (W New4.tab (by simp only [site, List.mem_cons, List.mem_append, true_or, or_true])) (W := 0) (Nat.le_of_ble_eq_true rfl) (Nat.le_of_ble_eq_true rfl) (Nat.le_refl _) (by show 0 + A.slots.size ≤ A.slots.size; omega) (g := (mkF m 6 #[.val (.ref a), .val (.ref b)] [.null, .int (Int32.ofNat A.slots.size), .int (Int32.ofNat 0), .ref b, .ref a])) rfl (by rw [hml]; rfl) c2 (argsL := [.ref b, .int (Int32.ofNat 0), .int (Int32.ofNat A.slots.size), .null]) (rest := []) rfl rfl (by show 2 * 0 + 0 ≤ _; decide) (hb hbytes d6) (⟨rfl, hB.mv X0.warmed.alike hh0, f1.al X0.warmed.alike, f2.al X0.warmed.alike, hA.mv X0.warmed.alike hh0, s1.there X0.warmed.alike hh0, hz, l0, by omega, l2, fun i hi => by rw [Nat.zero_add]; exact hp i hi⟩)
  have e0 := Got.mv _ s₁ s _ _ hh0.symm (Vm.Alike.refl _) rfl E3
  obtain rfl := e0.1
  have c4 : Steps p.tables e below (s₁.setTop (entryFrame m #[.ref a, .ref b] 2)) (T3.setTop (mkF m 9 #[.val (.ref a), .val (.ref b)] [])) := g3
  exact ⟨T3, none, _, _, _, X3, by simp, rfl, by omega, (fun _ => rfl), e0, fun fs hl => c4.trans (X3.returnOut hexec hret (hb hbytes d9) hl)⟩
theorem pays {l : Launch} {R : Room} {p : Program} {e : Env} {below : List Frame} {s : State} {sargs : Array Value} {len W : Nat} (a : Addr) (D : Cell) (fV fC : Field) (b : Addr) (A : Cell) (z : Int32) (htab : tab.before sargs s = true) (hfr : 4 ≤ R.frames) (hlo : W + 65 ≤ R.locals) :
    Back l R p e below s sargs yN len W (fun A₁ a₁ => A₁.cells + 1 ≤ R.cells ∧ A₁.slots + A.slots.size ≤ R.slots ∧ P a D fV fC b A z a₁ A₁.U) (fun A₁ _ v₁ B₁ => E a D fV fC A v₁ A₁.U B₁.U ∧ B₁.locs = A₁.locs ++ [⟨a, fC.slot⟩, ⟨a, fV.slot⟩] ∧ B₁.cells = A₁.cells + 1 ∧ B₁.slots = A₁.slots + A.slots.size) :=
  (law l a D fV fC b A z).pays htab hfr (by omega)
end New1
end StrChars
namespace StrChars.Road
open Jvm Sem ClassFile Op Lib Jvm.Stand Jvm.Free Jvm.Free.XT
open Jvm.Lib.Cold (StaticIs)
abbrev ST : String := "java/lang/String"
/-- every table word that New1's law asks, flat -/
abbrev words : List Jvm.Cond := [.code New1.yN New1.yB 2 none, .initialized ST, .methodLink ST 27 New4.yN, .instanceMethod New4.yN,
  .code New4.yN New4.yB 6 none, .fieldLink ST 38 ST "COMPACT_STRINGS" "Z", .laysFinal ST ST "value" "[B", .fieldLink ST 9 ST "value" "[B", .laysFinal ST ST "coder" "B", .fieldLink ST 15 ST "coder" "B",
  .methodLink ST 1 Lib.objectInit, .instanceMethod Lib.objectInit, .code Lib.objectInit ⟨#[0xb1]⟩ 1 none, .methodLink ST 177 Cmp3.yN, .static Cmp3.yN, .methodLink ST 47 CodL.yN, .static CodL.yN,
  .code Cmp3.yN Cmp3.yB 6 (some (.array .byte)), .initialized U16, .arrayClass .byte, .methodLink U16 115 Cmp5.yN, .static Cmp5.yN, .code Cmp5.yN Cmp5.yB 7 (some .int), .code CodL.yN CodL.yB 2 (some .byte)]
theorem tab_of {a : Array Value} {s : State} (h : ∀ w ∈ words, w.before a s = true) : New1.tab.before a s = true := by
  have h5 : Cmp5.tab.before a s = true := unparts (wk h (.code Cmp5.yN Cmp5.yB 7 (some .int))) (wks h (.initialized Cmp5.yN.cls :: Cmp5.site))
  have hc : CodL.tab.before a s = true := unparts (wk h (.code CodL.yN CodL.yB 2 (some .byte))) (wks h (.initialized CodL.yN.cls :: CodL.site))
  have q5 : ∀ w ∈ Cmp5.tab :: words, w.before a s = true := fun w hw => (List.mem_cons.mp hw).elim (fun e => e ▸ h5) (h w)
  have h3 : Cmp3.tab.before a s = true := unparts (wk q5 (.code Cmp3.yN Cmp3.yB 6 (some (.array .byte)))) (wks q5 (.initialized Cmp3.yN.cls :: Cmp3.site))
  have q3 : ∀ w ∈ Cmp3.tab :: CodL.tab :: words, w.before a s = true := fun w hw => (List.mem_cons.mp hw).elim (fun e => e ▸ h3) fun hw => (List.mem_cons.mp hw).elim (fun e => e ▸ hc) (h w)
  have h4 : New4.tab.before a s = true := unparts (wk q3 (.code New4.yN New4.yB 6 none)) (wks q3 (.initialized New4.yN.cls :: New4.site))
  have q4 : ∀ w ∈ New4.tab :: words, w.before a s = true := fun w hw => (List.mem_cons.mp hw).elim (fun e => e ▸ h4) (h w)
  exact unparts (wk q4 (.code New1.yN New1.yB 2 none)) (wks q4 (.initialized New1.yN.cls :: New1.site))
/-- the words ride from the start Z to the walk's own state -/
theorem moved {Z s : State} {a0 args : Array Value} (hZ : Z.Warmed39 s.vm) (hw : ∀ d ∈ words, d.before a0 Z = true) : ∀ d ∈ words, d.before args s = true := fun d hd => by
  have q := hw d hd
  have t : ∀ d ∈ words, d = .arrayClass .byte ∨ (d.onTables && d.keepsFace) = true := by decide +kernel
  rcases t d hd with rfl | t
  · exact RoadKit.mvA hZ q
  · exact RoadKit.mv hZ q t
/-- WHAT COMES BACK, over the tables of the start Z: h the heap at the call, h' behind it -/
def Q (Z : State) (x : Addr) (A : Cell) (h : Heap) (v : Option Value) (h' : Heap) (L : List Loc) : Prop := v = none ∧ (∀ y ∈ L, y.base = x) ∧ RoadKit.Keep h h' [x] ∧ h'.size = h.size + 1 ∧ RoadKit.Exa Z h' x ST ∧ RoadKit.Fld Z h' x ST "value" "[B" (.ref h.size) ∧ RoadKit.Fld Z h' x ST "coder" "B" (.int 0) ∧
  (∃ V : Cell, RoadKit.Arr Z h' h.size V .byte ∧ V.vm = .none ∧ Z.vm.findClass "[B" = some V.cls ∧ V.slots.size = A.slots.size ∧ ∀ j, j < A.slots.size → V.slots[j]? = some (.int (lo8 (cv A j)))) ∧
  ∀ (O n d : String) (w : Value), RoadKit.Fld Z h x O n d w → RoadKit.slotOf Z O n d ≠ RoadKit.slotOf Z ST "value" "[B" → RoadKit.slotOf Z O n d ≠ RoadKit.slotOf Z ST "coder" "B" → RoadKit.Fld Z h' x O n d w
/-- **new String(chars) AT A CALL, IN THE ROAD'S FORM**: for specialBack behind newO: x the fresh String, b the char[] with the cell A -/
theorem back {p : Program} {l : Launch} {e : Env} {R : Room} {s : State} {args : Array Value} {below : List Frame} {len W : Nat} {Z : State} {a0 : Array Value} {h : Heap} (hZ : Z.Warmed39 s.vm) (hw : ∀ d ∈ words, d.before a0 Z = true) {kI : Nat} (wi : (Jvm.Cond.instantiable ST kI).before a0 Z = true)
    {x b : Addr} {A : Cell} {z : Int32} {v0 c0 : Value} (E : RoadKit.Exa Z h x ST) (V : RoadKit.Fld Z h x ST "value" "[B" v0) (C : RoadKit.Fld Z h x ST "coder" "B" c0) (K : RoadKit.Arr Z h b A .char) (hty : Typed .char A) (S : RoadKit.Sta Z h ST "COMPACT_STRINGS" "Z" (.int z)) (hz : ¬ z = 0)
    (l0 : 0 < A.slots.size) (l2 : A.slots.size ≤ 536870912) (hp : ∀ i, i < A.slots.size → ¬ 255 < cv A i) (hfr : 4 ≤ R.frames) (hlo : W + 65 ≤ R.locals) :
    Back l R p e below s args New1.yN len W (fun P a => a = #[.ref x, .ref b] ∧ P.U.heap = h ∧ P.cells + 1 ≤ R.cells ∧ P.slots + A.slots.size ≤ R.slots)
      (fun P _ v B => ∃ L, Q Z x A h v B.U.heap L ∧ B.locs = P.locs ++ L ∧ B.cells = P.cells + 1 ∧ B.slots = P.slots + A.slots.size) := by
  intro m meth c P g ig mk a X hg hsize hdg hW hn hp'
  obtain ⟨rfl, rfl, r1, r2⟩ := hp'
  have al : Z.vm.Alike P.U.vm := hZ.alike.trans X.warmed.alike
  obtain ⟨D, cfV, kV, iV, fV, hD, gV, stV, knV, obV, asV, slV⟩ := id V
  obtain ⟨D', cfC, kC, iC, fC, hD', gC, stC, -, -, asC, slC⟩ := id C
  cases hD.symm.trans hD'
  obtain ⟨D2, kD, e1, e2, e3, e4, e5⟩ := id E
  cases hD.symm.trans e1
  obtain ⟨c2, k2, i1, i2, i3, -⟩ := Cond.instantiable_spec wi
  cases e2.symm.trans i1
  cases e3.symm.trans i2
  obtain ⟨kU, u1, u2⟩ := al.2.2 _ _ e3
  have hB : Blank ST x D P.U := ⟨hD, ⟨knV, fun q hq => by rw [hq] at obV; cases obV⟩, by rw [al.findClass]; exact e2, kU, u1, by rw [u2]; exact i3, by rw [u2]; exact e5 i3⟩
  have F1 : Found ST "value" "[B" fV P.U := ⟨SBG.found_only al ⟨cfV, kV, iV, gV⟩, stV⟩
  have F2 : Found ST "coder" "B" fC P.U := ⟨SBG.found_only al ⟨cfC, kC, iC, gC⟩, stC⟩
  have hA : Ch b A P.U := ⟨⟨K.1, State.isArrayOf_alike al K.2.1, K.2.2, by omega⟩, hty⟩
  have hS : StaticIs P.U ST "COMPACT_STRINGS" "Z" (.int z) := by
    obtain ⟨cfS, iS, kS, fS, st, cS, t1, t2, t3, t4, t5, t6, t7⟩ := S
    exact StaticIs.there (s := { Z with heap := P.U.heap }) ⟨cfS, iS, kS, fS, st, cS, t1, t2, t3, t4, t5, (fun q => by rw [q] at t6; cases t6), t7⟩ al rfl
  obtain ⟨v, B, X', ⟨⟨hv, E', V', q1, q2, q3, q4, q5, q6, q7, q8, q9, q10, q11⟩, hl, hc, hs⟩, st⟩ := New1.pays x D fV fC b A z (tab_of (moved hZ hw)) hfr hlo m meth c P g ig mk _ X hg hsize hdg hW hn ⟨r1, r2, rfl, hB, F1, F2, hA, hS, hz, l0, l2, hp⟩
  have al' : Z.vm.Alike B.U.vm := hZ.alike.trans X'.warmed.alike
  have hsz : E'.slots.size = D.slots.size := by
    obtain ⟨-, -, -, kB, w1, w2, w3⟩ := q1
    obtain ⟨kB', y1, y2⟩ := al'.2.2 _ _ e3
    rw [q2.2.1] at w1
    cases w1.symm.trans y1
    rw [w3, e5 i3, y2]
  refine ⟨v, B, X', ⟨_, ⟨hv, ?_, ⟨by omega, fun y cy hy hn' => q10 y cy (by simpa using hn') hy, fun y cy hy => ?_⟩, q11, ⟨E', _, q1.1, by rw [q2.2.1]; exact e2, by rw [q2.2.1]; exact e3, by rw [q2.1]; exact obV, fun _ => by rw [hsz]; exact e5 i3⟩,
    ⟨E', cfV, kV, iV, fV, q1.1, gV, stV, by rw [q2.1]; exact knV, by rw [q2.1]; exact obV, by rw [q2.2.1]; exact asV, q3⟩, ⟨E', cfC, kC, iC, fC, q1.1, gC, stC, by rw [q2.1]; exact knV, by rw [q2.1]; exact obV, by rw [q2.2.1]; exact asC, q4⟩,
    ⟨V', ⟨q5.1, State.isArrayOf_alike al'.symm q5.2.1, q5.2.2.1⟩, q6, by rw [← al'.findClass]; exact q7, q8, fun j hj => by have := q9 j hj; rwa [Nat.zero_add] at this⟩, fun O n d w F n1 n2 => ?_⟩, hl, hc, hs⟩, st⟩
  · intro y hy
    simp only [List.mem_cons, List.not_mem_nil, or_false] at hy
    rcases hy with rfl | rfl <;> rfl
  · by_cases q : y = x
    · subst q
      cases hD.symm.trans hy
      exact ⟨E', q1.1, q2.2.1, q2.1, hsz⟩
    · exact ⟨cy, q10 y cy q hy, rfl, rfl, rfl⟩
  · obtain ⟨D3, cf, k, i, f, g1, g2, g3, g4, g5, g6, g7⟩ := F
    cases hD.symm.trans g1
    simp only [RoadKit.slotOf, g2, gV, gC, Option.map_some, Option.getD_some] at n1 n2
    exact ⟨E', cf, k, i, f, q1.1, g2, g3, by rw [q2.1]; exact g4, by rw [q2.1]; exact g5, by rw [q2.2.1]; exact g6, by rw [q2.2.2 f.slot (by simp [n1, n2])]; exact g7⟩
end StrChars.Road
namespace StrChars.Road
open Jvm Sem ClassFile Op Lib Jvm.Stand Jvm.Free Jvm.Free.XT
/-- WHAT COMES BACK, the byte[] as a list of values -/
def QA (Z : State) (x : Addr) (zn : Int32) (cs : List Int32) (h : Heap) (v : Option Value) (h' : Heap) (L : List Loc) : Prop := v = none ∧ (∀ y ∈ L, y.base = x) ∧ RoadKit.Keep h h' [x] ∧ h'.size = h.size + 1 ∧ RoadKit.Exa Z h' x ST ∧ RoadKit.Fld Z h' x ST "value" "[B" (.ref h.size) ∧ RoadKit.Fld Z h' x ST "coder" "B" (.int 0) ∧
  (∃ kb, Z.vm.findClass "[B" = some kb ∧ RoadKit.Arv Z h' h.size kb .byte zn (cs.map fun c => .int (lo8 c)) (.int 0)) ∧
  ∀ (O n d : String) (w : Value), RoadKit.Fld Z h x O n d w → RoadKit.slotOf Z O n d ≠ RoadKit.slotOf Z ST "value" "[B" → RoadKit.slotOf Z O n d ≠ RoadKit.slotOf Z ST "coder" "B" → RoadKit.Fld Z h' x O n d w
/-- **new String(chars) AT A CALL, THE ARRAYS AS LISTS**: the char[] at b holds cs, not empty, no char above 255 -/
theorem backArv {p : Program} {l : Launch} {e : Env} {R : Room} {s : State} {args : Array Value} {below : List Frame} {len W : Nat} {Z : State} {a0 : Array Value} {h : Heap} (hZ : Z.Warmed39 s.vm) (hw : ∀ d ∈ words, d.before a0 Z = true) {kI : Nat} (wi : (Jvm.Cond.instantiable ST kI).before a0 Z = true)
    {x b : Addr} {k : ClassId} {zn z : Int32} {cs : List Int32} {dv v0 c0 : Value} (E : RoadKit.Exa Z h x ST) (V : RoadKit.Fld Z h x ST "value" "[B" v0) (C : RoadKit.Fld Z h x ST "coder" "B" c0) (K : RoadKit.Arv Z h b k .char zn (cs.map Value.int) dv) (S : RoadKit.Sta Z h ST "COMPACT_STRINGS" "Z" (.int z)) (hz : ¬ z = 0)
    (hlen : zn.toNatClampNeg = cs.length) (h0 : 0 < cs.length) (hbig : cs.length ≤ 536870912) (hall : ∀ c ∈ cs, ¬ 255 < c) (hfr : 4 ≤ R.frames) (hlo : W + 65 ≤ R.locals) :
    Back l R p e below s args New1.yN len W (fun P a => a = #[.ref x, .ref b] ∧ P.U.heap = h ∧ P.cells + 1 ≤ R.cells ∧ P.slots + cs.length ≤ R.slots)
      (fun P _ v B => ∃ L, QA Z x zn cs h v B.U.heap L ∧ B.locs = P.locs ++ L ∧ B.cells = P.cells + 1 ∧ B.slots = P.slots + cs.length) := by
  obtain ⟨A, K1, K2, K3, K4, K5, K6⟩ := K
  have e : A.slots.size = cs.length := K3.trans hlen
  have hat : ∀ (i : Nat) (hi : i < cs.length), A.slots[i]? = some (.int cs[i]) := fun i hi => by rw [K5 i (by omega)]; simp [List.getD_eq_getElem?_getD, hi]
  have hcv : ∀ (i : Nat) (hi : i < cs.length), cv A i = cs[i] := fun i hi => by unfold cv; rw [hat i hi]
  have hty : Typed .char A := fun i v hv => by
    have hi : i < A.slots.size := (Array.getElem?_eq_some_iff.mp hv).1
    have q := K5 i hi
    rw [hv] at q
    rw [Option.some.inj q]
    exact K6 i hi
  refine Back.mono (back hZ hw wi E V C K1 hty S hz (by omega) (by omega) (fun i hi => by rw [hcv i (by omega)]; exact hall _ (List.getElem_mem _)) hfr hlo) (fun P a hp => ⟨hp.1, hp.2.1, hp.2.2.1, by rw [e]; exact hp.2.2.2⟩) (fun P a v B hp hq => ?_)
  obtain ⟨L, ⟨q1, q2, q3, q4, q5, q6, q7, ⟨V', v1, v2, v3, v4, v5⟩, q9⟩, hl, hc, hs⟩ := hq
  refine ⟨L, ⟨q1, q2, q3, q4, q5, q6, q7, ⟨V'.cls, v3, V', v1, rfl, by rw [v4, e, hlen], K4, fun i hi => ?_, fun i hi => ?_⟩, q9⟩, hl, hc, by rw [hs, e]⟩
  · have hi' : i < cs.length := by omega
    rw [v5 i (by omega), hcv i hi']; simp [List.getD_eq_getElem?_getD, hi']
  · have hi' : i < cs.length := by omega
    simp only [List.getD_eq_getElem?_getD, List.getElem?_map, List.getElem?_eq_getElem hi', Option.map_some, Option.getD_some]
    exact fits_lo8 _
end StrChars.Road
namespace StrChars.Road
open Jvm Sem ClassFile Op Lib Jvm.Stand Jvm.Free Jvm.Free.XT
/-- WHAT COMES BACK, in the writer's own shape -/
def QV (Z : State) (x : Addr) (N : Int32) (bs : List Int32) (h : Heap) (n0 : Nat) (v : Option Value) (h' : Heap) (L : List Loc) : Prop := v = none ∧ RoadKit.Fr n0 L ∧ RoadKit.Keep h h' [x] ∧ RoadKit.Exa Z h' x ST ∧ RoadKit.Fld Z h' x ST "coder" "B" (.int 0) ∧
  ∃ (t : Addr) (kb : ClassId), n0 ≤ t ∧ h.size ≤ t ∧ ¬ t = x ∧ RoadKit.Fld Z h' x ST "value" "[B" (.ref t) ∧ RoadKit.Arv Z h' t kb .byte N (bs.map Value.int) (.int 0)
/-- **new String(chars) AT A CALL, FOR THE WRITER**: a char[] of n known ints, each 0 to 255 -/
theorem backV {p : Program} {l : Launch} {e : Env} {R : Room} {s : State} {args : Array Value} {below : List Frame} {len W : Nat} {Z : State} {a0 : Array Value} {h : Heap} (hZ : Z.Warmed39 s.vm) (hw : ∀ d ∈ words, d.before a0 Z = true) {kI : Nat} (wi : (Jvm.Cond.instantiable ST kI).before a0 Z = true)
    {x b : Addr} {kC : ClassId} {cs bs : List Int32} {d v0 c0 : Value} {z N : Int32} {n n0 : Nat} (hx0 : n0 ≤ x) (hh0 : n0 ≤ h.size) (E : RoadKit.Exa Z h x ST) (V : RoadKit.Fld Z h x ST "value" "[B" v0) (C : RoadKit.Fld Z h x ST "coder" "B" c0) (K : RoadKit.Arv Z h b kC .char N (cs.map Value.int) d) (S : RoadKit.Sta Z h ST "COMPACT_STRINGS" "Z" (.int z)) (hz : ¬ z = 0)
    (hn : cs.length = n) (hN : N = Int32.ofNat n) (l0 : 0 < n) (l2 : n ≤ 4000) (hp : ∀ c ∈ cs, ¬ c < 0 ∧ ¬ (255 : Int32) < c) (hb : bs = cs.map (fun c => c.toInt8.toInt32)) (hfr : 4 ≤ R.frames) (hlo : W + 65 ≤ R.locals) :
    Back l R p e below s args (⟨"java/lang/String", "<init>", "([C)V"⟩ : MethodName) len W (fun P a => a = #[.ref x, .ref b] ∧ P.U.heap = h ∧ P.cells + 1 ≤ R.cells ∧ P.slots + n ≤ R.slots)
      (fun P _ v B => ∃ L, QV Z x N bs h n0 v B.U.heap L ∧ B.locs = P.locs ++ L ∧ B.cells = P.cells + 1 ∧ B.slots = P.slots + n) := by
  subst hn hN hb
  refine Back.mono (backArv hZ hw wi E V C K S hz (n32 (by omega)) l0 (by omega) (fun c hc => (hp c hc).2) hfr hlo) (fun P a hp => hp) (fun P a v B hp hq => ?_)
  obtain ⟨L, ⟨q1, q2, q3, q4, q5, q6, q7, ⟨kb, v1, v2⟩, q9⟩, hl, hc, hs⟩ := hq
  exact ⟨L, ⟨q1, fun y hy => by rw [q2 y hy]; exact hx0, q3, q5, q7, h.size, kb, hh0, Nat.le_refl _, Nat.ne_of_gt E.lt, q6, by rw [List.map_map]; exact v2⟩, hl, hc, hs⟩
end StrChars.Road
end Jvm.Pilot.@@N@@
namespace Jvm.Pilot.@@N@@
open Jvm Jvm.ClassFile Sem Op Lib Jvm.Free Jvm.Stand Jvm.LawKit Jvm.RoadKit Bundle Jvm.Pilot.@@N@@.Jvm.D
theorem own_and255 (x : Int32) : ¬ (x &&& (255 : Int32)) < 0 ∧ ¬ (255 : Int32) < (x &&& (255 : Int32)) := by
  have h := c_and x (255 : Int32) (by decide)
  have e : (255 : Int32).toInt = 255 := by decide
  have e0 : (0 : Int32).toInt = 0 := by decide
  rw [Int32.lt_iff_toInt_lt, Int32.lt_iff_toInt_lt]; omega
theorem own_nar (x : Int32) (h : ¬ x < 0 ∧ ¬ (255 : Int32) < x) : x.toUInt32.toUInt16.toUInt32.toInt32 = x := by
  have q := c_i2c x
  have e : (255 : Int32).toInt = 255 := by decide
  have e0 : (0 : Int32).toInt = 0 := by decide
  rw [Int32.lt_iff_toInt_lt, Int32.lt_iff_toInt_lt] at h
  apply Int32.toInt_inj.mp
  omega
theorem own_narI (x : Int32) (h : ¬ x < 0 ∧ ¬ (255 : Int32) < x) : ¬ nar .char x < 0 ∧ ¬ (255 : Int32) < nar .char x := by
  have e : nar .char x = x := own_nar x h
  rw [e]; exact h
theorem own_i2c (x : Int32) (h : ¬ x < 0 ∧ ¬ (255 : Int32) < x) : ¬ x.toUInt32.toUInt16.toUInt32.toInt32 < 0 ∧ ¬ (255 : Int32) < x.toUInt32.toUInt16.toUInt32.toInt32 := by
  rw [own_nar x h]; exact h
theorem own_up (cs : List Int32) (h : ∀ c ∈ cs, ¬ c < 0 ∧ ¬ (255 : Int32) < c) : ∀ c ∈ cs, ¬ c < 0 ∧ ¬ (65535 : Int32) < c := fun c hc => ⟨(h c hc).1, fun q => (h c hc).2 (by
  rw [Int32.lt_iff_toInt_lt] at q ⊢
  have e1 : (65535 : Int32).toInt = 65535 := by decide
  have e2 : (255 : Int32).toInt = 255 := by decide
  omega)⟩
theorem own_cat {w : Value} (h : w.isRef = true) : w.category = 1 := by rcases ref_cases h with rfl | ⟨a, rfl⟩ <;> rfl
theorem own_nrw {w : Value} {t : FieldType} (h : w.isRef = true) (ht : t.isReference = true) : narrow t w = w := by
  rcases ref_cases h with rfl | ⟨a, rfl⟩ <;> cases t <;> first | rfl | cases ht
theorem own_fit {w : Value} {t : FieldType} (h : w.isRef = true) (ht : t.isReference = true) : fits t w = true := by
  rcases ref_cases h with rfl | ⟨a, rfl⟩ <;> cases t <;> first | rfl | cases ht
def OptStr (Z : State) (h : Heap) (w : Value) : Prop := w = .null ∨ ∃ a, w = .ref a ∧ Exa Z h a "java/lang/String"
theorem OptStr.ref {Z : State} {h : Heap} {w : Value} (F : OptStr Z h w) : w.isRef = true := by rcases F with rfl | ⟨a, rfl, -⟩ <;> rfl
theorem OptStr.ext {Z : State} {h h' : Heap} {w : Value} (E : Ext h h') (F : OptStr Z h w) : OptStr Z h' w := F.imp id fun ⟨a, q, r⟩ => ⟨a, q, r.ext E⟩
theorem OptStr.wr {Z : State} {h h' : Heap} {w v : Value} {b : Addr} {sl : Nat} (W : Wr h h' b sl v) (F : OptStr Z h w) : OptStr Z h' w := F.imp id fun ⟨a, q, r⟩ => ⟨a, q, r.wr W⟩
theorem OptStr.keep {Z : State} {h h' : Heap} {w : Value} {ws : List Addr} (F : OptStr Z h w) (K : Keep h h' ws) : OptStr Z h' w := F.imp id fun ⟨a, q, r⟩ => ⟨a, q, r.keep K⟩
theorem own_safeStr {Z : State} {EL : List (String × Nat)} {vm : Vm} {h : Heap} {x : Addr} (hal : Z.vm.Alike vm) (E : Exa Z h x "java/lang/String") (F : Fld Z h x "java/lang/String" "value" "[B" .null) : Safe Z EL vm h x := fun B => by
  obtain ⟨cell, k, e1, e2, e3, -, -⟩ := E
  obtain ⟨cell', cf, kf, i, f, f1, f2, f3, -, -, -, f7⟩ := F
  cases e1.symm.trans f1
  obtain ⟨p, -, u, a, -, q, -, G, rfl | rfl⟩ := B
  · cases (show h[q.sa]? = some q.sC from G.ha).symm.trans e1
    obtain ⟨cS, ⟨⟨-, -, -, ⟨c1, k1, i1, g1, -⟩, -, -, -, v1, -⟩, -⟩, -⟩ := G
    obtain ⟨k', g0⟩ := ff_back (Z := Z) (U := Wst Z vm h) hal g1
    have g2 : Z.fieldFound? "java/lang/String" "value" "[B" = _ := g0
    rw [f2] at g2
    simp only [Option.some.injEq, Prod.mk.injEq] at g2
    rw [← g2.2.2.2, f7] at v1
    cases v1
  · cases (show h[q.sd]? = some q.SA from G.hd).symm.trans e1
    obtain ⟨cS, -, -, f, -⟩ := G
    have f' : vm.findClass "[B" = some q.SA.cls := f
    rw [hal.findClass] at f'
    obtain ⟨k1, q1, q2⟩ := Vm.findClass_spec f'
    obtain ⟨k2, q3, q4⟩ := Vm.findClass_spec e2
    cases q1.symm.trans q3
    exact absurd (q2.symm.trans q4) (by decide)
theorem own_ne_arv {Z : State} {h : Heap} {a b : Addr} {C : String} {a0 : Array Value} {kk : Nat} {k : ClassId} {ty : FieldType} {z : Int32} {vs : List Value} {d : Value} (F : Exa Z h a C) (wi : (Cond.instantiable C kk).before a0 Z = true) (G : Arv Z h b k ty z vs d) : a ≠ b := by
  obtain ⟨c, A, -⟩ := G
  exact ne_arr F wi A
theorem own_narE (x : Int32) (h : ¬ x < 0 ∧ ¬ (255 : Int32) < x) : nar .char x = x := own_nar x h
theorem own_ofn {a : Nat} (h : a < 2 ^ 31) : (Int32.ofNat a).toNatClampNeg = a := by
  have := len_toInt h
  show (Nat.toInt32 a).toNatClampNeg = a
  simp only [Int32.toNatClampNeg, this]; rfl
theorem own_nn {a : Nat} (h : a < 2 ^ 31) : ¬ Int32.ofNat a < 0 := by
  have := len_toInt h
  have e0 : (0 : Int32).toInt = 0 := by decide
  show ¬ Nat.toInt32 a < 0
  rw [Int32.lt_iff_toInt_lt, this, e0]; omega
theorem own_z31 : ((0 : Int32) &&& 31) = 0 := by decide
theorem own_shl0 (p : Int32) : (p <<< ((0 : Int32) &&& 31)) = p := by rw [own_z31]; simp
theorem own_shr0 (p : Int32) : (p >>> ((0 : Int32) &&& 31)) = p := by rw [own_z31]; simp
theorem own_sub0 (p : Int32) : (p - (0 : Int32)) = p := by simp
theorem own_ltN {a b : Nat} (ha : a < 2 ^ 31) (hb : b < 2 ^ 31) : Int32.ofNat a < Int32.ofNat b ↔ a < b := by
  have q1 : (Nat.toInt32 a).toInt = a := len_toInt ha
  have q2 : (Nat.toInt32 b).toInt = b := len_toInt hb
  show Nat.toInt32 a < Nat.toInt32 b ↔ _
  rw [Int32.lt_iff_toInt_lt, q1, q2]; omega
theorem own_half {n : Nat} (h : n ≤ 3) : ((Int32.ofNat (2 * n)) >>> ((1 : Int32) &&& 31)) = Int32.ofNat n := by
  have k : ∀ x : Fin 4, ((Int32.ofNat (2 * x.val)) >>> ((1 : Int32) &&& 31)) = Int32.ofNat x.val := by decide +kernel
  exact k ⟨n, by omega⟩
theorem own_dbl {n : Nat} (h : n ≤ 3) : ((Int32.ofNat n) <<< ((1 : Int32) &&& 31)) = Int32.ofNat (2 * n) := by
  have k : ∀ x : Fin 4, ((Int32.ofNat x.val) <<< ((1 : Int32) &&& 31)) = Int32.ofNat (2 * x.val) := by decide +kernel
  exact k ⟨n, by omega⟩
theorem own_dbl1 {n : Nat} (h : n ≤ 3) : ((Int32.ofNat (2 * n)) + (1 : Int32)) = Int32.ofNat (2 * n + 1) := by
  have k : ∀ x : Fin 4, ((Int32.ofNat (2 * x.val)) + (1 : Int32)) = Int32.ofNat (2 * x.val + 1) := by decide +kernel
  exact k ⟨n, by omega⟩
theorem own_ltM {n : Nat} (h : n ≤ 3) : Int32.ofNat n < (1073741823 : Int32) := by
  have k : ∀ x : Fin 4, Int32.ofNat x.val < (1073741823 : Int32) := by decide +kernel
  exact k ⟨n, by omega⟩
theorem own_cfl {n : Nat} (h : n ≤ 3) (h1 : 1 ≤ n) : (((((Int32.ofNat n - Int32.ofNat (2 * n)).toUInt32 >>> ((31 : Int32) &&& 31).toUInt32).toInt32).toInt8.toInt32)) = (1 : Int32) := by
  have k : ∀ x : Fin 4, 1 ≤ x.val → (((((Int32.ofNat x.val - Int32.ofNat (2 * x.val)).toUInt32 >>> ((31 : Int32) &&& 31).toUInt32).toInt32).toInt8.toInt32)) = (1 : Int32) := by decide +kernel
  exact k ⟨n, by omega⟩ h1
theorem own_nej {j n : Nat} (hj : j < n) (hn : n ≤ 3) : ¬ Int32.ofNat j = Int32.ofNat n := by
  have k : ∀ x : Fin 4, ∀ y : Fin 4, x.val < y.val → ¬ Int32.ofNat x.val = Int32.ofNat y.val := by decide +kernel
  exact k ⟨j, by omega⟩ ⟨n, by omega⟩ hj
def own_b (c k : Int32) : Int32 := ((c >>> (k &&& 31)).toInt8.toInt32).toInt8.toInt32
theorem own_narR (x : Int32) : ¬ nar .char x < 0 ∧ ¬ (65535 : Int32) < nar .char x := by
  have q := c_i2c x
  have e : (65535 : Int32).toInt = 65535 := by decide
  have e0 : (0 : Int32).toInt = 0 := by decide
  show ¬ x.toUInt32.toUInt16.toUInt32.toInt32 < 0 ∧ ¬ (65535 : Int32) < x.toUInt32.toUInt16.toUInt32.toInt32
  rw [Int32.lt_iff_toInt_lt, Int32.lt_iff_toInt_lt]; omega
theorem own_narU {x : Int32} (h : ¬ x < 0 ∧ ¬ (65535 : Int32) < x) : nar .char x = x := by
  have q := c_i2c x
  have e : (65535 : Int32).toInt = 65535 := by decide
  have e0 : (0 : Int32).toInt = 0 := by decide
  rw [Int32.lt_iff_toInt_lt, Int32.lt_iff_toInt_lt] at h
  show x.toUInt32.toUInt16.toUInt32.toInt32 = x
  apply Int32.toInt_inj.mp
  omega
theorem own_lat1 {c : Int32} (h : ¬ c < 0 ∧ ¬ (255 : Int32) < c) : nar .char ((((c.toInt8.toInt32) &&& (255 : Int32)).toUInt32.toUInt16.toUInt32.toInt32)) = c := by
  have q1 := c_i2b c
  have q2 := c_mask (c.toInt8.toInt32) 255 8 (by decide) (by decide)
  have q3 := c_i2c ((c.toInt8.toInt32) &&& (255 : Int32))
  have q4 := c_i2c ((((c.toInt8.toInt32) &&& (255 : Int32)).toUInt32.toUInt16.toUInt32.toInt32))
  have e : (255 : Int32).toInt = 255 := by decide
  have e0 : (0 : Int32).toInt = 0 := by decide
  rw [Int32.lt_iff_toInt_lt, Int32.lt_iff_toInt_lt] at h
  show ((((c.toInt8.toInt32) &&& (255 : Int32)).toUInt32.toUInt16.toUInt32.toInt32)).toUInt32.toUInt16.toUInt32.toInt32 = c
  apply Int32.toInt_inj.mp
  have e8 : ((2 ^ 8 : Nat) : Int) = 256 := by decide
  rw [e8] at q2
  omega
theorem own_gc {c : Int32} (h : ¬ c < 0 ∧ ¬ (65535 : Int32) < c) : nar .char ((((((own_b c 0) &&& (255 : Int32)) <<< ((0 : Int32) &&& 31)) ||| (((own_b c 8) &&& (255 : Int32)) <<< ((8 : Int32) &&& 31))).toUInt32.toUInt16.toUInt32.toInt32)) = c := by
  have e : (65535 : Int32).toInt = 65535 := by decide
  have e0 : (0 : Int32).toInt = 0 := by decide
  rw [Int32.lt_iff_toInt_lt, Int32.lt_iff_toInt_lt] at h
  have a1 := c_ishr c 0 0 (by decide)
  have a2 := c_i2b (c >>> ((0 : Int32) &&& 31))
  have a3 := c_i2b ((c >>> ((0 : Int32) &&& 31)).toInt8.toInt32)
  have a4 := c_mask (own_b c 0) 255 8 (by decide) (by decide)
  have a5 := c_ishl ((own_b c 0) &&& (255 : Int32)) 0 0 (by decide)
  have b1 := c_ishr c 8 8 (by decide)
  have b2 := c_i2b (c >>> ((8 : Int32) &&& 31))
  have b3 := c_i2b ((c >>> ((8 : Int32) &&& 31)).toInt8.toInt32)
  have b4 := c_mask (own_b c 8) 255 8 (by decide) (by decide)
  have b5 := c_ishl ((own_b c 8) &&& (255 : Int32)) 8 8 (by decide)
  have f0 : own_b c 0 = ((c >>> ((0 : Int32) &&& 31)).toInt8.toInt32).toInt8.toInt32 := rfl
  have f8 : own_b c 8 = ((c >>> ((8 : Int32) &&& 31)).toInt8.toInt32).toInt8.toInt32 := rfl
  rw [f0] at a4; rw [f8] at b4
  rw [f0] at a5; rw [f8] at b5
  rw [f0, f8]
  generalize ((c >>> ((0 : Int32) &&& 31)).toInt8.toInt32).toInt8.toInt32 = A at *
  generalize ((c >>> ((8 : Int32) &&& 31)).toInt8.toInt32).toInt8.toInt32 = B at *
  have e8 : ((2 ^ 8 : Nat) : Int) = 256 := by decide
  have e08 : ((2 ^ 0 : Nat) : Int) = 1 := by decide
  rw [e8] at a4 b1 b4 b5
  rw [e08] at a1 a5
  have r1 := (A &&& 255).toInt_lt
  have r2 := (B &&& 255).toInt_lt
  have r3 := ((A &&& 255) <<< ((0 : Int32) &&& 31)).toInt_lt
  have r4 := ((A &&& 255) <<< ((0 : Int32) &&& 31)).le_toInt
  have r5 := ((B &&& 255) <<< ((8 : Int32) &&& 31)).toInt_lt
  have r6 := ((B &&& 255) <<< ((8 : Int32) &&& 31)).le_toInt
  have o := c_or' ((A &&& 255) <<< ((0 : Int32) &&& 31)) ((B &&& 255) <<< ((8 : Int32) &&& 31)) 8 (by decide) 256 (by decide) (by omega) (by omega) (by omega)
  have q3 := c_i2c (((A &&& 255) <<< ((0 : Int32) &&& 31)) ||| ((B &&& 255) <<< ((8 : Int32) &&& 31)))
  have q4 := c_i2c ((((A &&& 255) <<< ((0 : Int32) &&& 31)) ||| ((B &&& 255) <<< ((8 : Int32) &&& 31))).toUInt32.toUInt16.toUInt32.toInt32)
  show (((((A &&& 255) <<< ((0 : Int32) &&& 31)) ||| ((B &&& 255) <<< ((8 : Int32) &&& 31))).toUInt32.toUInt16.toUInt32.toInt32)).toUInt32.toUInt16.toUInt32.toInt32 = c
  apply Int32.toInt_inj.mp
  omega
def own_u16 (vs : List Value) (cs : List Int32) : Prop := ∀ i, i < cs.length → vs.getD (2 * i) (.int 0) = .int (own_b (cs.getD i 0) 0) ∧ vs.getD (2 * i + 1) (.int 0) = .int (own_b (cs.getD i 0) 8)
theorem own_svget (cs : List Int32) (i : Nat) : (((cs).map (fun c : Int32 => c.toInt8.toInt32)).map Value.int).getD i (.int 0) = .int ((cs.getD i 0).toInt8.toInt32) := by
  simp only [List.getD_eq_getElem?_getD, List.getElem?_map]
  cases cs[i]? <;> rfl
theorem own_getmem {cs : List Int32} {P : Int32 → Prop} (h : ∀ c ∈ cs, P c) {i : Nat} (hi : i < cs.length) : P (cs.getD i 0) := by
  rw [List.getD_eq_getElem?_getD, List.getElem?_eq_getElem hi]; exact h _ (List.getElem_mem hi)
def UStr (Z : State) (h : Heap) (x : Addr) (cs : List Int32) : Prop := ∃ (t : Addr) (kb : ClassId), Exa Z h x "java/lang/String" ∧ Fld Z h x "java/lang/String" "value" "[B" (.ref t) ∧
  ((Fld Z h x "java/lang/String" "coder" "B" (.int 0) ∧ Arv Z h t kb .byte (Int32.ofNat (cs).length) (((cs).map (fun c : Int32 => c.toInt8.toInt32)).map Value.int) (.int 0) ∧ ∀ c ∈ cs, ¬ c < 0 ∧ ¬ (255 : Int32) < c) ∨
   (Fld Z h x "java/lang/String" "coder" "B" (.int 1) ∧ ∃ vs, Arv Z h t kb .byte (Int32.ofNat (2 * (cs).length)) vs (.int 0) ∧ own_u16 vs cs ∧ ∀ c ∈ cs, ¬ c < 0 ∧ ¬ (65535 : Int32) < c))
theorem UStr.keep {Z : State} {h h' : Heap} {x : Addr} {cs : List Int32} (U : UStr Z h x cs) (K : Keep h h' []) : UStr Z h' x cs := by
  obtain ⟨t, kb, E, F, H⟩ := U
  refine ⟨t, kb, E.keep K, F.keep K nin0, ?_⟩
  rcases H with ⟨a, b, c⟩ | ⟨a, vs, b, c⟩
  · exact Or.inl ⟨a.keep K nin0, b.keep K nin0, c⟩
  · exact Or.inr ⟨a.keep K nin0, vs, b.keep K nin0, c⟩
theorem UStr.ext {Z : State} {h h' : Heap} {x : Addr} {cs : List Int32} (U : UStr Z h x cs) (E : Ext h h') : UStr Z h' x cs := U.keep ((Keep.refl _ _).ext E)
theorem UStr.exa {Z : State} {h : Heap} {x : Addr} {cs : List Int32} (U : UStr Z h x cs) : Exa Z h x "java/lang/String" := by obtain ⟨t, kb, E, -⟩ := U; exact E
def own_cs3 (p a b c : Int32) : List Int32 := if p = 0 then [] else if p = 1 then [a] else if p = 2 then [a, b] else [a, b, c]
theorem own_cs3_len (p a b c : Int32) : (own_cs3 p a b c).length ≤ 3 := by
  simp only [own_cs3]; split
  · simp
  · split
    · simp
    · split <;> simp
def own_lo (c : Int32) : Int32 := if c < 65 then nar .char c else if (90 : Int32) < c then nar .char c else nar .char ((c + (32 : Int32)).toUInt32.toUInt16.toUInt32.toInt32)
def own_same (a b : Int32) : Int32 := if own_lo a = own_lo b then 1 else 0
def own_sw (cs ds : List Int32) : Int32 :=
  if (Int32.ofNat (cs).length) < (Int32.ofNat (ds).length) then 0 else
  if (0 : Int32) < (Int32.ofNat (ds).length) then (if own_lo (cs.getD 0 0) = own_lo (ds.getD 0 0) then
    if (1 : Int32) < (Int32.ofNat (ds).length) then (if own_lo (cs.getD 1 0) = own_lo (ds.getD 1 0) then
      if (2 : Int32) < (Int32.ofNat (ds).length) then (if own_lo (cs.getD 2 0) = own_lo (ds.getD 2 0) then 1 else 0) else 1 else 0) else 1 else 0) else 1
theorem own_m4 (x : Int32) : x &&& 3 = 0 ∨ x &&& 3 = 1 ∨ x &&& 3 = 2 ∨ x &&& 3 = 3 := by
  have q := c_mask x 3 2 (by decide) (by decide)
  have e0 : (0 : Int32).toInt = 0 := by decide
  have e1 : (1 : Int32).toInt = 1 := by decide
  have e2 : (2 : Int32).toInt = 2 := by decide
  have e3 : (3 : Int32).toInt = 3 := by decide
  have e4 : ((2 ^ 2 : Nat) : Int) = 4 := by decide
  rw [e4] at q
  rw [← Int32.toInt_inj, ← Int32.toInt_inj, ← Int32.toInt_inj, ← Int32.toInt_inj, e0, e1, e2, e3, q]
  omega
theorem own_fin {tl pl : Int32} (a b c a' b' c' : Int32) (h1 : tl = 0 ∨ tl = 1 ∨ tl = 2 ∨ tl = 3) (h2 : pl = 0 ∨ pl = 1 ∨ pl = 2 ∨ pl = 3) :
    own_sw (own_cs3 tl a b c) (own_cs3 pl a' b' c') = if tl < pl then 0 else if pl < 1 then 1 else if own_same a a' = 0 then 0 else if pl < 2 then 1 else if own_same b b' = 0 then 0 else if pl < 3 then 1 else if own_same c c' = 0 then 0 else 1 := by
  have s0 : ∀ x y, (own_same x y = 0) = ¬ (own_lo x = own_lo y) := fun x y => by
    unfold own_same; split <;> simp_all
  simp only [s0]
  rcases h1 with rfl | rfl | rfl | rfl <;> rcases h2 with rfl | rfl | rfl | rfl <;> simp [own_sw, own_cs3, ite_not] <;> (repeat' split) <;> simp_all
theorem own_same_is {a b : Int32} (ha : ¬ a < 0 ∧ ¬ (65535 : Int32) < a) (hb : ¬ b < 0 ∧ ¬ (65535 : Int32) < b) :
    own_same a b = if a = b then 1 else if (a ||| (32 : Int32)) < 97 then 0 else if (122 : Int32) < (a ||| (32 : Int32)) then 0 else if (a ^^^ (32 : Int32)) = b then 1 else 0 := by
  have lo : ∀ x : Int32, ¬ x < 0 ∧ ¬ (65535 : Int32) < x → (own_lo x).toInt = if 65 ≤ x.toInt ∧ x.toInt ≤ 90 then x.toInt + 32 else x.toInt := fun x hx => by
    have e65 : (65 : Int32).toInt = 65 := by decide
    have e90 : (90 : Int32).toInt = 90 := by decide
    have e32 : (32 : Int32).toInt = 32 := by decide
    have eF : (65535 : Int32).toInt = 65535 := by decide
    have e0 : (0 : Int32).toInt = 0 := by decide
    have hx' := hx
    rw [Int32.lt_iff_toInt_lt, Int32.lt_iff_toInt_lt] at hx'
    unfold own_lo
    simp only [Int32.lt_iff_toInt_lt, e65, e90]
    split
    · rw [own_narU hx, if_neg (by omega)]
    · split
      · rw [own_narU hx, if_neg (by omega)]
      · rw [if_pos (by omega)]
        have q1 := c_iadd x 32
        have q2 := c_i2c (x + 32)
        have q3 := c_i2c ((x + 32).toUInt32.toUInt16.toUInt32.toInt32)
        have r1 := (x + 32).toInt_lt
        have r2 := (x + 32).le_toInt
        show ((x + (32 : Int32)).toUInt32.toUInt16.toUInt32.toInt32).toUInt32.toUInt16.toUInt32.toInt32.toInt = _
        omega
  have la := lo a ha
  have lb := lo b hb
  have e97 : (97 : Int32).toInt = 97 := by decide
  have e122 : (122 : Int32).toInt = 122 := by decide
  have e32 : (32 : Int32).toInt = 32 := by decide
  have eF : (65535 : Int32).toInt = 65535 := by decide
  have e0 : (0 : Int32).toInt = 0 := by decide
  rw [Int32.lt_iff_toInt_lt, Int32.lt_iff_toInt_lt] at ha hb
  have hor := c_or0 a 32 (by omega) (by omega)
  have sm : ∀ x : Fin 128, ((Int32.ofNat x.val) ||| (32 : Int32)).toInt = (if x.val / 32 % 2 = 0 then x.val + 32 else x.val : Nat) ∧ ((Int32.ofNat x.val) ^^^ (32 : Int32)).toInt = (if x.val / 32 % 2 = 0 then x.val + 32 else x.val - 32 : Nat) := by decide +kernel
  have small : a.toInt < 128 → (a ||| (32 : Int32)).toInt = (if a.toInt / 32 % 2 = 0 then a.toInt + 32 else a.toInt) ∧ (a ^^^ (32 : Int32)).toInt = (if a.toInt / 32 % 2 = 0 then a.toInt + 32 else a.toInt - 32) := fun h => by
    have hn : a.toInt.toNat < 128 := by omega
    have q := sm ⟨a.toInt.toNat, hn⟩
    have ea : Int32.ofNat a.toInt.toNat = a := by
      apply Int32.toInt_inj.mp
      have := len_toInt (n := a.toInt.toNat) (by omega)
      show (Nat.toInt32 a.toInt.toNat).toInt = _
      rw [this]; omega
    simp only [ea] at q
    rw [q.1, q.2]
    constructor <;> split <;> split <;> omega
  have key : own_lo a = own_lo b ↔ a = b ∨ (¬ (a ||| (32 : Int32)) < 97 ∧ ¬ (122 : Int32) < (a ||| (32 : Int32)) ∧ (a ^^^ (32 : Int32)) = b) := by
    rw [← Int32.toInt_inj, ← Int32.toInt_inj, ← Int32.toInt_inj, Int32.lt_iff_toInt_lt, Int32.lt_iff_toInt_lt, la, lb, e97, e122]
    by_cases h : a.toInt < 128
    · obtain ⟨s1, s2⟩ := small h
      rw [s1, s2]
      constructor
      · intro q; split at q <;> split at q <;> split <;> omega
      · intro q; split <;> split <;> (split at q <;> omega)
    · constructor
      · intro q; split at q <;> split at q <;> omega
      · intro q; split <;> split <;> omega
  unfold own_same
  by_cases h1 : a = b
  · rw [if_pos (key.mpr (Or.inl h1)), if_pos h1]
  · rw [if_neg h1]
    by_cases h2 : (a ||| (32 : Int32)) < 97
    · rw [if_pos h2, if_neg fun q => (key.mp q).elim h1 fun r => r.1 h2]
    · rw [if_neg h2]
      by_cases h3 : (122 : Int32) < (a ||| (32 : Int32))
      · rw [if_pos h3, if_neg fun q => (key.mp q).elim h1 fun r => r.2.1 h3]
      · rw [if_neg h3]
        by_cases h4 : (a ^^^ (32 : Int32)) = b
        · rw [if_pos h4, if_pos (key.mpr (Or.inr ⟨h2, h3, h4⟩))]
        · rw [if_neg h4, if_neg fun q => (key.mp q).elim h1 fun r => h4 r.2.2]
theorem own_gm {cs : List Int32} {i : Nat} (hi : i < cs.length) : cs.getD i 0 ∈ cs := by
  rw [List.getD_eq_getElem?_getD, List.getElem?_eq_getElem hi]; exact List.getElem_mem hi
theorem own_l12 {x : Int32} (h : x < 1) : x < 2 := by
  rw [Int32.lt_iff_toInt_lt] at h ⊢
  have e1 : (1 : Int32).toInt = 1 := by decide
  have e2 : (2 : Int32).toInt = 2 := by decide
  omega
theorem own_l23 {x : Int32} (h : x < 2) : x < 3 := by
  rw [Int32.lt_iff_toInt_lt] at h ⊢
  have e1 : (3 : Int32).toInt = 3 := by decide
  have e2 : (2 : Int32).toInt = 2 := by decide
  omega
theorem own_idx (i : Nat) {n m : Nat} (h1 : n ≤ 3) (h2 : m ≤ 3) (hi : i < 4) (h3 : ¬ Int32.ofNat n < Int32.ofNat m) (h4 : Int32.ofNat i < Int32.ofNat m) : i < n ∧ i < m := by
  rw [own_ltN (by omega) (by omega)] at h3 h4; omega
theorem own_lt3 {m : Nat} (h : m ≤ 3) : ¬ (3 : Int32) < Int32.ofNat m := by
  have k : ∀ x : Fin 4, ¬ (3 : Int32) < Int32.ofNat x.val := by decide +kernel
  exact k ⟨m, by omega⟩
theorem pno_0 : plainName "com/example/sites_into_slices/sitesintoslices/identity/AsciiCaseStartsWithIgnoringCasePinLaw" = true := by first | (simp [plainName, overriddenIn]; done) | decide +kernel
theorem pno_1 : plainName "com/example/sites_into_slices/sitesintoslices/identity/AsciiCase" = true := by first | (simp [plainName, overriddenIn]; done) | decide +kernel
theorem pno_2 : plainName "java/lang/String" = true := by first | (simp [plainName, overriddenIn]; done) | decide +kernel
theorem pdo_0 : parseMethodDescriptor "()B" = some ⟨[], some .byte⟩ := by decide +kernel
theorem pno_3 : plainName "jdk/internal/util/Preconditions" = true := by first | (simp [plainName, overriddenIn]; done) | decide +kernel
theorem pdo_1 : parseMethodDescriptor "(IILjava/util/function/BiFunction;)I" = some ⟨[.int, .int, (.object "java/util/function/BiFunction")], some .int⟩ := by decide +kernel
theorem pdo_2 : parseMethodDescriptor "(II)V" = some ⟨[.int, .int], none⟩ := by decide +kernel
theorem pno_4 : plainName "java/lang/StringLatin1" = true := by first | (simp [plainName, overriddenIn]; done) | decide +kernel
theorem pno_5 : plainName "java/lang/StringUTF16" = true := by first | (simp [plainName, overriddenIn]; done) | decide +kernel
theorem pdo_3 : parseMethodDescriptor "([B)I" = some ⟨[(.array .byte)], some .int⟩ := by decide +kernel
theorem pdo_4 : parseMethodDescriptor "(I[B)V" = some ⟨[.int, (.array .byte)], none⟩ := by decide +kernel
theorem pdo_5 : parseMethodDescriptor "([BI)C" = some ⟨[(.array .byte), .int], some .char⟩ := by decide +kernel
theorem pdo_6 : parseMethodDescriptor "()Z" = some ⟨[], some .boolean⟩ := by decide +kernel
theorem pdo_7 : parseMethodDescriptor "()I" = some ⟨[], some .int⟩ := by decide +kernel
theorem pdo_8 : parseMethodDescriptor "(I)C" = some ⟨[.int], some .char⟩ := by decide +kernel
theorem pdo_9 : parseMethodDescriptor "(C)C" = some ⟨[.char], some .char⟩ := by decide +kernel
theorem pdo_10 : parseMethodDescriptor "(I)I" = some ⟨[.int], some .int⟩ := by decide +kernel
theorem pdo_11 : parseMethodDescriptor "(I)[B" = some ⟨[.int], some (.array .byte)⟩ := by decide +kernel
theorem pdo_12 : parseMethodDescriptor "([BII)V" = some ⟨[(.array .byte), .int, .int], none⟩ := by decide +kernel
theorem pdo_13 : parseMethodDescriptor "([CI[BII)I" = some ⟨[(.array .char), .int, (.array .byte), .int, .int], some .int⟩ := by decide +kernel
theorem pdo_14 : parseMethodDescriptor "([CII)[B" = some ⟨[(.array .char), .int, .int], some (.array .byte)⟩ := by decide +kernel
theorem pdo_15 : parseMethodDescriptor "([BI)B" = some ⟨[(.array .byte), .int], some .byte⟩ := by decide +kernel
theorem pdo_16 : parseMethodDescriptor "([CIILjava/lang/Void;)V" = some ⟨[(.array .char), .int, .int, (.object "java/lang/Void")], none⟩ := by decide +kernel
theorem pdo_17 : parseMethodDescriptor "([C)V" = some ⟨[(.array .char)], none⟩ := by decide +kernel
theorem pdo_18 : parseMethodDescriptor "(JII)C" = some ⟨[.long, .int, .int], some .char⟩ := by decide +kernel
theorem pdo_19 : parseMethodDescriptor "(CJII)C" = some ⟨[.char, .long, .int, .int], some .char⟩ := by decide +kernel
theorem pdo_20 : parseMethodDescriptor "(ICCC)Ljava/lang/String;" = some ⟨[.int, .char, .char, .char], some (.object "java/lang/String")⟩ := by decide +kernel
theorem pdo_21 : parseMethodDescriptor "(Ljava/lang/String;Ljava/lang/String;)Z" = some ⟨[(.object "java/lang/String"), (.object "java/lang/String")], some .boolean⟩ := by decide +kernel
theorem pdo_22 : parseMethodDescriptor "(CC)Z" = some ⟨[.char, .char], some .boolean⟩ := by decide +kernel
def Q_emp (Z : State) (a : Addr) (h0 : Heap) (n0 : Nat) (v : Option Value) (h : Heap) (L : List Loc) : Prop := v = none ∧ Fr n0 L ∧ Keep h0 h [a] ∧ Exa Z h a "java/lang/String" ∧ Fld Z h a "java/lang/String" "coder" "B" (.int 0) ∧ ∃ (t : Addr) (kb : ClassId), ¬ t = a ∧ Fld Z h a "java/lang/String" "value" "[B" (.ref t) ∧ Arv Z h t kb .byte 0 [] (.int 0)
theorem d_rm_emp4_0 : decode jdk_42_method_149_code 0 = .ok (.aload_n 0, 1) := by decide +kernel
theorem d_rm_emp4_1 : decode jdk_42_method_149_code 1 = .ok (.invokespecial 1, 3) := by decide +kernel
theorem d_rm_emp4_4 : decode jdk_42_method_149_code 4 = .ok (.iload_n 3, 1) := by decide +kernel
theorem d_rm_emp4_5 : decode jdk_42_method_149_code 5 = .ok (.ifCond .ne 22, 3) := by decide +kernel
theorem d_rm_emp4_8 : decode jdk_42_method_149_code 8 = .ok (.aload_n 0, 1) := by decide +kernel
theorem d_rm_emp4_9 : decode jdk_42_method_149_code 9 = .ok (.ldc 7, 2) := by decide +kernel
theorem d_rm_emp4_11 : decode jdk_42_method_149_code 11 = .ok (.getfield 9, 3) := by decide +kernel
theorem d_rm_emp4_14 : decode jdk_42_method_149_code 14 = .ok (.putfield 9, 3) := by decide +kernel
theorem d_rm_emp4_17 : decode jdk_42_method_149_code 17 = .ok (.aload_n 0, 1) := by decide +kernel
theorem d_rm_emp4_18 : decode jdk_42_method_149_code 18 = .ok (.ldc 7, 2) := by decide +kernel
theorem d_rm_emp4_20 : decode jdk_42_method_149_code 20 = .ok (.getfield 15, 3) := by decide +kernel
theorem d_rm_emp4_23 : decode jdk_42_method_149_code 23 = .ok (.putfield 15, 3) := by decide +kernel
theorem d_rm_emp4_26 : decode jdk_42_method_149_code 26 = .ok (.return_, 1) := by decide +kernel
theorem ef_rm_emp4 (m : MethodId) (x0 : Addr) (x1 : Addr) (x2 : Int32) (x3 : Int32) : entryFrame m #[(.ref x0), (.ref x1), (.int x2), (.int x3), .null] 6 = mkF m 0 #[.val (.ref x0), .val (.ref x1), .val (.int x2), .val (.int x3), .val .null, .unset] [] := by first | (simp [entryFrame, mkF, argsToLocals, Value.category]; done) | rfl
set_option maxRecDepth 65536 in
set_option maxHeartbeats 3000000 in
theorem rm_emp4 (l : Launch) (Z : State) (a0 : Array Value) (hw : ∀ d ∈ tables_1, d.before a0 Z = true) (hEW : EW Z a0 consts_1) (ws : List Jvm.Cond) (a b : Addr) (h0 : Heap) (n0 : Nat) (Z0 : n0 ≤ h0.size) (E_a : Exa Z h0 a "java/lang/String") (ga : n0 ≤ a) (F_value : Fld Z h0 a "java/lang/String" "value" "[B" .null) (F_coder : Fld Z h0 a "java/lang/String" "coder" "B" (.int (0 : Int32))) :
    MetFree l (⟨"java/lang/String", "<init>", "([CIILjava/lang/Void;)V"⟩ : MethodName) (head1 (Jvm.Cond.code (⟨"java/lang/String", "<init>", "([CIILjava/lang/Void;)V"⟩ : MethodName) jdk_42_method_149_code 6 none :: ws) ({ frames := 1, cells := 2, slots := 4, locals := 12 } : Room)) (fun αs U => αs = #[(.ref a), (.ref b), (.int (0 : Int32)), (.int (0 : Int32)), .null] ∧ Z.Warmed39 U.vm ∧ U.heap = h0 ∧ CHv Z consts_1 U.vm h0) (fun _ _ _ _ _ => True) (fun _ U o U' => ∃ v L, o = .returned v ∧ Q_emp Z a h0 n0 v U'.heap L ∧ CHr Z consts_1 U.vm U.heap U'.vm U'.heap ∧ ReturnedEndW U o U' L ({ frames := 1, cells := 2, slots := 4, locals := 12 } : Room).cells ({ frames := 1, cells := 2, slots := 4, locals := 12 } : Room).slots) := by
  refine MetFree.of_bodySF (plainFor_of_name pno_2) hisR ?_
  intro pP e s m args below meth cC s₁ Bd hml0 hP hK
  obtain ⟨rfl, hZ, hh, CH0⟩ := hP
  have hx := Bd.exec
  have hby := Bd.bytes
  have hml : cC.maxLocals = 6 := hml0
  have hown : s.vm.findClass "java/lang/String" = some m.cls := findClass_of_methodNamed Bd.named
  have hnm := (name_of_methodNamed Bd.named Bd.method).1
  have X0 : Stand pP l e ({ frames := 1, cells := 2, slots := 4, locals := 12 } : Room) (s.setVm s.vm) m #[(.ref a), (.ref b), (.int (0 : Int32)), (.int (0 : Int32)), .null] below meth cC s₁ [] 0 0 := Stand.of_body Bd
  have e0 : s₁.heap = h0 := by rw [← hh, Bd.state]; rfl
  have N0 := Fr.nil n0
  have KC0 : Keep h0 h0 [a] := Keep.refl h0 _
  replace hZ : Z.Warmed39 (s.setVm s.vm).vm := hZ
  replace hown : (s.setVm s.vm).vm.findClass "java/lang/String" = some m.cls := hown
  have SI0 : s.Since s.vm h0.size := (State.WarmedH.refl s).since _
  have SK0 : h0.size ≤ h0.size := Nat.le_refl _
  have CR0 : CHr Z consts_1 s.vm h0 s.vm h0 := CHr.refl CH0
  obtain ⟨A0, hA0⟩ : ∃ z, z = s₁.setTop (entryFrame m #[(.ref a), (.ref b), (.int (0 : Int32)), (.int (0 : Int32)), .null] 6) := ⟨_, rfl⟩
  have pre0 : ∀ τ, Steps pP.tables e below (s₁.setTop (mkF m 0 #[.val (.ref a), .val (.ref b), .val (.int (0 : Int32)), .val (.int (0 : Int32)), .val .null, .unset] [])) τ → Steps pP.tables e below A0 τ := fun τ κ => by rw [hA0]; exact castTop (ef_rm_emp4 m a b (0 : Int32) (0 : Int32)) κ
  have wS : ∀ a ∈ Bundle.stringAtoms, a.before a0 Z = true := fun d hd => hw d ((by decide +kernel : ∀ d ∈ Bundle.stringAtoms, d ∈ tables_1) d hd)
  have Sf101 : Safe Z consts_1 s.vm h0 a := own_safeStr hZ.alike E_a F_value
  obtain ⟨T102, X102, e102, st102⟩ := initO X0 hx hZ hown (hw _ (List.mem_of_getElem? (i := 21) rfl)) (hw _ (List.mem_of_getElem? (i := 22) rfl)) (hw _ (List.mem_of_getElem? (i := 23) rfl)) e0 (g := (mkF m 1 #[.val (.ref a), .val (.ref b), .val (.int (0 : Int32)), .val (.int (0 : Int32)), .val .null, .unset] [(.ref a)])) rfl (by rw [hml]; rfl) rfl (hb hby d_rm_emp4_1) (by decide) (W := 0) (by show 2 * 0 + _ ≤ _; exact Nat.le_of_eq rfl) (by decide)
  have pq103 : ∀ τ, Steps pP.tables e below (T102.setTop (mkF m 4 #[.val (.ref a), .val (.ref b), .val (.int (0 : Int32)), .val (.int (0 : Int32)), .val .null, .unset] [])) τ → Steps pP.tables e below A0 τ := by
    intro τ κ
    refine pre0 τ ?_
    refine XS.aloadN X0.here hx rfl (hb hby d_rm_emp4_0) rfl rfl ?_
    refine st102 _ ?_
    exact κ
  obtain ⟨b104, T104, h104, k104, t104, kb104, X104, e104, E104, SI104, SK104, Z104, O104, A104, Fc104, Fv104, V104, lt104, ltt104, C104, L104, ne104, st104⟩ := ldcCH (s := s) (vm0 := s.vm) (EL := consts_1) X102 hx hZ hown (hw _ (List.mem_of_getElem? (i := 24) rfl)) wS e102 SI0 SK0 hEW (by decide) CH0 (vs := []) (z := (0 : Int32)) (by decide) (by decide) (by decide) (g := (mkF m 9 #[.val (.ref a), .val (.ref b), .val (.int (0 : Int32)), .val (.int (0 : Int32)), .val .null, .unset] [(.ref a)])) rfl (hb hby d_rm_emp4_9) (n := 0) (by decide) (by decide) (by decide) (by decide)
  have pq105 : ∀ τ, Steps pP.tables e below (T104.setTop (mkF m 11 #[.val (.ref a), .val (.ref b), .val (.int (0 : Int32)), .val (.int (0 : Int32)), .val .null, .unset] [(.ref b104), (.ref a)])) τ → Steps pP.tables e below A0 τ := by
    intro τ κ
    refine pq103 τ ?_
    refine XS.iloadN X102.here hx rfl (hb hby d_rm_emp4_4) rfl ?_
    refine XS.ifNo X102.here hx rfl (hb hby d_rm_emp4_5) rfl ((if0 _ _).trans (teq (by decide : ((0 : Int32) = (0 : Int32)))).2) ?_
    refine XS.aloadN X102.here hx rfl (hb hby d_rm_emp4_8) rfl rfl ?_
    refine st104 _ ?_
    exact κ
  have K104 : Keep h0 h104 [] := (Keep.refl _ _).ext E104
  have KC104 : Keep h0 h104 [a] := KC0.trans K104 all0
  have CH104 := C104.1
  have CR104 := CHr.trans CR0 C104
  have f106 := (CHr.safe C104 E_a.lt Sf101)
  obtain ⟨T107, X107, e107, st107⟩ := getF X104 hx Z104 O104 (host := "") (Or.inl (hw _ (List.mem_of_getElem? (i := 30) rfl))) Via.refl e104 Fv104 (g := (mkF m 11 #[.val (.ref a), .val (.ref b), .val (.int (0 : Int32)), .val (.int (0 : Int32)), .val .null, .unset] [(.ref b104), (.ref a)])) rfl rfl (hb hby d_rm_emp4_11)
  have pq108 : ∀ τ, Steps pP.tables e below (T107.setTop (mkF m 14 #[.val (.ref a), .val (.ref b), .val (.int (0 : Int32)), .val (.int (0 : Int32)), .val .null, .unset] [(.ref t104), (.ref a)])) τ → Steps pP.tables e below A0 τ := by
    intro τ κ
    refine pq105 τ ?_
    refine st107 _ ?_
    exact κ
  have f109 := (E_a.keep K104)
  have f110 := (F_value.keep K104 nin0)
  obtain ⟨T111, h111, X111, e111, W111, st111⟩ := putF X107 hx Z104 O104 (host := "") (Or.inl (hw _ (List.mem_of_getElem? (i := 30) rfl))) Via.refl e107 f110 f109 (Or.inr ⟨(hw _ (List.mem_of_getElem? (i := 26) rfl)), rfl, hnm⟩) (hw _ (List.mem_of_getElem? (i := 11) rfl)) (ty := (.array .byte)) (by decide) rfl rfl (g := (mkF m 14 #[.val (.ref a), .val (.ref b), .val (.int (0 : Int32)), .val (.int (0 : Int32)), .val .null, .unset] [(.ref t104), (.ref a)])) rfl rfl (hb hby d_rm_emp4_14)
  have pq112 : ∀ τ, Steps pP.tables e below (T111.setTop (mkF m 17 #[.val (.ref a), .val (.ref b), .val (.int (0 : Int32)), .val (.int (0 : Int32)), .val .null, .unset] [])) τ → Steps pP.tables e below A0 τ := by
    intro τ κ
    refine pq108 τ ?_
    refine st111 _ ?_
    exact κ
  have KC111 : Keep h0 h111 [a] := KC104.wr W111 (Or.inl (List.mem_of_getElem? (i := 0) rfl))
  have CH111 := CHv.wr W111 f106 CH104
  have CR111 := CHr.trans CR104 (CHr.wr W111 f106 CH104)
  have SK111 := Nat.le_trans SK104 (Keep.of_wr W111).1
  have Fw111 := f110.same W111
  have N111 := Fr.snoc X111 N0 ga
  have f114 := (Fc104.other W111 (Or.inl (Ne.symm (ne104 _ f106).1)))
  obtain ⟨T115, X115, e115, st115⟩ := getF X111 hx Z104 O104 (host := "") (Or.inl (hw _ (List.mem_of_getElem? (i := 31) rfl))) Via.refl e111 f114 (g := (mkF m 20 #[.val (.ref a), .val (.ref b), .val (.int (0 : Int32)), .val (.int (0 : Int32)), .val .null, .unset] [(.ref b104), (.ref a)])) rfl rfl (hb hby d_rm_emp4_20)
  have pq116 : ∀ τ, Steps pP.tables e below (T115.setTop (mkF m 23 #[.val (.ref a), .val (.ref b), .val (.int (0 : Int32)), .val (.int (0 : Int32)), .val .null, .unset] [(.int (0 : Int32)), (.ref a)])) τ → Steps pP.tables e below A0 τ := by
    intro τ κ
    refine pq112 τ ?_
    refine XS.aloadN X111.here hx rfl (hb hby d_rm_emp4_17) rfl rfl ?_
    refine ldcAgain (Z := Z) (a0 := a0) X111 hx Z104 O104 (hw _ (List.mem_of_getElem? (i := 24) rfl)) L104 (g := (mkF m 18 #[.val (.ref a), .val (.ref b), .val (.int (0 : Int32)), .val (.int (0 : Int32)), .val .null, .unset] [(.ref a)])) rfl (hb hby d_rm_emp4_18) _ ?_
    refine st115 _ ?_
    exact κ
  have f117 := (f109.wr W111)
  have f118 := ((F_coder.keep K104 nin0).other W111 (Or.inr (slot_ne (Or.inr (hw _ (List.mem_of_getElem? (i := 27) rfl))) (Or.inr (hw _ (List.mem_of_getElem? (i := 26) rfl))) (by decide) (t := .byte) (t' := (.array .byte)) (by decide) (by decide))))
  have f120 := (Safe.wr W111 f106 CH104 f106)
  obtain ⟨T119, h119, X119, e119, W119, st119⟩ := putFN X115 hx Z104 O104 (hw _ (List.mem_of_getElem? (i := 31) rfl)) Via.refl e115 f118 f117 (Or.inr ⟨(hw _ (List.mem_of_getElem? (i := 27) rfl)), rfl, hnm⟩) (hw _ (List.mem_of_getElem? (i := 11) rfl)) (ty := .byte) (v' := (.int (0 : Int32))) (by decide) rfl (by decide) (g := (mkF m 23 #[.val (.ref a), .val (.ref b), .val (.int (0 : Int32)), .val (.int (0 : Int32)), .val .null, .unset] [(.int (0 : Int32)), (.ref a)])) rfl rfl (hb hby d_rm_emp4_23)
  have pq121 : ∀ τ, Steps pP.tables e below (T119.setTop (mkF m 26 #[.val (.ref a), .val (.ref b), .val (.int (0 : Int32)), .val (.int (0 : Int32)), .val .null, .unset] [])) τ → Steps pP.tables e below A0 τ := by
    intro τ κ
    refine pq116 τ ?_
    refine st119 _ ?_
    exact κ
  have KC119 : Keep h0 h119 [a] := KC111.wr W119 (Or.inl (List.mem_of_getElem? (i := 0) rfl))
  have CH119 := CHv.wr W119 f120 CH111
  have CR119 := CHr.trans CR111 (CHr.wr W119 f120 CH111)
  have SK119 := Nat.le_trans SK111 (Keep.of_wr W119).1
  have Fw119 := f118.same W119
  have N119 := Fr.snoc X119 N111 ga
  have f122 := (f117.wr W119)
  have f123 := (Fw111.other W119 (Or.inr (slot_ne (Or.inr (hw _ (List.mem_of_getElem? (i := 26) rfl))) (Or.inr (hw _ (List.mem_of_getElem? (i := 27) rfl))) (by decide) (t := (.array .byte)) (t' := .byte) (by decide) (by decide))))
  have f124 := ((V104.other W111 (Ne.symm (ne104 _ f106).2)).other W119 (Ne.symm (ne104 _ f106).2))
  have SKe := Nat.le_trans SK119 (Nat.le_of_eq (congrArg (fun z : Heap => Array.size z) (Eq.symm e119)))
  obtain ⟨fs, hr, hrun, hended, hEnd⟩ := X119.leaveW SI104 SKe (v := none) (fun _ => rfl)
  have CHe := CHr.trans CR119 (CHv.at X119 Z104 hEW CH119)
  have pqE := pq121
  rw [hA0] at pqE
  refine ⟨_, _, pqE _ ?_, hrun, hended, _, _, rfl, ?_, ?_, hEnd.1, hEnd.2.1, hEnd.2.2.1, hEnd.2.2.2.mono (by decide) (by decide)⟩
  · show Steps pP.tables e below (T119.setTop (mkF m 26 #[.val (.ref a), .val (.ref b), .val (.int (0 : Int32)), .val (.int (0 : Int32)), .val .null, .unset] [])) _
    exact X119.returnOut hx Bd.returns (hb hby d_rm_emp4_26) hr
  · show Q_emp Z a h0 n0 _ T119.heap _
    rw [e119]
    exact ⟨rfl, N119, KC119, f122, Fw119, t104, _, (Ne.symm (ne104 _ f106).2), f123, f124⟩
  · show CHr Z consts_1 s.vm s.heap T119.vm T119.heap
    first | (rw [hh, e119]; exact CHe) | (rw [hh]; exact CHe)
theorem d_rm_emp1_0 : decode jdk_42_method_3_code 0 = .ok (.aload_n 0, 1) := by decide +kernel
theorem d_rm_emp1_1 : decode jdk_42_method_3_code 1 = .ok (.aload_n 1, 1) := by decide +kernel
theorem d_rm_emp1_2 : decode jdk_42_method_3_code 2 = .ok (.iconst 0, 1) := by decide +kernel
theorem d_rm_emp1_3 : decode jdk_42_method_3_code 3 = .ok (.aload_n 1, 1) := by decide +kernel
theorem d_rm_emp1_4 : decode jdk_42_method_3_code 4 = .ok (.arraylength, 1) := by decide +kernel
theorem d_rm_emp1_5 : decode jdk_42_method_3_code 5 = .ok (.aconst_null, 1) := by decide +kernel
theorem d_rm_emp1_6 : decode jdk_42_method_3_code 6 = .ok (.invokespecial 27, 3) := by decide +kernel
theorem d_rm_emp1_9 : decode jdk_42_method_3_code 9 = .ok (.return_, 1) := by decide +kernel
theorem ef_rm_emp1 (m : MethodId) (x0 : Addr) (x1 : Addr) : entryFrame m #[(.ref x0), (.ref x1)] 2 = mkF m 0 #[.val (.ref x0), .val (.ref x1)] [] := by first | (simp [entryFrame, mkF, argsToLocals, Value.category]; done) | rfl
set_option maxRecDepth 65536 in
set_option maxHeartbeats 3000000 in
theorem rm_emp1 (l : Launch) (Z : State) (a0 : Array Value) (hw : ∀ d ∈ tables_1, d.before a0 Z = true) (hEW : EW Z a0 consts_1) (ws : List Jvm.Cond) (a b : Addr) (kc : ClassId) (h0 : Heap) (n0 : Nat) (Z0 : n0 ≤ h0.size) (E_a : Exa Z h0 a "java/lang/String") (ga : n0 ≤ a) (F_value : Fld Z h0 a "java/lang/String" "value" "[B" .null) (F_coder : Fld Z h0 a "java/lang/String" "coder" "B" (.int (0 : Int32))) (V_b : Arv Z h0 b kc .char (0 : Int32) [] (.int (0 : Int32))) :
    MetFree l (⟨"java/lang/String", "<init>", "([C)V"⟩ : MethodName) (head1 (Jvm.Cond.code (⟨"java/lang/String", "<init>", "([C)V"⟩ : MethodName) jdk_42_method_3_code 2 none :: ws) ({ frames := 2, cells := 2, slots := 4, locals := 29 } : Room)) (fun αs U => αs = #[(.ref a), (.ref b)] ∧ Z.Warmed39 U.vm ∧ U.heap = h0 ∧ CHv Z consts_1 U.vm h0) (fun _ _ _ _ _ => True) (fun _ U o U' => ∃ v L, o = .returned v ∧ Q_emp Z a h0 n0 v U'.heap L ∧ CHr Z consts_1 U.vm U.heap U'.vm U'.heap ∧ ReturnedEndW U o U' L ({ frames := 2, cells := 2, slots := 4, locals := 29 } : Room).cells ({ frames := 2, cells := 2, slots := 4, locals := 29 } : Room).slots) := by
  refine MetFree.of_bodySF (plainFor_of_name pno_2) hisR ?_
  intro pP e s m args below meth cC s₁ Bd hml0 hP hK
  obtain ⟨rfl, hZ, hh, CH0⟩ := hP
  have hx := Bd.exec
  have hby := Bd.bytes
  have hml : cC.maxLocals = 2 := hml0
  have hown : s.vm.findClass "java/lang/String" = some m.cls := findClass_of_methodNamed Bd.named
  have hnm := (name_of_methodNamed Bd.named Bd.method).1
  have X0 : Stand pP l e ({ frames := 2, cells := 2, slots := 4, locals := 29 } : Room) (s.setVm s.vm) m #[(.ref a), (.ref b)] below meth cC s₁ [] 0 0 := Stand.of_body Bd
  have e0 : s₁.heap = h0 := by rw [← hh, Bd.state]; rfl
  have N0 := Fr.nil n0
  have KC0 : Keep h0 h0 [a] := Keep.refl h0 _
  replace hZ : Z.Warmed39 (s.setVm s.vm).vm := hZ
  replace hown : (s.setVm s.vm).vm.findClass "java/lang/String" = some m.cls := hown
  have SI0 : s.Since s.vm h0.size := (State.WarmedH.refl s).since _
  have SK0 : h0.size ≤ h0.size := Nat.le_refl _
  have CR0 : CHr Z consts_1 s.vm h0 s.vm h0 := CHr.refl CH0
  obtain ⟨A0, hA0⟩ : ∃ z, z = s₁.setTop (entryFrame m #[(.ref a), (.ref b)] 2) := ⟨_, rfl⟩
  have pre0 : ∀ τ, Steps pP.tables e below (s₁.setTop (mkF m 0 #[.val (.ref a), .val (.ref b)] [])) τ → Steps pP.tables e below A0 τ := fun τ κ => by rw [hA0]; exact castTop (ef_rm_emp1 m a b) κ
  obtain ⟨cl101, Ar101, q101, S101, M101, Hs101, G101⟩ := id V_b
  obtain ⟨_, _, ⟨T102, L102, k102, n102⟩, -, X102, S102, G102, ⟨Lc102, hQ102, l102, y102, z102, C102⟩, st102⟩ := X0.specialBackS hx (y := (⟨"java/lang/String", "<init>", "([CIILjava/lang/Void;)V"⟩ : MethodName)) rfl hown (mvT hZ (hw _ (List.mem_of_getElem? (i := 17) rfl))) (mvT hZ (hw _ (List.mem_of_getElem? (i := 18) rfl))) (mvT hZ (hw _ (List.mem_of_getElem? (i := 20) rfl))) (by decide) (backOfSH (s := s) (vm0 := s.vm) (EL := consts_1) (W := 0) (rm_emp4 l Z a0 hw hEW [] a b h0 n0 Z0 E_a ga F_value F_coder) hZ (hw _ (List.mem_of_getElem? (i := 20) rfl)) (hw _ (List.mem_of_getElem? (i := 12) rfl)) (by decide) (by decide) hEW CH0) (g := (mkF m 6 #[.val (.ref a), .val (.ref b)] [.null, (.int (0 : Int32)), (.int (0 : Int32)), (.ref b), (.ref a)])) rfl (by rw [hml]; rfl) (Steps.refl _) (a := a) (argsL := [(.ref b), (.int (0 : Int32)), (.int (0 : Int32)), .null]) (rest := []) (lenOf pdo_16 rfl) rfl (by show 2 * 0 + _ ≤ _; exact Nat.le_of_eq rfl) (hb hby d_rm_emp1_6) (fun _ _ => ⟨rfl, e0, (by decide : 0 + 2 ≤ _), (by decide : 0 + 4 ≤ _)⟩)
  dsimp only [Pt.U, Pt.locs, Pt.cells, Pt.slots] at X102 l102 y102 z102 st102 hQ102 S102 G102 C102
  subst l102 y102 z102
  have G102a : h0.size ≤ T102.heap.size := by first | exact G102 | (rw [← e0]; exact G102)
  obtain ⟨X102, SI102, Z102, O102⟩ := rebS SI0 SK0 X102 S102 G102a hZ hown
  have SK102 : T102.heap.size ≤ T102.heap.size := Nat.le_refl _
  obtain ⟨rfl, Nq102, K102, Ex102, Fc102, t102, kb102, tc102, Fv102, Vt102⟩ := hQ102
  have N102 := Fr.app N0 Nq102
  have pq103 : ∀ τ, Steps pP.tables e below (T102.setTop (mkF m 9 #[.val (.ref a), .val (.ref b)] [])) τ → Steps pP.tables e below A0 τ := by
    intro τ κ
    refine pre0 τ ?_
    refine XS.aloadN X0.here hx rfl (hb hby d_rm_emp1_0) rfl rfl ?_
    refine XS.aloadN X0.here hx rfl (hb hby d_rm_emp1_1) rfl rfl ?_
    refine XS.iconst X0.here hx rfl (hb hby d_rm_emp1_2) ?_
    refine XS.aloadN X0.here hx rfl (hb hby d_rm_emp1_3) rfl rfl ?_
    refine X0.arraylength hx (by rw [e0]; exact Ar101.1) (State.isArrayOf_alike hZ.alike Ar101.2.1) (g := (mkF m 4 #[.val (.ref a), .val (.ref b)] [(.ref b), (.int (0 : Int32)), (.ref b), (.ref a)])) rfl rfl (hb hby d_rm_emp1_4) _ ?_
    rw [len_of S101 M101]
    refine XS.aconstNull X0.here hx rfl (hb hby d_rm_emp1_5) ?_
    refine st102.trans ?_
    exact κ
  have KC102 : Keep h0 T102.heap [a] := KC0.trans K102 (allS (Or.inl (List.mem_of_getElem? (i := 0) rfl)) all0)
  have CH102 := C102.1
  have CR102 := CHr.trans CR0 C102
  have SKe := SK102
  obtain ⟨fs, hr, hrun, hended, hEnd⟩ := X102.leaveW SI102 SKe (v := none) (fun _ => rfl)
  have CHe := CHr.trans CR102 (CHv.at X102 Z102 hEW CH102)
  have pqE := pq103
  rw [hA0] at pqE
  refine ⟨_, _, pqE _ ?_, hrun, hended, _, _, rfl, ?_, ?_, hEnd.1, hEnd.2.1, hEnd.2.2.1, hEnd.2.2.2.mono (by decide) (by decide)⟩
  · show Steps pP.tables e below (T102.setTop (mkF m 9 #[.val (.ref a), .val (.ref b)] [])) _
    exact X102.returnOut hx Bd.returns (hb hby d_rm_emp1_9) hr
  · show Q_emp Z a h0 n0 _ T102.heap _
    exact ⟨rfl, N102, KC102, Ex102, Fc102, t102, _, tc102, Fv102, Vt102⟩
  · show CHr Z consts_1 s.vm s.heap T102.vm T102.heap
    rw [hh]; exact CHe
def Q_chr (h0 : Heap) (n0 : Nat) (v : Option Value) (h : Heap) (L : List Loc) : Prop := ∃ r : Int32, v = some (.int r) ∧ (¬ r < 0 ∧ ¬ (65535 : Int32) < r) ∧ Fr n0 L ∧ h = h0
theorem d_rm_tch_0 : decode method_3_code 0 = .ok (.lload_n 0, 1) := by decide +kernel
theorem d_rm_tch_1 : decode method_3_code 1 = .ok (.bipush 16, 2) := by decide +kernel
theorem d_rm_tch_3 : decode method_3_code 3 = .ok (.iload_n 2, 1) := by decide +kernel
theorem d_rm_tch_4 : decode method_3_code 4 = .ok (.imul, 1) := by decide +kernel
theorem d_rm_tch_5 : decode method_3_code 5 = .ok (.lushr, 1) := by decide +kernel
theorem d_rm_tch_6 : decode method_3_code 6 = .ok (.l2i, 1) := by decide +kernel
theorem d_rm_tch_7 : decode method_3_code 7 = .ok (.i2c, 1) := by decide +kernel
theorem d_rm_tch_8 : decode method_3_code 8 = .ok (.istore 4, 2) := by decide +kernel
theorem d_rm_tch_10 : decode method_3_code 10 = .ok (.iload_n 3, 1) := by decide +kernel
theorem d_rm_tch_11 : decode method_3_code 11 = .ok (.bipush 8, 2) := by decide +kernel
theorem d_rm_tch_13 : decode method_3_code 13 = .ok (.iload_n 2, 1) := by decide +kernel
theorem d_rm_tch_14 : decode method_3_code 14 = .ok (.iadd, 1) := by decide +kernel
theorem d_rm_tch_15 : decode method_3_code 15 = .ok (.iushr, 1) := by decide +kernel
theorem d_rm_tch_16 : decode method_3_code 16 = .ok (.iconst 1, 1) := by decide +kernel
theorem d_rm_tch_17 : decode method_3_code 17 = .ok (.iand, 1) := by decide +kernel
theorem d_rm_tch_18 : decode method_3_code 18 = .ok (.ifCond .eq 10, 3) := by decide +kernel
theorem d_rm_tch_21 : decode method_3_code 21 = .ok (.iload 4, 2) := by decide +kernel
theorem d_rm_tch_23 : decode method_3_code 23 = .ok (.bipush 127, 2) := by decide +kernel
theorem d_rm_tch_25 : decode method_3_code 25 = .ok (.iand, 1) := by decide +kernel
theorem d_rm_tch_26 : decode method_3_code 26 = .ok (.i2c, 1) := by decide +kernel
theorem d_rm_tch_27 : decode method_3_code 27 = .ok (.ireturn, 1) := by decide +kernel
theorem d_rm_tch_28 : decode method_3_code 28 = .ok (.iload 4, 2) := by decide +kernel
theorem d_rm_tch_30 : decode method_3_code 30 = .ok (.ireturn, 1) := by decide +kernel
theorem ef_rm_tch (m : MethodId) (x0 : Int64) (x1 : Int32) (x2 : Int32) : entryFrame m #[(.long x0), (.int x1), (.int x2)] 5 = mkF m 0 #[.val (.long x0), .second, .val (.int x1), .val (.int x2), .unset] [] := by first | (simp [entryFrame, mkF, argsToLocals, Value.category]; done) | rfl
set_option maxRecDepth 65536 in
set_option maxHeartbeats 3000000 in
theorem rm_tch (l : Launch) (Z : State) (a0 : Array Value) (hw : ∀ d ∈ tables_1, d.before a0 Z = true) (ws : List Jvm.Cond) (q : Int64) (i p : Int32) (h0 : Heap) (n0 : Nat) (Z0 : n0 ≤ h0.size) :
    MetFree l (⟨"com/example/sites_into_slices/sitesintoslices/identity/AsciiCaseStartsWithIgnoringCasePinLaw", "textChar", "(JII)C"⟩ : MethodName) (head1 (Jvm.Cond.code (⟨"com/example/sites_into_slices/sitesintoslices/identity/AsciiCaseStartsWithIgnoringCasePinLaw", "textChar", "(JII)C"⟩ : MethodName) method_3_code 5 (some .char) :: ws) ({ frames := 0, cells := 0, slots := 0, locals := 0 } : Room)) (fun αs U => αs = #[(.long q), (.int i), (.int p)] ∧ Z.Warmed39 U.vm ∧ U.heap = h0) (fun _ _ _ _ _ => True) (fun _ U o U' => ∃ v L, o = .returned v ∧ Q_chr h0 n0 v U'.heap L ∧ FrameEnd U o U' L ({ frames := 0, cells := 0, slots := 0, locals := 0 } : Room).cells ({ frames := 0, cells := 0, slots := 0, locals := 0 } : Room).slots) := by
  refine MetFree.of_bodySF (plainFor_of_name pno_0) hisR ?_
  intro pP e s m args below meth cC s₁ Bd hml0 hP hK
  obtain ⟨rfl, hZ, hh⟩ := hP
  have hx := Bd.exec
  have hby := Bd.bytes
  have hml : cC.maxLocals = 5 := hml0
  have hown : s.vm.findClass "com/example/sites_into_slices/sitesintoslices/identity/AsciiCaseStartsWithIgnoringCasePinLaw" = some m.cls := findClass_of_methodNamed Bd.named
  have hnm := (name_of_methodNamed Bd.named Bd.method).1
  have X0 : Stand pP l e ({ frames := 0, cells := 0, slots := 0, locals := 0 } : Room) s m #[(.long q), (.int i), (.int p)] below meth cC s₁ [] 0 0 := Stand.of_body Bd
  have e0 : s₁.heap = h0 := by rw [← hh, Bd.state]; rfl
  have N0 := Fr.nil n0
  have KC0 : Keep h0 h0 [] := Keep.refl h0 _
  obtain ⟨A0, hA0⟩ : ∃ z, z = s₁.setTop (entryFrame m #[(.long q), (.int i), (.int p)] 5) := ⟨_, rfl⟩
  have pre0 : ∀ τ, Steps pP.tables e below (s₁.setTop (mkF m 0 #[.val (.long q), .second, .val (.int i), .val (.int p), .unset] [])) τ → Steps pP.tables e below A0 τ := fun τ κ => by rw [hA0]; exact castTop (ef_rm_tch m q i p) κ
  have pq101 : ∀ τ, Steps pP.tables e below (s₁.setTop (mkF m 18 #[.val (.long q), .second, .val (.int i), .val (.int p), .val (.int ((((q.toUInt64 >>> (((16 : Int32) * i) &&& 0x3f).toInt64.toUInt64).toInt64).toInt32).toUInt32.toUInt16.toUInt32.toInt32))] [(.int (((p.toUInt32 >>> (((8 : Int32) + i) &&& 31).toUInt32).toInt32) &&& (1 : Int32)))])) τ → Steps pP.tables e below A0 τ := by
    intro τ κ
    refine pre0 τ ?_
    refine XS.lloadN X0.here hx rfl (hb hby d_rm_tch_0) rfl ?_
    refine XS.bipush X0.here hx rfl (hb hby d_rm_tch_1) ?_
    refine XS.iloadN X0.here hx rfl (hb hby d_rm_tch_3) rfl ?_
    refine XS.imul X0.here hx rfl (hb hby d_rm_tch_4) rfl ?_
    refine XS.lushr X0.here hx rfl (hb hby d_rm_tch_5) rfl ?_
    refine XS.l2i X0.here hx rfl (hb hby d_rm_tch_6) rfl ?_
    refine XS.i2c X0.here hx rfl (hb hby d_rm_tch_7) rfl ?_
    refine XS.istore X0.here hx rfl (hb hby d_rm_tch_8) rfl (l' := #[.val (.long q), .second, .val (.int i), .val (.int p), .val (.int ((((q.toUInt64 >>> (((16 : Int32) * i) &&& 0x3f).toInt64.toUInt64).toInt64).toInt32).toUInt32.toUInt16.toUInt32.toInt32))]) rfl ?_
    refine XS.iloadN X0.here hx rfl (hb hby d_rm_tch_10) rfl ?_
    refine XS.bipush X0.here hx rfl (hb hby d_rm_tch_11) ?_
    refine XS.iloadN X0.here hx rfl (hb hby d_rm_tch_13) rfl ?_
    refine XS.iadd X0.here hx rfl (hb hby d_rm_tch_14) rfl ?_
    refine XS.iushr X0.here hx rfl (hb hby d_rm_tch_15) rfl ?_
    refine XS.iconst X0.here hx rfl (hb hby d_rm_tch_16) ?_
    refine XS.iand X0.here hx rfl (hb hby d_rm_tch_17) rfl ?_
    exact κ
  by_cases hc18_102 : (((p.toUInt32 >>> (((8 : Int32) + i) &&& 31).toUInt32).toInt32) &&& (1 : Int32)) = (0 : Int32)
  · skip
    obtain ⟨fs, hr, hrun, hended, hW, hsame⟩ := X0.leave (v := some (.int (nar .char ((((q.toUInt64 >>> (((16 : Int32) * i) &&& 0x3f).toInt64.toUInt64).toInt64).toInt32).toUInt32.toUInt16.toUInt32.toInt32)))) (fun h => by rw [Bd.returns] at h; cases h)
    have pqE := pq101
    rw [hA0] at pqE
    refine ⟨_, _, pqE _ ?_, hrun, hended, _, _, rfl, ?_, ⟨_, rfl⟩, hW, hsame.mono (by decide) (by decide)⟩
    · refine XS.ifYes X0.here hx rfl (pc0 := 18) (pc' := 28) rfl (hb hby d_rm_tch_18) rfl ((if0 _ _).trans (teq hc18_102).1) (by decide) (by decide) ?_
      refine XS.iload X0.here hx rfl (hb hby d_rm_tch_28) rfl ?_
      show Steps pP.tables e below (s₁.setTop (mkF m 30 #[.val (.long q), .second, .val (.int i), .val (.int p), .val (.int ((((q.toUInt64 >>> (((16 : Int32) * i) &&& 0x3f).toInt64.toUInt64).toInt64).toInt32).toUInt32.toUInt16.toUInt32.toInt32))] [(.int ((((q.toUInt64 >>> (((16 : Int32) * i) &&& 0x3f).toInt64.toUInt64).toInt64).toInt32).toUInt32.toUInt16.toUInt32.toInt32))])) _
      exact retN X0 hx (t := .char) Bd.returns (by simp) (hb hby d_rm_tch_30) hr
    · show Q_chr h0 n0 _ s₁.heap _
      rw [e0]
      exact ⟨_, rfl, own_narR _, N0, rfl⟩
  · skip
    obtain ⟨fs, hr, hrun, hended, hW, hsame⟩ := X0.leave (v := some (.int (nar .char ((((((q.toUInt64 >>> (((16 : Int32) * i) &&& 0x3f).toInt64.toUInt64).toInt64).toInt32).toUInt32.toUInt16.toUInt32.toInt32) &&& (127 : Int32)).toUInt32.toUInt16.toUInt32.toInt32)))) (fun h => by rw [Bd.returns] at h; cases h)
    have pqE := pq101
    rw [hA0] at pqE
    refine ⟨_, _, pqE _ ?_, hrun, hended, _, _, rfl, ?_, ⟨_, rfl⟩, hW, hsame.mono (by decide) (by decide)⟩
    · refine XS.ifNo X0.here hx rfl (hb hby d_rm_tch_18) rfl ((if0 _ _).trans (feq hc18_102).1) ?_
      refine XS.iload X0.here hx rfl (hb hby d_rm_tch_21) rfl ?_
      refine XS.bipush X0.here hx rfl (hb hby d_rm_tch_23) ?_
      refine XS.iand X0.here hx rfl (hb hby d_rm_tch_25) rfl ?_
      refine XS.i2c X0.here hx rfl (hb hby d_rm_tch_26) rfl ?_
      show Steps pP.tables e below (s₁.setTop (mkF m 27 #[.val (.long q), .second, .val (.int i), .val (.int p), .val (.int ((((q.toUInt64 >>> (((16 : Int32) * i) &&& 0x3f).toInt64.toUInt64).toInt64).toInt32).toUInt32.toUInt16.toUInt32.toInt32))] [(.int ((((((q.toUInt64 >>> (((16 : Int32) * i) &&& 0x3f).toInt64.toUInt64).toInt64).toInt32).toUInt32.toUInt16.toUInt32.toInt32) &&& (127 : Int32)).toUInt32.toUInt16.toUInt32.toInt32))])) _
      exact retN X0 hx (t := .char) Bd.returns (by simp) (hb hby d_rm_tch_27) hr
    · show Q_chr h0 n0 _ s₁.heap _
      rw [e0]
      exact ⟨_, rfl, own_narR _, N0, rfl⟩
theorem d_rm_pch_0 : decode method_4_code 0 = .ok (.iload 4, 2) := by decide +kernel
theorem d_rm_pch_2 : decode method_4_code 2 = .ok (.iconst 2, 1) := by decide +kernel
theorem d_rm_pch_3 : decode method_4_code 3 = .ok (.iload_n 3, 1) := by decide +kernel
theorem d_rm_pch_4 : decode method_4_code 4 = .ok (.imul, 1) := by decide +kernel
theorem d_rm_pch_5 : decode method_4_code 5 = .ok (.iushr, 1) := by decide +kernel
theorem d_rm_pch_6 : decode method_4_code 6 = .ok (.iconst 3, 1) := by decide +kernel
theorem d_rm_pch_7 : decode method_4_code 7 = .ok (.iand, 1) := by decide +kernel
theorem d_rm_pch_8 : decode method_4_code 8 = .ok (.istore 5, 2) := by decide +kernel
theorem d_rm_pch_10 : decode method_4_code 10 = .ok (.lload_n 1, 1) := by decide +kernel
theorem d_rm_pch_11 : decode method_4_code 11 = .ok (.bipush 16, 2) := by decide +kernel
theorem d_rm_pch_13 : decode method_4_code 13 = .ok (.iload_n 3, 1) := by decide +kernel
theorem d_rm_pch_14 : decode method_4_code 14 = .ok (.imul, 1) := by decide +kernel
theorem d_rm_pch_15 : decode method_4_code 15 = .ok (.lushr, 1) := by decide +kernel
theorem d_rm_pch_16 : decode method_4_code 16 = .ok (.l2i, 1) := by decide +kernel
theorem d_rm_pch_17 : decode method_4_code 17 = .ok (.i2c, 1) := by decide +kernel
theorem d_rm_pch_18 : decode method_4_code 18 = .ok (.istore 6, 2) := by decide +kernel
theorem d_rm_pch_20 : decode method_4_code 20 = .ok (.iload 5, 2) := by decide +kernel
theorem d_rm_pch_22 : decode method_4_code 22 = .ok (.ifCond .ne 5, 3) := by decide +kernel
theorem d_rm_pch_25 : decode method_4_code 25 = .ok (.iload_n 0, 1) := by decide +kernel
theorem d_rm_pch_26 : decode method_4_code 26 = .ok (.ireturn, 1) := by decide +kernel
theorem d_rm_pch_27 : decode method_4_code 27 = .ok (.iload 5, 2) := by decide +kernel
theorem d_rm_pch_29 : decode method_4_code 29 = .ok (.iconst 1, 1) := by decide +kernel
theorem d_rm_pch_30 : decode method_4_code 30 = .ok (.if_icmp .ne 9, 3) := by decide +kernel
theorem d_rm_pch_33 : decode method_4_code 33 = .ok (.iload_n 0, 1) := by decide +kernel
theorem d_rm_pch_34 : decode method_4_code 34 = .ok (.bipush 32, 2) := by decide +kernel
theorem d_rm_pch_36 : decode method_4_code 36 = .ok (.ixor, 1) := by decide +kernel
theorem d_rm_pch_37 : decode method_4_code 37 = .ok (.i2c, 1) := by decide +kernel
theorem d_rm_pch_38 : decode method_4_code 38 = .ok (.ireturn, 1) := by decide +kernel
theorem d_rm_pch_39 : decode method_4_code 39 = .ok (.iload 5, 2) := by decide +kernel
theorem d_rm_pch_41 : decode method_4_code 41 = .ok (.iconst 2, 1) := by decide +kernel
theorem d_rm_pch_42 : decode method_4_code 42 = .ok (.if_icmp .ne 10, 3) := by decide +kernel
theorem d_rm_pch_45 : decode method_4_code 45 = .ok (.iload 6, 2) := by decide +kernel
theorem d_rm_pch_47 : decode method_4_code 47 = .ok (.bipush 127, 2) := by decide +kernel
theorem d_rm_pch_49 : decode method_4_code 49 = .ok (.iand, 1) := by decide +kernel
theorem d_rm_pch_50 : decode method_4_code 50 = .ok (.i2c, 1) := by decide +kernel
theorem d_rm_pch_51 : decode method_4_code 51 = .ok (.ireturn, 1) := by decide +kernel
theorem d_rm_pch_52 : decode method_4_code 52 = .ok (.iload 6, 2) := by decide +kernel
theorem d_rm_pch_54 : decode method_4_code 54 = .ok (.ireturn, 1) := by decide +kernel
theorem ef_rm_pch (m : MethodId) (x0 : Int32) (x1 : Int64) (x2 : Int32) (x3 : Int32) : entryFrame m #[(.int x0), (.long x1), (.int x2), (.int x3)] 7 = mkF m 0 #[.val (.int x0), .val (.long x1), .second, .val (.int x2), .val (.int x3), .unset, .unset] [] := by first | (simp [entryFrame, mkF, argsToLocals, Value.category]; done) | rfl
set_option maxRecDepth 65536 in
set_option maxHeartbeats 3000000 in
theorem rm_pch (l : Launch) (Z : State) (a0 : Array Value) (hw : ∀ d ∈ tables_1, d.before a0 Z = true) (ws : List Jvm.Cond) (c : Int32) (q : Int64) (i p : Int32) (h0 : Heap) (n0 : Nat) (Z0 : n0 ≤ h0.size) :
    MetFree l (⟨"com/example/sites_into_slices/sitesintoslices/identity/AsciiCaseStartsWithIgnoringCasePinLaw", "prefixChar", "(CJII)C"⟩ : MethodName) (head1 (Jvm.Cond.code (⟨"com/example/sites_into_slices/sitesintoslices/identity/AsciiCaseStartsWithIgnoringCasePinLaw", "prefixChar", "(CJII)C"⟩ : MethodName) method_4_code 7 (some .char) :: ws) ({ frames := 0, cells := 0, slots := 0, locals := 0 } : Room)) (fun αs U => αs = #[(.int c), (.long q), (.int i), (.int p)] ∧ Z.Warmed39 U.vm ∧ U.heap = h0) (fun _ _ _ _ _ => True) (fun _ U o U' => ∃ v L, o = .returned v ∧ Q_chr h0 n0 v U'.heap L ∧ FrameEnd U o U' L ({ frames := 0, cells := 0, slots := 0, locals := 0 } : Room).cells ({ frames := 0, cells := 0, slots := 0, locals := 0 } : Room).slots) := by
  refine MetFree.of_bodySF (plainFor_of_name pno_0) hisR ?_
  intro pP e s m args below meth cC s₁ Bd hml0 hP hK
  obtain ⟨rfl, hZ, hh⟩ := hP
  have hx := Bd.exec
  have hby := Bd.bytes
  have hml : cC.maxLocals = 7 := hml0
  have hown : s.vm.findClass "com/example/sites_into_slices/sitesintoslices/identity/AsciiCaseStartsWithIgnoringCasePinLaw" = some m.cls := findClass_of_methodNamed Bd.named
  have hnm := (name_of_methodNamed Bd.named Bd.method).1
  have X0 : Stand pP l e ({ frames := 0, cells := 0, slots := 0, locals := 0 } : Room) s m #[(.int c), (.long q), (.int i), (.int p)] below meth cC s₁ [] 0 0 := Stand.of_body Bd
  have e0 : s₁.heap = h0 := by rw [← hh, Bd.state]; rfl
  have N0 := Fr.nil n0
  have KC0 : Keep h0 h0 [] := Keep.refl h0 _
  obtain ⟨A0, hA0⟩ : ∃ z, z = s₁.setTop (entryFrame m #[(.int c), (.long q), (.int i), (.int p)] 7) := ⟨_, rfl⟩
  have pre0 : ∀ τ, Steps pP.tables e below (s₁.setTop (mkF m 0 #[.val (.int c), .val (.long q), .second, .val (.int i), .val (.int p), .unset, .unset] [])) τ → Steps pP.tables e below A0 τ := fun τ κ => by rw [hA0]; exact castTop (ef_rm_pch m c q i p) κ
  have pq101 : ∀ τ, Steps pP.tables e below (s₁.setTop (mkF m 22 #[.val (.int c), .val (.long q), .second, .val (.int i), .val (.int p), .val (.int (((p.toUInt32 >>> (((2 : Int32) * i) &&& 31).toUInt32).toInt32) &&& (3 : Int32))), .val (.int ((((q.toUInt64 >>> (((16 : Int32) * i) &&& 0x3f).toInt64.toUInt64).toInt64).toInt32).toUInt32.toUInt16.toUInt32.toInt32))] [(.int (((p.toUInt32 >>> (((2 : Int32) * i) &&& 31).toUInt32).toInt32) &&& (3 : Int32)))])) τ → Steps pP.tables e below A0 τ := by
    intro τ κ
    refine pre0 τ ?_
    refine XS.iload X0.here hx rfl (hb hby d_rm_pch_0) rfl ?_
    refine XS.iconst X0.here hx rfl (hb hby d_rm_pch_2) ?_
    refine XS.iloadN X0.here hx rfl (hb hby d_rm_pch_3) rfl ?_
    refine XS.imul X0.here hx rfl (hb hby d_rm_pch_4) rfl ?_
    refine XS.iushr X0.here hx rfl (hb hby d_rm_pch_5) rfl ?_
    refine XS.iconst X0.here hx rfl (hb hby d_rm_pch_6) ?_
    refine XS.iand X0.here hx rfl (hb hby d_rm_pch_7) rfl ?_
    refine XS.istore X0.here hx rfl (hb hby d_rm_pch_8) rfl (l' := #[.val (.int c), .val (.long q), .second, .val (.int i), .val (.int p), .val (.int (((p.toUInt32 >>> (((2 : Int32) * i) &&& 31).toUInt32).toInt32) &&& (3 : Int32))), .unset]) rfl ?_
    refine XS.lloadN X0.here hx rfl (hb hby d_rm_pch_10) rfl ?_
    refine XS.bipush X0.here hx rfl (hb hby d_rm_pch_11) ?_
    refine XS.iloadN X0.here hx rfl (hb hby d_rm_pch_13) rfl ?_
    refine XS.imul X0.here hx rfl (hb hby d_rm_pch_14) rfl ?_
    refine XS.lushr X0.here hx rfl (hb hby d_rm_pch_15) rfl ?_
    refine XS.l2i X0.here hx rfl (hb hby d_rm_pch_16) rfl ?_
    refine XS.i2c X0.here hx rfl (hb hby d_rm_pch_17) rfl ?_
    refine XS.istore X0.here hx rfl (hb hby d_rm_pch_18) rfl (l' := #[.val (.int c), .val (.long q), .second, .val (.int i), .val (.int p), .val (.int (((p.toUInt32 >>> (((2 : Int32) * i) &&& 31).toUInt32).toInt32) &&& (3 : Int32))), .val (.int ((((q.toUInt64 >>> (((16 : Int32) * i) &&& 0x3f).toInt64.toUInt64).toInt64).toInt32).toUInt32.toUInt16.toUInt32.toInt32))]) rfl ?_
    refine XS.iload X0.here hx rfl (hb hby d_rm_pch_20) rfl ?_
    exact κ
  by_cases hc22_102 : (((p.toUInt32 >>> (((2 : Int32) * i) &&& 31).toUInt32).toInt32) &&& (3 : Int32)) = (0 : Int32)
  · skip
    obtain ⟨fs, hr, hrun, hended, hW, hsame⟩ := X0.leave (v := some (.int (nar .char c))) (fun h => by rw [Bd.returns] at h; cases h)
    have pqE := pq101
    rw [hA0] at pqE
    refine ⟨_, _, pqE _ ?_, hrun, hended, _, _, rfl, ?_, ⟨_, rfl⟩, hW, hsame.mono (by decide) (by decide)⟩
    · refine XS.ifNo X0.here hx rfl (hb hby d_rm_pch_22) rfl ((if0 _ _).trans (teq hc22_102).2) ?_
      refine XS.iloadN X0.here hx rfl (hb hby d_rm_pch_25) rfl ?_
      show Steps pP.tables e below (s₁.setTop (mkF m 26 #[.val (.int c), .val (.long q), .second, .val (.int i), .val (.int p), .val (.int (((p.toUInt32 >>> (((2 : Int32) * i) &&& 31).toUInt32).toInt32) &&& (3 : Int32))), .val (.int ((((q.toUInt64 >>> (((16 : Int32) * i) &&& 0x3f).toInt64.toUInt64).toInt64).toInt32).toUInt32.toUInt16.toUInt32.toInt32))] [(.int c)])) _
      exact retN X0 hx (t := .char) Bd.returns (by simp) (hb hby d_rm_pch_26) hr
    · show Q_chr h0 n0 _ s₁.heap _
      rw [e0]
      exact ⟨_, rfl, own_narR _, N0, rfl⟩
  · skip
    have pq103 : ∀ τ, Steps pP.tables e below (s₁.setTop (mkF m 30 #[.val (.int c), .val (.long q), .second, .val (.int i), .val (.int p), .val (.int (((p.toUInt32 >>> (((2 : Int32) * i) &&& 31).toUInt32).toInt32) &&& (3 : Int32))), .val (.int ((((q.toUInt64 >>> (((16 : Int32) * i) &&& 0x3f).toInt64.toUInt64).toInt64).toInt32).toUInt32.toUInt16.toUInt32.toInt32))] [(.int (1 : Int32)), (.int (((p.toUInt32 >>> (((2 : Int32) * i) &&& 31).toUInt32).toInt32) &&& (3 : Int32)))])) τ → Steps pP.tables e below A0 τ := by
      intro τ κ
      refine pq101 τ ?_
      refine XS.ifYes X0.here hx rfl (pc0 := 22) (pc' := 27) rfl (hb hby d_rm_pch_22) rfl ((if0 _ _).trans (feq hc22_102).2) (by decide) (by decide) ?_
      refine XS.iload X0.here hx rfl (hb hby d_rm_pch_27) rfl ?_
      refine XS.iconst X0.here hx rfl (hb hby d_rm_pch_29) ?_
      exact κ
    by_cases hc30_104 : (((p.toUInt32 >>> (((2 : Int32) * i) &&& 31).toUInt32).toInt32) &&& (3 : Int32)) = (1 : Int32)
    · skip
      obtain ⟨fs, hr, hrun, hended, hW, hsame⟩ := X0.leave (v := some (.int (nar .char ((c ^^^ (32 : Int32)).toUInt32.toUInt16.toUInt32.toInt32)))) (fun h => by rw [Bd.returns] at h; cases h)
      have pqE := pq103
      rw [hA0] at pqE
      refine ⟨_, _, pqE _ ?_, hrun, hended, _, _, rfl, ?_, ⟨_, rfl⟩, hW, hsame.mono (by decide) (by decide)⟩
      · refine XS.icmpNo X0.here hx rfl (hb hby d_rm_pch_30) rfl (teq hc30_104).2 ?_
        refine XS.iloadN X0.here hx rfl (hb hby d_rm_pch_33) rfl ?_
        refine XS.bipush X0.here hx rfl (hb hby d_rm_pch_34) ?_
        refine XS.ixor X0.here hx rfl (hb hby d_rm_pch_36) rfl ?_
        refine XS.i2c X0.here hx rfl (hb hby d_rm_pch_37) rfl ?_
        show Steps pP.tables e below (s₁.setTop (mkF m 38 #[.val (.int c), .val (.long q), .second, .val (.int i), .val (.int p), .val (.int (((p.toUInt32 >>> (((2 : Int32) * i) &&& 31).toUInt32).toInt32) &&& (3 : Int32))), .val (.int ((((q.toUInt64 >>> (((16 : Int32) * i) &&& 0x3f).toInt64.toUInt64).toInt64).toInt32).toUInt32.toUInt16.toUInt32.toInt32))] [(.int ((c ^^^ (32 : Int32)).toUInt32.toUInt16.toUInt32.toInt32))])) _
        exact retN X0 hx (t := .char) Bd.returns (by simp) (hb hby d_rm_pch_38) hr
      · show Q_chr h0 n0 _ s₁.heap _
        rw [e0]
        exact ⟨_, rfl, own_narR _, N0, rfl⟩
    · skip
      have pq105 : ∀ τ, Steps pP.tables e below (s₁.setTop (mkF m 42 #[.val (.int c), .val (.long q), .second, .val (.int i), .val (.int p), .val (.int (((p.toUInt32 >>> (((2 : Int32) * i) &&& 31).toUInt32).toInt32) &&& (3 : Int32))), .val (.int ((((q.toUInt64 >>> (((16 : Int32) * i) &&& 0x3f).toInt64.toUInt64).toInt64).toInt32).toUInt32.toUInt16.toUInt32.toInt32))] [(.int (2 : Int32)), (.int (((p.toUInt32 >>> (((2 : Int32) * i) &&& 31).toUInt32).toInt32) &&& (3 : Int32)))])) τ → Steps pP.tables e below A0 τ := by
        intro τ κ
        refine pq103 τ ?_
        refine XS.icmpYes X0.here hx rfl (pc0 := 30) (pc' := 39) rfl (hb hby d_rm_pch_30) rfl (feq hc30_104).2 (by decide) (by decide) ?_
        refine XS.iload X0.here hx rfl (hb hby d_rm_pch_39) rfl ?_
        refine XS.iconst X0.here hx rfl (hb hby d_rm_pch_41) ?_
        exact κ
      by_cases hc42_106 : (((p.toUInt32 >>> (((2 : Int32) * i) &&& 31).toUInt32).toInt32) &&& (3 : Int32)) = (2 : Int32)
      · skip
        obtain ⟨fs, hr, hrun, hended, hW, hsame⟩ := X0.leave (v := some (.int (nar .char ((((((q.toUInt64 >>> (((16 : Int32) * i) &&& 0x3f).toInt64.toUInt64).toInt64).toInt32).toUInt32.toUInt16.toUInt32.toInt32) &&& (127 : Int32)).toUInt32.toUInt16.toUInt32.toInt32)))) (fun h => by rw [Bd.returns] at h; cases h)
        have pqE := pq105
        rw [hA0] at pqE
        refine ⟨_, _, pqE _ ?_, hrun, hended, _, _, rfl, ?_, ⟨_, rfl⟩, hW, hsame.mono (by decide) (by decide)⟩
        · refine XS.icmpNo X0.here hx rfl (hb hby d_rm_pch_42) rfl (teq hc42_106).2 ?_
          refine XS.iload X0.here hx rfl (hb hby d_rm_pch_45) rfl ?_
          refine XS.bipush X0.here hx rfl (hb hby d_rm_pch_47) ?_
          refine XS.iand X0.here hx rfl (hb hby d_rm_pch_49) rfl ?_
          refine XS.i2c X0.here hx rfl (hb hby d_rm_pch_50) rfl ?_
          show Steps pP.tables e below (s₁.setTop (mkF m 51 #[.val (.int c), .val (.long q), .second, .val (.int i), .val (.int p), .val (.int (((p.toUInt32 >>> (((2 : Int32) * i) &&& 31).toUInt32).toInt32) &&& (3 : Int32))), .val (.int ((((q.toUInt64 >>> (((16 : Int32) * i) &&& 0x3f).toInt64.toUInt64).toInt64).toInt32).toUInt32.toUInt16.toUInt32.toInt32))] [(.int ((((((q.toUInt64 >>> (((16 : Int32) * i) &&& 0x3f).toInt64.toUInt64).toInt64).toInt32).toUInt32.toUInt16.toUInt32.toInt32) &&& (127 : Int32)).toUInt32.toUInt16.toUInt32.toInt32))])) _
          exact retN X0 hx (t := .char) Bd.returns (by simp) (hb hby d_rm_pch_51) hr
        · show Q_chr h0 n0 _ s₁.heap _
          rw [e0]
          exact ⟨_, rfl, own_narR _, N0, rfl⟩
      · skip
        obtain ⟨fs, hr, hrun, hended, hW, hsame⟩ := X0.leave (v := some (.int (nar .char ((((q.toUInt64 >>> (((16 : Int32) * i) &&& 0x3f).toInt64.toUInt64).toInt64).toInt32).toUInt32.toUInt16.toUInt32.toInt32)))) (fun h => by rw [Bd.returns] at h; cases h)
        have pqE := pq105
        rw [hA0] at pqE
        refine ⟨_, _, pqE _ ?_, hrun, hended, _, _, rfl, ?_, ⟨_, rfl⟩, hW, hsame.mono (by decide) (by decide)⟩
        · refine XS.icmpYes X0.here hx rfl (pc0 := 42) (pc' := 52) rfl (hb hby d_rm_pch_42) rfl (feq hc42_106).2 (by decide) (by decide) ?_
          refine XS.iload X0.here hx rfl (hb hby d_rm_pch_52) rfl ?_
          show Steps pP.tables e below (s₁.setTop (mkF m 54 #[.val (.int c), .val (.long q), .second, .val (.int i), .val (.int p), .val (.int (((p.toUInt32 >>> (((2 : Int32) * i) &&& 31).toUInt32).toInt32) &&& (3 : Int32))), .val (.int ((((q.toUInt64 >>> (((16 : Int32) * i) &&& 0x3f).toInt64.toUInt64).toInt64).toInt32).toUInt32.toUInt16.toUInt32.toInt32))] [(.int ((((q.toUInt64 >>> (((16 : Int32) * i) &&& 0x3f).toInt64.toUInt64).toInt64).toInt32).toUInt32.toUInt16.toUInt32.toInt32))])) _
          exact retN X0 hx (t := .char) Bd.returns (by simp) (hb hby d_rm_pch_54) hr
        · show Q_chr h0 n0 _ s₁.heap _
          rw [e0]
          exact ⟨_, rfl, own_narR _, N0, rfl⟩
def Q_same (a b : Int32) (h0 : Heap) (n0 : Nat) (v : Option Value) (h : Heap) (L : List Loc) : Prop := v = some (.int (own_same a b)) ∧ Fr n0 L ∧ h = h0
theorem d_rm_same_0 : decode method_5_code 0 = .ok (.iload_n 0, 1) := by decide +kernel
theorem d_rm_same_1 : decode method_5_code 1 = .ok (.iload_n 1, 1) := by decide +kernel
theorem d_rm_same_2 : decode method_5_code 2 = .ok (.if_icmp .ne 5, 3) := by decide +kernel
theorem d_rm_same_5 : decode method_5_code 5 = .ok (.iconst 1, 1) := by decide +kernel
theorem d_rm_same_6 : decode method_5_code 6 = .ok (.ireturn, 1) := by decide +kernel
theorem d_rm_same_7 : decode method_5_code 7 = .ok (.iload_n 0, 1) := by decide +kernel
theorem d_rm_same_8 : decode method_5_code 8 = .ok (.bipush 32, 2) := by decide +kernel
theorem d_rm_same_10 : decode method_5_code 10 = .ok (.ior, 1) := by decide +kernel
theorem d_rm_same_11 : decode method_5_code 11 = .ok (.istore_n 2, 1) := by decide +kernel
theorem d_rm_same_12 : decode method_5_code 12 = .ok (.iload_n 2, 1) := by decide +kernel
theorem d_rm_same_13 : decode method_5_code 13 = .ok (.bipush 97, 2) := by decide +kernel
theorem d_rm_same_15 : decode method_5_code 15 = .ok (.if_icmp .lt 21, 3) := by decide +kernel
theorem d_rm_same_18 : decode method_5_code 18 = .ok (.iload_n 2, 1) := by decide +kernel
theorem d_rm_same_19 : decode method_5_code 19 = .ok (.bipush 122, 2) := by decide +kernel
theorem d_rm_same_21 : decode method_5_code 21 = .ok (.if_icmp .gt 15, 3) := by decide +kernel
theorem d_rm_same_24 : decode method_5_code 24 = .ok (.iload_n 0, 1) := by decide +kernel
theorem d_rm_same_25 : decode method_5_code 25 = .ok (.bipush 32, 2) := by decide +kernel
theorem d_rm_same_27 : decode method_5_code 27 = .ok (.ixor, 1) := by decide +kernel
theorem d_rm_same_28 : decode method_5_code 28 = .ok (.iload_n 1, 1) := by decide +kernel
theorem d_rm_same_29 : decode method_5_code 29 = .ok (.if_icmp .ne 7, 3) := by decide +kernel
theorem d_rm_same_32 : decode method_5_code 32 = .ok (.iconst 1, 1) := by decide +kernel
theorem d_rm_same_33 : decode method_5_code 33 = .ok (.goto 4, 3) := by decide +kernel
theorem d_rm_same_36 : decode method_5_code 36 = .ok (.iconst 0, 1) := by decide +kernel
theorem d_rm_same_37 : decode method_5_code 37 = .ok (.ireturn, 1) := by decide +kernel
theorem ef_rm_same (m : MethodId) (x0 : Int32) (x1 : Int32) : entryFrame m #[(.int x0), (.int x1)] 3 = mkF m 0 #[.val (.int x0), .val (.int x1), .unset] [] := by first | (simp [entryFrame, mkF, argsToLocals, Value.category]; done) | rfl
set_option maxRecDepth 65536 in
set_option maxHeartbeats 3000000 in
theorem rm_same (l : Launch) (Z : State) (a0 : Array Value) (hw : ∀ d ∈ tables_1, d.before a0 Z = true) (ws : List Jvm.Cond) (a b : Int32) (h0 : Heap) (n0 : Nat) (Z0 : n0 ≤ h0.size) (haa : ¬ a < 0 ∧ ¬ (65535 : Int32) < a) (hbb : ¬ b < 0 ∧ ¬ (65535 : Int32) < b) :
    MetFree l (⟨"com/example/sites_into_slices/sitesintoslices/identity/AsciiCaseStartsWithIgnoringCasePinLaw", "same", "(CC)Z"⟩ : MethodName) (head1 (Jvm.Cond.code (⟨"com/example/sites_into_slices/sitesintoslices/identity/AsciiCaseStartsWithIgnoringCasePinLaw", "same", "(CC)Z"⟩ : MethodName) method_5_code 3 (some .boolean) :: ws) ({ frames := 0, cells := 0, slots := 0, locals := 0 } : Room)) (fun αs U => αs = #[(.int a), (.int b)] ∧ Z.Warmed39 U.vm ∧ U.heap = h0) (fun _ _ _ _ _ => True) (fun _ U o U' => ∃ v L, o = .returned v ∧ Q_same a b h0 n0 v U'.heap L ∧ FrameEnd U o U' L ({ frames := 0, cells := 0, slots := 0, locals := 0 } : Room).cells ({ frames := 0, cells := 0, slots := 0, locals := 0 } : Room).slots) := by
  refine MetFree.of_bodySF (plainFor_of_name pno_0) hisR ?_
  intro pP e s m args below meth cC s₁ Bd hml0 hP hK
  obtain ⟨rfl, hZ, hh⟩ := hP
  have hx := Bd.exec
  have hby := Bd.bytes
  have hml : cC.maxLocals = 3 := hml0
  have hown : s.vm.findClass "com/example/sites_into_slices/sitesintoslices/identity/AsciiCaseStartsWithIgnoringCasePinLaw" = some m.cls := findClass_of_methodNamed Bd.named
  have hnm := (name_of_methodNamed Bd.named Bd.method).1
  have X0 : Stand pP l e ({ frames := 0, cells := 0, slots := 0, locals := 0 } : Room) s m #[(.int a), (.int b)] below meth cC s₁ [] 0 0 := Stand.of_body Bd
  have e0 : s₁.heap = h0 := by rw [← hh, Bd.state]; rfl
  have N0 := Fr.nil n0
  have KC0 : Keep h0 h0 [] := Keep.refl h0 _
  obtain ⟨A0, hA0⟩ : ∃ z, z = s₁.setTop (entryFrame m #[(.int a), (.int b)] 3) := ⟨_, rfl⟩
  have pre0 : ∀ τ, Steps pP.tables e below (s₁.setTop (mkF m 0 #[.val (.int a), .val (.int b), .unset] [])) τ → Steps pP.tables e below A0 τ := fun τ κ => by rw [hA0]; exact castTop (ef_rm_same m a b) κ
  have pq101 : ∀ τ, Steps pP.tables e below (s₁.setTop (mkF m 2 #[.val (.int a), .val (.int b), .unset] [(.int b), (.int a)])) τ → Steps pP.tables e below A0 τ := by
    intro τ κ
    refine pre0 τ ?_
    refine XS.iloadN X0.here hx rfl (hb hby d_rm_same_0) rfl ?_
    refine XS.iloadN X0.here hx rfl (hb hby d_rm_same_1) rfl ?_
    exact κ
  by_cases hc2_102 : a = b
  · skip
    obtain ⟨fs, hr, hrun, hended, hW, hsame⟩ := X0.leave (v := some (.int (1 : Int32))) (fun h => by rw [Bd.returns] at h; cases h)
    have pqE := pq101
    rw [hA0] at pqE
    refine ⟨_, _, pqE _ ?_, hrun, hended, _, _, rfl, ?_, ⟨_, rfl⟩, hW, hsame.mono (by decide) (by decide)⟩
    · refine XS.icmpNo X0.here hx rfl (hb hby d_rm_same_2) rfl (teq hc2_102).2 ?_
      refine XS.iconst X0.here hx rfl (hb hby d_rm_same_5) ?_
      show Steps pP.tables e below (s₁.setTop (mkF m 6 #[.val (.int a), .val (.int b), .unset] [(.int (1 : Int32))])) _
      exact retN X0 hx (t := .boolean) Bd.returns (by simp) (hb hby d_rm_same_6) hr
    · show Q_same a b h0 n0 _ s₁.heap _
      rw [e0]
      exact ⟨by rw [own_same_is haa hbb]; first | (simp only [hc2_102, if_true, if_false]; done) | (simp only [hc2_102, if_true, if_false]; rfl), N0, rfl⟩
  · skip
    have pq103 : ∀ τ, Steps pP.tables e below (s₁.setTop (mkF m 15 #[.val (.int a), .val (.int b), .val (.int (a ||| (32 : Int32)))] [(.int (97 : Int32)), (.int (a ||| (32 : Int32)))])) τ → Steps pP.tables e below A0 τ := by
      intro τ κ
      refine pq101 τ ?_
      refine XS.icmpYes X0.here hx rfl (pc0 := 2) (pc' := 7) rfl (hb hby d_rm_same_2) rfl (feq hc2_102).2 (by decide) (by decide) ?_
      refine XS.iloadN X0.here hx rfl (hb hby d_rm_same_7) rfl ?_
      refine XS.bipush X0.here hx rfl (hb hby d_rm_same_8) ?_
      refine XS.ior X0.here hx rfl (hb hby d_rm_same_10) rfl ?_
      refine XS.istoreN X0.here hx rfl (hb hby d_rm_same_11) rfl (l' := #[.val (.int a), .val (.int b), .val (.int (a ||| (32 : Int32)))]) rfl ?_
      refine XS.iloadN X0.here hx rfl (hb hby d_rm_same_12) rfl ?_
      refine XS.bipush X0.here hx rfl (hb hby d_rm_same_13) ?_
      exact κ
    by_cases hc15_104 : (a ||| (32 : Int32)) < (97 : Int32)
    · skip
      obtain ⟨fs, hr, hrun, hended, hW, hsame⟩ := X0.leave (v := some (.int (0 : Int32))) (fun h => by rw [Bd.returns] at h; cases h)
      have pqE := pq103
      rw [hA0] at pqE
      refine ⟨_, _, pqE _ ?_, hrun, hended, _, _, rfl, ?_, ⟨_, rfl⟩, hW, hsame.mono (by decide) (by decide)⟩
      · refine XS.icmpYes X0.here hx rfl (pc0 := 15) (pc' := 36) rfl (hb hby d_rm_same_15) rfl (tlt hc15_104).1 (by decide) (by decide) ?_
        refine XS.iconst X0.here hx rfl (hb hby d_rm_same_36) ?_
        show Steps pP.tables e below (s₁.setTop (mkF m 37 #[.val (.int a), .val (.int b), .val (.int (a ||| (32 : Int32)))] [(.int (0 : Int32))])) _
        exact retN X0 hx (t := .boolean) Bd.returns (by simp) (hb hby d_rm_same_37) hr
      · show Q_same a b h0 n0 _ s₁.heap _
        rw [e0]
        exact ⟨by rw [own_same_is haa hbb]; first | (simp only [hc2_102, hc15_104, if_true, if_false]; done) | (simp only [hc2_102, hc15_104, if_true, if_false]; rfl), N0, rfl⟩
    · skip
      have pq105 : ∀ τ, Steps pP.tables e below (s₁.setTop (mkF m 21 #[.val (.int a), .val (.int b), .val (.int (a ||| (32 : Int32)))] [(.int (122 : Int32)), (.int (a ||| (32 : Int32)))])) τ → Steps pP.tables e below A0 τ := by
        intro τ κ
        refine pq103 τ ?_
        refine XS.icmpNo X0.here hx rfl (hb hby d_rm_same_15) rfl (flt hc15_104).1 ?_
        refine XS.iloadN X0.here hx rfl (hb hby d_rm_same_18) rfl ?_
        refine XS.bipush X0.here hx rfl (hb hby d_rm_same_19) ?_
        exact κ
      by_cases hc21_106 : (122 : Int32) < (a ||| (32 : Int32))
      · skip
        obtain ⟨fs, hr, hrun, hended, hW, hsame⟩ := X0.leave (v := some (.int (0 : Int32))) (fun h => by rw [Bd.returns] at h; cases h)
        have pqE := pq105
        rw [hA0] at pqE
        refine ⟨_, _, pqE _ ?_, hrun, hended, _, _, rfl, ?_, ⟨_, rfl⟩, hW, hsame.mono (by decide) (by decide)⟩
        · refine XS.icmpYes X0.here hx rfl (pc0 := 21) (pc' := 36) rfl (hb hby d_rm_same_21) rfl (tlt hc21_106).2.2.1 (by decide) (by decide) ?_
          refine XS.iconst X0.here hx rfl (hb hby d_rm_same_36) ?_
          show Steps pP.tables e below (s₁.setTop (mkF m 37 #[.val (.int a), .val (.int b), .val (.int (a ||| (32 : Int32)))] [(.int (0 : Int32))])) _
          exact retN X0 hx (t := .boolean) Bd.returns (by simp) (hb hby d_rm_same_37) hr
        · show Q_same a b h0 n0 _ s₁.heap _
          rw [e0]
          exact ⟨by rw [own_same_is haa hbb]; first | (simp only [hc2_102, hc15_104, hc21_106, if_true, if_false]; done) | (simp only [hc2_102, hc15_104, hc21_106, if_true, if_false]; rfl), N0, rfl⟩
      · skip
        have pq107 : ∀ τ, Steps pP.tables e below (s₁.setTop (mkF m 29 #[.val (.int a), .val (.int b), .val (.int (a ||| (32 : Int32)))] [(.int b), (.int (a ^^^ (32 : Int32)))])) τ → Steps pP.tables e below A0 τ := by
          intro τ κ
          refine pq105 τ ?_
          refine XS.icmpNo X0.here hx rfl (hb hby d_rm_same_21) rfl (flt hc21_106).2.2.1 ?_
          refine XS.iloadN X0.here hx rfl (hb hby d_rm_same_24) rfl ?_
          refine XS.bipush X0.here hx rfl (hb hby d_rm_same_25) ?_
          refine XS.ixor X0.here hx rfl (hb hby d_rm_same_27) rfl ?_
          refine XS.iloadN X0.here hx rfl (hb hby d_rm_same_28) rfl ?_
          exact κ
        by_cases hc29_108 : (a ^^^ (32 : Int32)) = b
        · skip
          obtain ⟨fs, hr, hrun, hended, hW, hsame⟩ := X0.leave (v := some (.int (1 : Int32))) (fun h => by rw [Bd.returns] at h; cases h)
          have pqE := pq107
          rw [hA0] at pqE
          refine ⟨_, _, pqE _ ?_, hrun, hended, _, _, rfl, ?_, ⟨_, rfl⟩, hW, hsame.mono (by decide) (by decide)⟩
          · refine XS.icmpNo X0.here hx rfl (hb hby d_rm_same_29) rfl (teq hc29_108).2 ?_
            refine XS.iconst X0.here hx rfl (hb hby d_rm_same_32) ?_
            refine XS.goto X0.here hx rfl (pc0 := 33) (pc' := 37) rfl (hb hby d_rm_same_33) (by decide) (by decide) ?_
            show Steps pP.tables e below (s₁.setTop (mkF m 37 #[.val (.int a), .val (.int b), .val (.int (a ||| (32 : Int32)))] [(.int (1 : Int32))])) _
            exact retN X0 hx (t := .boolean) Bd.returns (by simp) (hb hby d_rm_same_37) hr
          · show Q_same a b h0 n0 _ s₁.heap _
            rw [e0]
            exact ⟨by rw [own_same_is haa hbb]; first | (simp only [hc2_102, hc15_104, hc21_106, hc29_108, if_true, if_false]; done) | (simp only [hc2_102, hc15_104, hc21_106, hc29_108, if_true, if_false]; rfl), N0, rfl⟩
        · skip
          obtain ⟨fs, hr, hrun, hended, hW, hsame⟩ := X0.leave (v := some (.int (0 : Int32))) (fun h => by rw [Bd.returns] at h; cases h)
          have pqE := pq107
          rw [hA0] at pqE
          refine ⟨_, _, pqE _ ?_, hrun, hended, _, _, rfl, ?_, ⟨_, rfl⟩, hW, hsame.mono (by decide) (by decide)⟩
          · refine XS.icmpYes X0.here hx rfl (pc0 := 29) (pc' := 36) rfl (hb hby d_rm_same_29) rfl (feq hc29_108).2 (by decide) (by decide) ?_
            refine XS.iconst X0.here hx rfl (hb hby d_rm_same_36) ?_
            show Steps pP.tables e below (s₁.setTop (mkF m 37 #[.val (.int a), .val (.int b), .val (.int (a ||| (32 : Int32)))] [(.int (0 : Int32))])) _
            exact retN X0 hx (t := .boolean) Bd.returns (by simp) (hb hby d_rm_same_37) hr
          · show Q_same a b h0 n0 _ s₁.heap _
            rw [e0]
            exact ⟨by rw [own_same_is haa hbb]; first | (simp only [hc2_102, hc15_104, hc21_106, hc29_108, if_true, if_false]; done) | (simp only [hc2_102, hc15_104, hc21_106, hc29_108, if_true, if_false]; rfl), N0, rfl⟩
def Q_low (c : Int32) (h0 : Heap) (n0 : Nat) (v : Option Value) (h : Heap) (L : List Loc) : Prop := v = some (.int (own_lo c)) ∧ Fr n0 L ∧ h = h0
theorem d_rm_low_0 : decode prog_37_method_4_code 0 = .ok (.iload_n 0, 1) := by decide +kernel
theorem d_rm_low_1 : decode prog_37_method_4_code 1 = .ok (.bipush 65, 2) := by decide +kernel
theorem d_rm_low_3 : decode prog_37_method_4_code 3 = .ok (.if_icmp .lt 17, 3) := by decide +kernel
theorem d_rm_low_6 : decode prog_37_method_4_code 6 = .ok (.iload_n 0, 1) := by decide +kernel
theorem d_rm_low_7 : decode prog_37_method_4_code 7 = .ok (.bipush 90, 2) := by decide +kernel
theorem d_rm_low_9 : decode prog_37_method_4_code 9 = .ok (.if_icmp .gt 11, 3) := by decide +kernel
theorem d_rm_low_12 : decode prog_37_method_4_code 12 = .ok (.iload_n 0, 1) := by decide +kernel
theorem d_rm_low_13 : decode prog_37_method_4_code 13 = .ok (.bipush 32, 2) := by decide +kernel
theorem d_rm_low_15 : decode prog_37_method_4_code 15 = .ok (.iadd, 1) := by decide +kernel
theorem d_rm_low_16 : decode prog_37_method_4_code 16 = .ok (.i2c, 1) := by decide +kernel
theorem d_rm_low_17 : decode prog_37_method_4_code 17 = .ok (.goto 4, 3) := by decide +kernel
theorem d_rm_low_20 : decode prog_37_method_4_code 20 = .ok (.iload_n 0, 1) := by decide +kernel
theorem d_rm_low_21 : decode prog_37_method_4_code 21 = .ok (.ireturn, 1) := by decide +kernel
theorem ef_rm_low (m : MethodId) (x0 : Int32) : entryFrame m #[(.int x0)] 1 = mkF m 0 #[.val (.int x0)] [] := by first | (simp [entryFrame, mkF, argsToLocals, Value.category]; done) | rfl
set_option maxRecDepth 65536 in
set_option maxHeartbeats 3000000 in
theorem rm_low (l : Launch) (Z : State) (a0 : Array Value) (hw : ∀ d ∈ tables_1, d.before a0 Z = true) (ws : List Jvm.Cond) (c : Int32) (h0 : Heap) (n0 : Nat) (Z0 : n0 ≤ h0.size) :
    MetFree l (⟨"com/example/sites_into_slices/sitesintoslices/identity/AsciiCase", "toLowerCase", "(C)C"⟩ : MethodName) (head1 (Jvm.Cond.code (⟨"com/example/sites_into_slices/sitesintoslices/identity/AsciiCase", "toLowerCase", "(C)C"⟩ : MethodName) prog_37_method_4_code 1 (some .char) :: ws) ({ frames := 0, cells := 0, slots := 0, locals := 0 } : Room)) (fun αs U => αs = #[(.int c)] ∧ Z.Warmed39 U.vm ∧ U.heap = h0) (fun _ _ _ _ _ => True) (fun _ U o U' => ∃ v L, o = .returned v ∧ Q_low c h0 n0 v U'.heap L ∧ FrameEnd U o U' L ({ frames := 0, cells := 0, slots := 0, locals := 0 } : Room).cells ({ frames := 0, cells := 0, slots := 0, locals := 0 } : Room).slots) := by
  refine MetFree.of_bodySF (plainFor_of_name pno_1) hisR ?_
  intro pP e s m args below meth cC s₁ Bd hml0 hP hK
  obtain ⟨rfl, hZ, hh⟩ := hP
  have hx := Bd.exec
  have hby := Bd.bytes
  have hml : cC.maxLocals = 1 := hml0
  have hown : s.vm.findClass "com/example/sites_into_slices/sitesintoslices/identity/AsciiCase" = some m.cls := findClass_of_methodNamed Bd.named
  have hnm := (name_of_methodNamed Bd.named Bd.method).1
  have X0 : Stand pP l e ({ frames := 0, cells := 0, slots := 0, locals := 0 } : Room) s m #[(.int c)] below meth cC s₁ [] 0 0 := Stand.of_body Bd
  have e0 : s₁.heap = h0 := by rw [← hh, Bd.state]; rfl
  have N0 := Fr.nil n0
  have KC0 : Keep h0 h0 [] := Keep.refl h0 _
  obtain ⟨A0, hA0⟩ : ∃ z, z = s₁.setTop (entryFrame m #[(.int c)] 1) := ⟨_, rfl⟩
  have pre0 : ∀ τ, Steps pP.tables e below (s₁.setTop (mkF m 0 #[.val (.int c)] [])) τ → Steps pP.tables e below A0 τ := fun τ κ => by rw [hA0]; exact castTop (ef_rm_low m c) κ
  have pq101 : ∀ τ, Steps pP.tables e below (s₁.setTop (mkF m 3 #[.val (.int c)] [(.int (65 : Int32)), (.int c)])) τ → Steps pP.tables e below A0 τ := by
    intro τ κ
    refine pre0 τ ?_
    refine XS.iloadN X0.here hx rfl (hb hby d_rm_low_0) rfl ?_
    refine XS.bipush X0.here hx rfl (hb hby d_rm_low_1) ?_
    exact κ
  by_cases hc3_102 : c < (65 : Int32)
  · skip
    obtain ⟨fs, hr, hrun, hended, hW, hsame⟩ := X0.leave (v := some (.int (nar .char c))) (fun h => by rw [Bd.returns] at h; cases h)
    have pqE := pq101
    rw [hA0] at pqE
    refine ⟨_, _, pqE _ ?_, hrun, hended, _, _, rfl, ?_, ⟨_, rfl⟩, hW, hsame.mono (by decide) (by decide)⟩
    · refine XS.icmpYes X0.here hx rfl (pc0 := 3) (pc' := 20) rfl (hb hby d_rm_low_3) rfl (tlt hc3_102).1 (by decide) (by decide) ?_
      refine XS.iloadN X0.here hx rfl (hb hby d_rm_low_20) rfl ?_
      show Steps pP.tables e below (s₁.setTop (mkF m 21 #[.val (.int c)] [(.int c)])) _
      exact retN X0 hx (t := .char) Bd.returns (by simp) (hb hby d_rm_low_21) hr
    · show Q_low c h0 n0 _ s₁.heap _
      rw [e0]
      exact ⟨by simp only [own_lo, hc3_102, if_true, if_false], N0, rfl⟩
  · skip
    have pq103 : ∀ τ, Steps pP.tables e below (s₁.setTop (mkF m 9 #[.val (.int c)] [(.int (90 : Int32)), (.int c)])) τ → Steps pP.tables e below A0 τ := by
      intro τ κ
      refine pq101 τ ?_
      refine XS.icmpNo X0.here hx rfl (hb hby d_rm_low_3) rfl (flt hc3_102).1 ?_
      refine XS.iloadN X0.here hx rfl (hb hby d_rm_low_6) rfl ?_
      refine XS.bipush X0.here hx rfl (hb hby d_rm_low_7) ?_
      exact κ
    by_cases hc9_104 : (90 : Int32) < c
    · skip
      obtain ⟨fs, hr, hrun, hended, hW, hsame⟩ := X0.leave (v := some (.int (nar .char c))) (fun h => by rw [Bd.returns] at h; cases h)
      have pqE := pq103
      rw [hA0] at pqE
      refine ⟨_, _, pqE _ ?_, hrun, hended, _, _, rfl, ?_, ⟨_, rfl⟩, hW, hsame.mono (by decide) (by decide)⟩
      · refine XS.icmpYes X0.here hx rfl (pc0 := 9) (pc' := 20) rfl (hb hby d_rm_low_9) rfl (tlt hc9_104).2.2.1 (by decide) (by decide) ?_
        refine XS.iloadN X0.here hx rfl (hb hby d_rm_low_20) rfl ?_
        show Steps pP.tables e below (s₁.setTop (mkF m 21 #[.val (.int c)] [(.int c)])) _
        exact retN X0 hx (t := .char) Bd.returns (by simp) (hb hby d_rm_low_21) hr
      · show Q_low c h0 n0 _ s₁.heap _
        rw [e0]
        exact ⟨by simp only [own_lo, hc3_102, hc9_104, if_true, if_false], N0, rfl⟩
    · skip
      obtain ⟨fs, hr, hrun, hended, hW, hsame⟩ := X0.leave (v := some (.int (nar .char ((c + (32 : Int32)).toUInt32.toUInt16.toUInt32.toInt32)))) (fun h => by rw [Bd.returns] at h; cases h)
      have pqE := pq103
      rw [hA0] at pqE
      refine ⟨_, _, pqE _ ?_, hrun, hended, _, _, rfl, ?_, ⟨_, rfl⟩, hW, hsame.mono (by decide) (by decide)⟩
      · refine XS.icmpNo X0.here hx rfl (hb hby d_rm_low_9) rfl (flt hc9_104).2.2.1 ?_
        refine XS.iloadN X0.here hx rfl (hb hby d_rm_low_12) rfl ?_
        refine XS.bipush X0.here hx rfl (hb hby d_rm_low_13) ?_
        refine XS.iadd X0.here hx rfl (hb hby d_rm_low_15) rfl ?_
        refine XS.i2c X0.here hx rfl (hb hby d_rm_low_16) rfl ?_
        refine XS.goto X0.here hx rfl (pc0 := 17) (pc' := 21) rfl (hb hby d_rm_low_17) (by decide) (by decide) ?_
        show Steps pP.tables e below (s₁.setTop (mkF m 21 #[.val (.int c)] [(.int ((c + (32 : Int32)).toUInt32.toUInt16.toUInt32.toInt32))])) _
        exact retN X0 hx (t := .char) Bd.returns (by simp) (hb hby d_rm_low_21) hr
      · show Q_low c h0 n0 _ s₁.heap _
        rw [e0]
        exact ⟨by simp only [own_lo, hc3_102, hc9_104, if_true, if_false], N0, rfl⟩
def Q_cod0 (h0 : Heap) (n0 : Nat) (v : Option Value) (h : Heap) (L : List Loc) : Prop := v = some (.int 0) ∧ Fr n0 L ∧ h = h0
theorem d_rm_cod0_0 : decode jdk_42_method_152_code 0 = .ok (.getstatic 38, 3) := by decide +kernel
theorem d_rm_cod0_3 : decode jdk_42_method_152_code 3 = .ok (.ifCond .eq 10, 3) := by decide +kernel
theorem d_rm_cod0_6 : decode jdk_42_method_152_code 6 = .ok (.aload_n 0, 1) := by decide +kernel
theorem d_rm_cod0_7 : decode jdk_42_method_152_code 7 = .ok (.getfield 15, 3) := by decide +kernel
theorem d_rm_cod0_10 : decode jdk_42_method_152_code 10 = .ok (.goto 4, 3) := by decide +kernel
theorem d_rm_cod0_14 : decode jdk_42_method_152_code 14 = .ok (.ireturn, 1) := by decide +kernel
theorem ef_rm_cod0 (m : MethodId) (x0 : Addr) : entryFrame m #[(.ref x0)] 1 = mkF m 0 #[.val (.ref x0)] [] := by first | (simp [entryFrame, mkF, argsToLocals, Value.category]; done) | rfl
set_option maxRecDepth 65536 in
set_option maxHeartbeats 3000000 in
theorem rm_cod0 (l : Launch) (Z : State) (a0 : Array Value) (hw : ∀ d ∈ tables_1, d.before a0 Z = true) (ws : List Jvm.Cond) (x : Addr) (G1 : Int32) (h0 : Heap) (n0 : Nat) (Z0 : n0 ≤ h0.size) (O2 : Sta Z Z.heap "java/lang/String" "COMPACT_STRINGS" "Z" (.int G1)) (P5 : ¬ (G1 = (0 : Int32))) (X00 : Old Z n0 h0) (F_c : Fld Z h0 x "java/lang/String" "coder" "B" (.int 0)) :
    MetFree l (⟨"java/lang/String", "coder", "()B"⟩ : MethodName) (head1 (Jvm.Cond.code (⟨"java/lang/String", "coder", "()B"⟩ : MethodName) jdk_42_method_152_code 1 (some .byte) :: ws) ({ frames := 0, cells := 0, slots := 0, locals := 0 } : Room)) (fun αs U => αs = #[(.ref x)] ∧ Z.Warmed39 U.vm ∧ U.heap = h0) (fun _ _ _ _ _ => True) (fun _ U o U' => ∃ v L, o = .returned v ∧ Q_cod0 h0 n0 v U'.heap L ∧ FrameEnd U o U' L ({ frames := 0, cells := 0, slots := 0, locals := 0 } : Room).cells ({ frames := 0, cells := 0, slots := 0, locals := 0 } : Room).slots) := by
  refine MetFree.of_bodySF (plainFor_of_name pno_2) hisR ?_
  intro pP e s m args below meth cC s₁ Bd hml0 hP hK
  obtain ⟨rfl, hZ, hh⟩ := hP
  have hx := Bd.exec
  have hby := Bd.bytes
  have hml : cC.maxLocals = 1 := hml0
  have hown : s.vm.findClass "java/lang/String" = some m.cls := findClass_of_methodNamed Bd.named
  have hnm := (name_of_methodNamed Bd.named Bd.method).1
  have X0 : Stand pP l e ({ frames := 0, cells := 0, slots := 0, locals := 0 } : Room) s m #[(.ref x)] below meth cC s₁ [] 0 0 := Stand.of_body Bd
  have e0 : s₁.heap = h0 := by rw [← hh, Bd.state]; rfl
  have N0 := Fr.nil n0
  have KC0 : Keep h0 h0 [] := Keep.refl h0 _
  obtain ⟨A0, hA0⟩ : ∃ z, z = s₁.setTop (entryFrame m #[(.ref x)] 1) := ⟨_, rfl⟩
  have pre0 : ∀ τ, Steps pP.tables e below (s₁.setTop (mkF m 0 #[.val (.ref x)] [])) τ → Steps pP.tables e below A0 τ := fun τ κ => by rw [hA0]; exact castTop (ef_rm_cod0 m x) κ
  obtain ⟨T101, X101, e101, st101⟩ := getS2 X0 hx hZ hown (host := "") (Or.inl (hw _ (List.mem_of_getElem? (i := 46) rfl))) Via.refl e0 (O2.ext X00.2) (g := (mkF m 0 #[.val (.ref x)] [])) rfl (hb hby d_rm_cod0_0)
  have pq102 : ∀ τ, Steps pP.tables e below (T101.setTop (mkF m 3 #[.val (.ref x)] [(.int G1)])) τ → Steps pP.tables e below A0 τ := by
    intro τ κ
    refine pre0 τ ?_
    refine st101 _ ?_
    exact κ
  obtain ⟨T103, X103, e103, st103⟩ := getF X101 hx hZ hown (host := "") (Or.inl (hw _ (List.mem_of_getElem? (i := 31) rfl))) Via.refl e101 F_c (g := (mkF m 7 #[.val (.ref x)] [(.ref x)])) rfl rfl (hb hby d_rm_cod0_7)
  have pq104 : ∀ τ, Steps pP.tables e below (T103.setTop (mkF m 10 #[.val (.ref x)] [(.int (0 : Int32))])) τ → Steps pP.tables e below A0 τ := by
    intro τ κ
    refine pq102 τ ?_
    refine XS.ifNo X101.here hx rfl (hb hby d_rm_cod0_3) rfl ((if0 _ _).trans (feq P5).1) ?_
    refine XS.aloadN X101.here hx rfl (hb hby d_rm_cod0_6) rfl rfl ?_
    refine st103 _ ?_
    exact κ
  obtain ⟨fs, hr, hrun, hended, hW, hsame⟩ := X103.leave (v := some (.int (0 : Int32))) (fun h => by rw [Bd.returns] at h; cases h)
  have pqE := pq104
  rw [hA0] at pqE
  refine ⟨_, _, pqE _ ?_, hrun, hended, _, _, rfl, ?_, ⟨_, rfl⟩, hW, hsame.mono (by decide) (by decide)⟩
  · refine XS.goto X103.here hx rfl (pc0 := 10) (pc' := 14) rfl (hb hby d_rm_cod0_10) (by decide) (by decide) ?_
    show Steps pP.tables e below (T103.setTop (mkF m 14 #[.val (.ref x)] [(.int (0 : Int32))])) _
    exact retN X103 hx (t := .byte) Bd.returns (by simp) (hb hby d_rm_cod0_14) hr
  · show Q_cod0 h0 n0 _ T103.heap _
    rw [e103]
    exact ⟨rfl, N0, rfl⟩
def Q_isl0 (h0 : Heap) (n0 : Nat) (v : Option Value) (h : Heap) (L : List Loc) : Prop := v = some (.int 1) ∧ Fr n0 L ∧ h = h0
theorem d_rm_isl0_0 : decode jdk_42_method_154_code 0 = .ok (.getstatic 38, 3) := by decide +kernel
theorem d_rm_isl0_3 : decode jdk_42_method_154_code 3 = .ok (.ifCond .eq 14, 3) := by decide +kernel
theorem d_rm_isl0_6 : decode jdk_42_method_154_code 6 = .ok (.aload_n 0, 1) := by decide +kernel
theorem d_rm_isl0_7 : decode jdk_42_method_154_code 7 = .ok (.getfield 15, 3) := by decide +kernel
theorem d_rm_isl0_10 : decode jdk_42_method_154_code 10 = .ok (.ifCond .ne 7, 3) := by decide +kernel
theorem d_rm_isl0_13 : decode jdk_42_method_154_code 13 = .ok (.iconst 1, 1) := by decide +kernel
theorem d_rm_isl0_14 : decode jdk_42_method_154_code 14 = .ok (.goto 4, 3) := by decide +kernel
theorem d_rm_isl0_18 : decode jdk_42_method_154_code 18 = .ok (.ireturn, 1) := by decide +kernel
theorem ef_rm_isl0 (m : MethodId) (x0 : Addr) : entryFrame m #[(.ref x0)] 1 = mkF m 0 #[.val (.ref x0)] [] := by first | (simp [entryFrame, mkF, argsToLocals, Value.category]; done) | rfl
set_option maxRecDepth 65536 in
set_option maxHeartbeats 3000000 in
theorem rm_isl0 (l : Launch) (Z : State) (a0 : Array Value) (hw : ∀ d ∈ tables_1, d.before a0 Z = true) (ws : List Jvm.Cond) (x : Addr) (G1 : Int32) (h0 : Heap) (n0 : Nat) (Z0 : n0 ≤ h0.size) (O2 : Sta Z Z.heap "java/lang/String" "COMPACT_STRINGS" "Z" (.int G1)) (P5 : ¬ (G1 = (0 : Int32))) (X00 : Old Z n0 h0) (F_c : Fld Z h0 x "java/lang/String" "coder" "B" (.int 0)) :
    MetFree l (⟨"java/lang/String", "isLatin1", "()Z"⟩ : MethodName) (head1 (Jvm.Cond.code (⟨"java/lang/String", "isLatin1", "()Z"⟩ : MethodName) jdk_42_method_154_code 1 (some .boolean) :: ws) ({ frames := 0, cells := 0, slots := 0, locals := 0 } : Room)) (fun αs U => αs = #[(.ref x)] ∧ Z.Warmed39 U.vm ∧ U.heap = h0) (fun _ _ _ _ _ => True) (fun _ U o U' => ∃ v L, o = .returned v ∧ Q_isl0 h0 n0 v U'.heap L ∧ FrameEnd U o U' L ({ frames := 0, cells := 0, slots := 0, locals := 0 } : Room).cells ({ frames := 0, cells := 0, slots := 0, locals := 0 } : Room).slots) := by
  refine MetFree.of_bodySF (plainFor_of_name pno_2) hisR ?_
  intro pP e s m args below meth cC s₁ Bd hml0 hP hK
  obtain ⟨rfl, hZ, hh⟩ := hP
  have hx := Bd.exec
  have hby := Bd.bytes
  have hml : cC.maxLocals = 1 := hml0
  have hown : s.vm.findClass "java/lang/String" = some m.cls := findClass_of_methodNamed Bd.named
  have hnm := (name_of_methodNamed Bd.named Bd.method).1
  have X0 : Stand pP l e ({ frames := 0, cells := 0, slots := 0, locals := 0 } : Room) s m #[(.ref x)] below meth cC s₁ [] 0 0 := Stand.of_body Bd
  have e0 : s₁.heap = h0 := by rw [← hh, Bd.state]; rfl
  have N0 := Fr.nil n0
  have KC0 : Keep h0 h0 [] := Keep.refl h0 _
  obtain ⟨A0, hA0⟩ : ∃ z, z = s₁.setTop (entryFrame m #[(.ref x)] 1) := ⟨_, rfl⟩
  have pre0 : ∀ τ, Steps pP.tables e below (s₁.setTop (mkF m 0 #[.val (.ref x)] [])) τ → Steps pP.tables e below A0 τ := fun τ κ => by rw [hA0]; exact castTop (ef_rm_isl0 m x) κ
  obtain ⟨T101, X101, e101, st101⟩ := getS2 X0 hx hZ hown (host := "") (Or.inl (hw _ (List.mem_of_getElem? (i := 46) rfl))) Via.refl e0 (O2.ext X00.2) (g := (mkF m 0 #[.val (.ref x)] [])) rfl (hb hby d_rm_isl0_0)
  have pq102 : ∀ τ, Steps pP.tables e below (T101.setTop (mkF m 3 #[.val (.ref x)] [(.int G1)])) τ → Steps pP.tables e below A0 τ := by
    intro τ κ
    refine pre0 τ ?_
    refine st101 _ ?_
    exact κ
  obtain ⟨T103, X103, e103, st103⟩ := getF X101 hx hZ hown (host := "") (Or.inl (hw _ (List.mem_of_getElem? (i := 31) rfl))) Via.refl e101 F_c (g := (mkF m 7 #[.val (.ref x)] [(.ref x)])) rfl rfl (hb hby d_rm_isl0_7)
  have pq104 : ∀ τ, Steps pP.tables e below (T103.setTop (mkF m 10 #[.val (.ref x)] [(.int (0 : Int32))])) τ → Steps pP.tables e below A0 τ := by
    intro τ κ
    refine pq102 τ ?_
    refine XS.ifNo X101.here hx rfl (hb hby d_rm_isl0_3) rfl ((if0 _ _).trans (feq P5).1) ?_
    refine XS.aloadN X101.here hx rfl (hb hby d_rm_isl0_6) rfl rfl ?_
    refine st103 _ ?_
    exact κ
  obtain ⟨fs, hr, hrun, hended, hW, hsame⟩ := X103.leave (v := some (.int (1 : Int32))) (fun h => by rw [Bd.returns] at h; cases h)
  have pqE := pq104
  rw [hA0] at pqE
  refine ⟨_, _, pqE _ ?_, hrun, hended, _, _, rfl, ?_, ⟨_, rfl⟩, hW, hsame.mono (by decide) (by decide)⟩
  · refine XS.ifNo X103.here hx rfl (hb hby d_rm_isl0_10) rfl ((if0 _ _).trans (teq (by decide : ((0 : Int32) = (0 : Int32)))).2) ?_
    refine XS.iconst X103.here hx rfl (hb hby d_rm_isl0_13) ?_
    refine XS.goto X103.here hx rfl (pc0 := 14) (pc' := 18) rfl (hb hby d_rm_isl0_14) (by decide) (by decide) ?_
    show Steps pP.tables e below (T103.setTop (mkF m 18 #[.val (.ref x)] [(.int (1 : Int32))])) _
    exact retN X103 hx (t := .boolean) Bd.returns (by simp) (hb hby d_rm_isl0_18) hr
  · show Q_isl0 h0 n0 _ T103.heap _
    rw [e103]
    exact ⟨rfl, N0, rfl⟩
def Q_cod1 (h0 : Heap) (n0 : Nat) (v : Option Value) (h : Heap) (L : List Loc) : Prop := v = some (.int 1) ∧ Fr n0 L ∧ h = h0
theorem d_rm_cod1_0 : decode jdk_42_method_152_code 0 = .ok (.getstatic 38, 3) := by decide +kernel
theorem d_rm_cod1_3 : decode jdk_42_method_152_code 3 = .ok (.ifCond .eq 10, 3) := by decide +kernel
theorem d_rm_cod1_6 : decode jdk_42_method_152_code 6 = .ok (.aload_n 0, 1) := by decide +kernel
theorem d_rm_cod1_7 : decode jdk_42_method_152_code 7 = .ok (.getfield 15, 3) := by decide +kernel
theorem d_rm_cod1_10 : decode jdk_42_method_152_code 10 = .ok (.goto 4, 3) := by decide +kernel
theorem d_rm_cod1_14 : decode jdk_42_method_152_code 14 = .ok (.ireturn, 1) := by decide +kernel
theorem ef_rm_cod1 (m : MethodId) (x0 : Addr) : entryFrame m #[(.ref x0)] 1 = mkF m 0 #[.val (.ref x0)] [] := by first | (simp [entryFrame, mkF, argsToLocals, Value.category]; done) | rfl
set_option maxRecDepth 65536 in
set_option maxHeartbeats 3000000 in
theorem rm_cod1 (l : Launch) (Z : State) (a0 : Array Value) (hw : ∀ d ∈ tables_1, d.before a0 Z = true) (ws : List Jvm.Cond) (x : Addr) (G1 : Int32) (h0 : Heap) (n0 : Nat) (Z0 : n0 ≤ h0.size) (O2 : Sta Z Z.heap "java/lang/String" "COMPACT_STRINGS" "Z" (.int G1)) (P5 : ¬ (G1 = (0 : Int32))) (X00 : Old Z n0 h0) (F_c : Fld Z h0 x "java/lang/String" "coder" "B" (.int 1)) :
    MetFree l (⟨"java/lang/String", "coder", "()B"⟩ : MethodName) (head1 (Jvm.Cond.code (⟨"java/lang/String", "coder", "()B"⟩ : MethodName) jdk_42_method_152_code 1 (some .byte) :: ws) ({ frames := 0, cells := 0, slots := 0, locals := 0 } : Room)) (fun αs U => αs = #[(.ref x)] ∧ Z.Warmed39 U.vm ∧ U.heap = h0) (fun _ _ _ _ _ => True) (fun _ U o U' => ∃ v L, o = .returned v ∧ Q_cod1 h0 n0 v U'.heap L ∧ FrameEnd U o U' L ({ frames := 0, cells := 0, slots := 0, locals := 0 } : Room).cells ({ frames := 0, cells := 0, slots := 0, locals := 0 } : Room).slots) := by
  refine MetFree.of_bodySF (plainFor_of_name pno_2) hisR ?_
  intro pP e s m args below meth cC s₁ Bd hml0 hP hK
  obtain ⟨rfl, hZ, hh⟩ := hP
  have hx := Bd.exec
  have hby := Bd.bytes
  have hml : cC.maxLocals = 1 := hml0
  have hown : s.vm.findClass "java/lang/String" = some m.cls := findClass_of_methodNamed Bd.named
  have hnm := (name_of_methodNamed Bd.named Bd.method).1
  have X0 : Stand pP l e ({ frames := 0, cells := 0, slots := 0, locals := 0 } : Room) s m #[(.ref x)] below meth cC s₁ [] 0 0 := Stand.of_body Bd
  have e0 : s₁.heap = h0 := by rw [← hh, Bd.state]; rfl
  have N0 := Fr.nil n0
  have KC0 : Keep h0 h0 [] := Keep.refl h0 _
  obtain ⟨A0, hA0⟩ : ∃ z, z = s₁.setTop (entryFrame m #[(.ref x)] 1) := ⟨_, rfl⟩
  have pre0 : ∀ τ, Steps pP.tables e below (s₁.setTop (mkF m 0 #[.val (.ref x)] [])) τ → Steps pP.tables e below A0 τ := fun τ κ => by rw [hA0]; exact castTop (ef_rm_cod1 m x) κ
  obtain ⟨T101, X101, e101, st101⟩ := getS2 X0 hx hZ hown (host := "") (Or.inl (hw _ (List.mem_of_getElem? (i := 46) rfl))) Via.refl e0 (O2.ext X00.2) (g := (mkF m 0 #[.val (.ref x)] [])) rfl (hb hby d_rm_cod1_0)
  have pq102 : ∀ τ, Steps pP.tables e below (T101.setTop (mkF m 3 #[.val (.ref x)] [(.int G1)])) τ → Steps pP.tables e below A0 τ := by
    intro τ κ
    refine pre0 τ ?_
    refine st101 _ ?_
    exact κ
  obtain ⟨T103, X103, e103, st103⟩ := getF X101 hx hZ hown (host := "") (Or.inl (hw _ (List.mem_of_getElem? (i := 31) rfl))) Via.refl e101 F_c (g := (mkF m 7 #[.val (.ref x)] [(.ref x)])) rfl rfl (hb hby d_rm_cod1_7)
  have pq104 : ∀ τ, Steps pP.tables e below (T103.setTop (mkF m 10 #[.val (.ref x)] [(.int (1 : Int32))])) τ → Steps pP.tables e below A0 τ := by
    intro τ κ
    refine pq102 τ ?_
    refine XS.ifNo X101.here hx rfl (hb hby d_rm_cod1_3) rfl ((if0 _ _).trans (feq P5).1) ?_
    refine XS.aloadN X101.here hx rfl (hb hby d_rm_cod1_6) rfl rfl ?_
    refine st103 _ ?_
    exact κ
  obtain ⟨fs, hr, hrun, hended, hW, hsame⟩ := X103.leave (v := some (.int (1 : Int32))) (fun h => by rw [Bd.returns] at h; cases h)
  have pqE := pq104
  rw [hA0] at pqE
  refine ⟨_, _, pqE _ ?_, hrun, hended, _, _, rfl, ?_, ⟨_, rfl⟩, hW, hsame.mono (by decide) (by decide)⟩
  · refine XS.goto X103.here hx rfl (pc0 := 10) (pc' := 14) rfl (hb hby d_rm_cod1_10) (by decide) (by decide) ?_
    show Steps pP.tables e below (T103.setTop (mkF m 14 #[.val (.ref x)] [(.int (1 : Int32))])) _
    exact retN X103 hx (t := .byte) Bd.returns (by simp) (hb hby d_rm_cod1_14) hr
  · show Q_cod1 h0 n0 _ T103.heap _
    rw [e103]
    exact ⟨rfl, N0, rfl⟩
def Q_isl1 (h0 : Heap) (n0 : Nat) (v : Option Value) (h : Heap) (L : List Loc) : Prop := v = some (.int 0) ∧ Fr n0 L ∧ h = h0
theorem d_rm_isl1_0 : decode jdk_42_method_154_code 0 = .ok (.getstatic 38, 3) := by decide +kernel
theorem d_rm_isl1_3 : decode jdk_42_method_154_code 3 = .ok (.ifCond .eq 14, 3) := by decide +kernel
theorem d_rm_isl1_6 : decode jdk_42_method_154_code 6 = .ok (.aload_n 0, 1) := by decide +kernel
theorem d_rm_isl1_7 : decode jdk_42_method_154_code 7 = .ok (.getfield 15, 3) := by decide +kernel
theorem d_rm_isl1_10 : decode jdk_42_method_154_code 10 = .ok (.ifCond .ne 7, 3) := by decide +kernel
theorem d_rm_isl1_17 : decode jdk_42_method_154_code 17 = .ok (.iconst 0, 1) := by decide +kernel
theorem d_rm_isl1_18 : decode jdk_42_method_154_code 18 = .ok (.ireturn, 1) := by decide +kernel
theorem ef_rm_isl1 (m : MethodId) (x0 : Addr) : entryFrame m #[(.ref x0)] 1 = mkF m 0 #[.val (.ref x0)] [] := by first | (simp [entryFrame, mkF, argsToLocals, Value.category]; done) | rfl
set_option maxRecDepth 65536 in
set_option maxHeartbeats 3000000 in
theorem rm_isl1 (l : Launch) (Z : State) (a0 : Array Value) (hw : ∀ d ∈ tables_1, d.before a0 Z = true) (ws : List Jvm.Cond) (x : Addr) (G1 : Int32) (h0 : Heap) (n0 : Nat) (Z0 : n0 ≤ h0.size) (O2 : Sta Z Z.heap "java/lang/String" "COMPACT_STRINGS" "Z" (.int G1)) (P5 : ¬ (G1 = (0 : Int32))) (X00 : Old Z n0 h0) (F_c : Fld Z h0 x "java/lang/String" "coder" "B" (.int 1)) :
    MetFree l (⟨"java/lang/String", "isLatin1", "()Z"⟩ : MethodName) (head1 (Jvm.Cond.code (⟨"java/lang/String", "isLatin1", "()Z"⟩ : MethodName) jdk_42_method_154_code 1 (some .boolean) :: ws) ({ frames := 0, cells := 0, slots := 0, locals := 0 } : Room)) (fun αs U => αs = #[(.ref x)] ∧ Z.Warmed39 U.vm ∧ U.heap = h0) (fun _ _ _ _ _ => True) (fun _ U o U' => ∃ v L, o = .returned v ∧ Q_isl1 h0 n0 v U'.heap L ∧ FrameEnd U o U' L ({ frames := 0, cells := 0, slots := 0, locals := 0 } : Room).cells ({ frames := 0, cells := 0, slots := 0, locals := 0 } : Room).slots) := by
  refine MetFree.of_bodySF (plainFor_of_name pno_2) hisR ?_
  intro pP e s m args below meth cC s₁ Bd hml0 hP hK
  obtain ⟨rfl, hZ, hh⟩ := hP
  have hx := Bd.exec
  have hby := Bd.bytes
  have hml : cC.maxLocals = 1 := hml0
  have hown : s.vm.findClass "java/lang/String" = some m.cls := findClass_of_methodNamed Bd.named
  have hnm := (name_of_methodNamed Bd.named Bd.method).1
  have X0 : Stand pP l e ({ frames := 0, cells := 0, slots := 0, locals := 0 } : Room) s m #[(.ref x)] below meth cC s₁ [] 0 0 := Stand.of_body Bd
  have e0 : s₁.heap = h0 := by rw [← hh, Bd.state]; rfl
  have N0 := Fr.nil n0
  have KC0 : Keep h0 h0 [] := Keep.refl h0 _
  obtain ⟨A0, hA0⟩ : ∃ z, z = s₁.setTop (entryFrame m #[(.ref x)] 1) := ⟨_, rfl⟩
  have pre0 : ∀ τ, Steps pP.tables e below (s₁.setTop (mkF m 0 #[.val (.ref x)] [])) τ → Steps pP.tables e below A0 τ := fun τ κ => by rw [hA0]; exact castTop (ef_rm_isl1 m x) κ
  obtain ⟨T101, X101, e101, st101⟩ := getS2 X0 hx hZ hown (host := "") (Or.inl (hw _ (List.mem_of_getElem? (i := 46) rfl))) Via.refl e0 (O2.ext X00.2) (g := (mkF m 0 #[.val (.ref x)] [])) rfl (hb hby d_rm_isl1_0)
  have pq102 : ∀ τ, Steps pP.tables e below (T101.setTop (mkF m 3 #[.val (.ref x)] [(.int G1)])) τ → Steps pP.tables e below A0 τ := by
    intro τ κ
    refine pre0 τ ?_
    refine st101 _ ?_
    exact κ
  obtain ⟨T103, X103, e103, st103⟩ := getF X101 hx hZ hown (host := "") (Or.inl (hw _ (List.mem_of_getElem? (i := 31) rfl))) Via.refl e101 F_c (g := (mkF m 7 #[.val (.ref x)] [(.ref x)])) rfl rfl (hb hby d_rm_isl1_7)
  have pq104 : ∀ τ, Steps pP.tables e below (T103.setTop (mkF m 10 #[.val (.ref x)] [(.int (1 : Int32))])) τ → Steps pP.tables e below A0 τ := by
    intro τ κ
    refine pq102 τ ?_
    refine XS.ifNo X101.here hx rfl (hb hby d_rm_isl1_3) rfl ((if0 _ _).trans (feq P5).1) ?_
    refine XS.aloadN X101.here hx rfl (hb hby d_rm_isl1_6) rfl rfl ?_
    refine st103 _ ?_
    exact κ
  obtain ⟨fs, hr, hrun, hended, hW, hsame⟩ := X103.leave (v := some (.int (0 : Int32))) (fun h => by rw [Bd.returns] at h; cases h)
  have pqE := pq104
  rw [hA0] at pqE
  refine ⟨_, _, pqE _ ?_, hrun, hended, _, _, rfl, ?_, ⟨_, rfl⟩, hW, hsame.mono (by decide) (by decide)⟩
  · refine XS.ifYes X103.here hx rfl (pc0 := 10) (pc' := 17) rfl (hb hby d_rm_isl1_10) rfl ((if0 _ _).trans (feq (by decide : ¬ ((1 : Int32) = (0 : Int32)))).2) (by decide) (by decide) ?_
    refine XS.iconst X103.here hx rfl (hb hby d_rm_isl1_17) ?_
    show Steps pP.tables e below (T103.setTop (mkF m 18 #[.val (.ref x)] [(.int (0 : Int32))])) _
    exact retN X103 hx (t := .boolean) Bd.returns (by simp) (hb hby d_rm_isl1_18) hr
  · show Q_isl1 h0 n0 _ T103.heap _
    rw [e103]
    exact ⟨rfl, N0, rfl⟩
def Q_len (cs : List Int32) (h0 : Heap) (n0 : Nat) (v : Option Value) (h : Heap) (L : List Loc) : Prop := v = some (.int (Int32.ofNat (cs).length)) ∧ Fr n0 L ∧ h = h0
theorem d_rm_lenL_0 : decode jdk_42_method_54_code 0 = .ok (.aload_n 0, 1) := by decide +kernel
theorem d_rm_lenL_1 : decode jdk_42_method_54_code 1 = .ok (.getfield 9, 3) := by decide +kernel
theorem d_rm_lenL_4 : decode jdk_42_method_54_code 4 = .ok (.arraylength, 1) := by decide +kernel
theorem d_rm_lenL_5 : decode jdk_42_method_54_code 5 = .ok (.aload_n 0, 1) := by decide +kernel
theorem d_rm_lenL_6 : decode jdk_42_method_54_code 6 = .ok (.invokevirtual 335, 3) := by decide +kernel
theorem d_rm_lenL_9 : decode jdk_42_method_54_code 9 = .ok (.ishr, 1) := by decide +kernel
theorem d_rm_lenL_10 : decode jdk_42_method_54_code 10 = .ok (.ireturn, 1) := by decide +kernel
theorem ef_rm_lenL (m : MethodId) (x0 : Addr) : entryFrame m #[(.ref x0)] 1 = mkF m 0 #[.val (.ref x0)] [] := by first | (simp [entryFrame, mkF, argsToLocals, Value.category]; done) | rfl
set_option maxRecDepth 65536 in
set_option maxHeartbeats 3000000 in
theorem rm_lenL (l : Launch) (Z : State) (a0 : Array Value) (hw : ∀ d ∈ tables_1, d.before a0 Z = true) (ws : List Jvm.Cond) (x t : Addr) (kb : ClassId) (cs : List Int32) (G1 : Int32) (h0 : Heap) (n0 : Nat) (Z0 : n0 ≤ h0.size) (O2 : Sta Z Z.heap "java/lang/String" "COMPACT_STRINGS" "Z" (.int G1)) (P5 : ¬ (G1 = (0 : Int32))) (X00 : Old Z n0 h0) (E_x : Exa Z h0 x "java/lang/String") (F_c : Fld Z h0 x "java/lang/String" "coder" "B" (.int 0)) (F_v : Fld Z h0 x "java/lang/String" "value" "[B" (.ref t)) (V_t : Arv Z h0 t kb .byte (Int32.ofNat (cs).length) (((cs).map (fun c : Int32 => c.toInt8.toInt32)).map Value.int) (.int 0)) (hl : (cs).length ≤ 3) :
    MetFree l (⟨"java/lang/String", "length", "()I"⟩ : MethodName) (head1 (Jvm.Cond.code (⟨"java/lang/String", "length", "()I"⟩ : MethodName) jdk_42_method_54_code 1 (some .int) :: ws) ({ frames := 1, cells := 0, slots := 0, locals := 13 } : Room)) (fun αs U => αs = #[(.ref x)] ∧ Z.Warmed39 U.vm ∧ U.heap = h0) (fun _ _ _ _ _ => True) (fun _ U o U' => ∃ v L, o = .returned v ∧ Q_len cs h0 n0 v U'.heap L ∧ FrameEnd U o U' L ({ frames := 1, cells := 0, slots := 0, locals := 13 } : Room).cells ({ frames := 1, cells := 0, slots := 0, locals := 13 } : Room).slots) := by
  refine MetFree.of_bodySF (plainFor_of_name pno_2) hisR ?_
  intro pP e s m args below meth cC s₁ Bd hml0 hP hK
  obtain ⟨rfl, hZ, hh⟩ := hP
  have hx := Bd.exec
  have hby := Bd.bytes
  have hml : cC.maxLocals = 1 := hml0
  have hown : s.vm.findClass "java/lang/String" = some m.cls := findClass_of_methodNamed Bd.named
  have hnm := (name_of_methodNamed Bd.named Bd.method).1
  have X0 : Stand pP l e ({ frames := 1, cells := 0, slots := 0, locals := 13 } : Room) s m #[(.ref x)] below meth cC s₁ [] 0 0 := Stand.of_body Bd
  have e0 : s₁.heap = h0 := by rw [← hh, Bd.state]; rfl
  have N0 := Fr.nil n0
  have KC0 : Keep h0 h0 [] := Keep.refl h0 _
  obtain ⟨A0, hA0⟩ : ∃ z, z = s₁.setTop (entryFrame m #[(.ref x)] 1) := ⟨_, rfl⟩
  have pre0 : ∀ τ, Steps pP.tables e below (s₁.setTop (mkF m 0 #[.val (.ref x)] [])) τ → Steps pP.tables e below A0 τ := fun τ κ => by rw [hA0]; exact castTop (ef_rm_lenL m x) κ
  obtain ⟨T101, X101, e101, st101⟩ := getF X0 hx hZ hown (host := "") (Or.inl (hw _ (List.mem_of_getElem? (i := 30) rfl))) Via.refl e0 F_v (g := (mkF m 1 #[.val (.ref x)] [(.ref x)])) rfl rfl (hb hby d_rm_lenL_1)
  have pq102 : ∀ τ, Steps pP.tables e below (T101.setTop (mkF m 4 #[.val (.ref x)] [(.ref t)])) τ → Steps pP.tables e below A0 τ := by
    intro τ κ
    refine pre0 τ ?_
    refine XS.aloadN X0.here hx rfl (hb hby d_rm_lenL_0) rfl rfl ?_
    refine st101 _ ?_
    exact κ
  obtain ⟨cl103, Ar103, q103, S103, M103, Hs103, G103⟩ := id V_t
  obtain ⟨cq105, kq105, q105a, q105b, q105c⟩ := isOf hZ e101 E_x
  obtain ⟨_, _, ⟨T104, L104, k104, n104⟩, -, X104, ⟨Lc104, hQ104, l104, y104, z104⟩, st104⟩ := X101.virtualBack hx (y := (⟨"java/lang/String", "coder", "()B"⟩ : MethodName)) (z := (⟨"java/lang/String", "coder", "()B"⟩ : MethodName)) hown (mvT hZ (hw _ (List.mem_of_getElem? (i := 41) rfl))) (mvT hZ (hw _ (List.mem_of_getElem? (i := 42) rfl))) (notFace_of_selects (args := #[]) (mvT hZ (hw _ (List.mem_of_getElem? (i := 44) rfl)))) (mvT hZ (hw _ (List.mem_of_getElem? (i := 44) rfl))) (mvT hZ (hw _ (List.mem_of_getElem? (i := 43) rfl))) (by decide) (backOf (W := 1) (rm_cod0 l Z a0 hw [] x G1 h0 n0 Z0 O2 P5 X00 F_c) hZ (hw _ (List.mem_of_getElem? (i := 45) rfl)) (hw _ (List.mem_of_getElem? (i := 12) rfl)) (by decide) (by decide)) q105a q105c (g := (mkF m 6 #[.val (.ref x)] [(.ref x), (.int (Int32.ofNat (cs).length))])) rfl (by rw [hml]; rfl) (Steps.refl _) (argsL := []) (rest := [(.int (Int32.ofNat (cs).length))]) (lenOf pdo_0 rfl) rfl (by show 2 * 0 + _ ≤ _; exact Nat.le_of_eq rfl) (hb hby d_rm_lenL_6) (fun _ _ => ⟨rfl, e101, (by decide : 0 + 0 ≤ _), (by decide : 0 + 0 ≤ _)⟩)
  dsimp only [Pt.U, Pt.locs, Pt.cells, Pt.slots] at X104 l104 y104 z104 st104 hQ104
  subst l104 y104 z104
  obtain ⟨rfl, Nq104, eq104⟩ := hQ104
  have N104 := Fr.app N0 Nq104
  have pq106 : ∀ τ, Steps pP.tables e below (T104.setTop (mkF m 9 #[.val (.ref x)] [(.int (0 : Int32)), (.int (Int32.ofNat (cs).length))])) τ → Steps pP.tables e below A0 τ := by
    intro τ κ
    refine pq102 τ ?_
    refine X101.arraylength hx (by rw [e101]; exact Ar103.1) (State.isArrayOf_alike hZ.alike Ar103.2.1) (g := (mkF m 4 #[.val (.ref x)] [(.ref t)])) rfl rfl (hb hby d_rm_lenL_4) _ ?_
    rw [len_of S103 M103]
    refine XS.aloadN X101.here hx rfl (hb hby d_rm_lenL_5) rfl rfl ?_
    refine st104.trans ?_
    exact κ
  have pq107 : ∀ τ, Steps pP.tables e below (T104.setTop (mkF m 10 #[.val (.ref x)] [(.int ((Int32.ofNat (cs).length) >>> ((0 : Int32) &&& 31)))])) τ → Steps pP.tables e below A0 τ := by
    intro τ κ
    refine pq106 τ ?_
    refine XS.ishr X104.here hx rfl (hb hby d_rm_lenL_9) rfl ?_
    exact κ
  have pq108 : ∀ τ, Steps pP.tables e below (T104.setTop (mkF m 10 #[.val (.ref x)] [(.int (Int32.ofNat (cs).length))])) τ → Steps pP.tables e below A0 τ := by intro τ κ; refine pq107 τ ?_; rw [show ((Int32.ofNat (cs).length) >>> ((0 : Int32) &&& 31)) = (Int32.ofNat (cs).length) from own_shr0 _]; exact κ
  obtain ⟨fs, hr, hrun, hended, hW, hsame⟩ := X104.leave (v := some (.int (Int32.ofNat (cs).length))) (fun h => by rw [Bd.returns] at h; cases h)
  have pqE := pq108
  rw [hA0] at pqE
  refine ⟨_, _, pqE _ ?_, hrun, hended, _, _, rfl, ?_, ⟨_, rfl⟩, hW, hsame.mono (by decide) (by decide)⟩
  · show Steps pP.tables e below (T104.setTop (mkF m 10 #[.val (.ref x)] [(.int (Int32.ofNat (cs).length))])) _
    exact retOut X104 hx Bd.returns rfl (Or.inl ⟨rfl, Or.inl rfl, _, rfl⟩) (hb hby d_rm_lenL_10) hr
  · show Q_len cs h0 n0 _ T104.heap _
    rw [eq104]
    exact ⟨rfl, N104, rfl⟩
theorem d_rm_lenU_0 : decode jdk_42_method_54_code 0 = .ok (.aload_n 0, 1) := by decide +kernel
theorem d_rm_lenU_1 : decode jdk_42_method_54_code 1 = .ok (.getfield 9, 3) := by decide +kernel
theorem d_rm_lenU_4 : decode jdk_42_method_54_code 4 = .ok (.arraylength, 1) := by decide +kernel
theorem d_rm_lenU_5 : decode jdk_42_method_54_code 5 = .ok (.aload_n 0, 1) := by decide +kernel
theorem d_rm_lenU_6 : decode jdk_42_method_54_code 6 = .ok (.invokevirtual 335, 3) := by decide +kernel
theorem d_rm_lenU_9 : decode jdk_42_method_54_code 9 = .ok (.ishr, 1) := by decide +kernel
theorem d_rm_lenU_10 : decode jdk_42_method_54_code 10 = .ok (.ireturn, 1) := by decide +kernel
theorem ef_rm_lenU (m : MethodId) (x0 : Addr) : entryFrame m #[(.ref x0)] 1 = mkF m 0 #[.val (.ref x0)] [] := by first | (simp [entryFrame, mkF, argsToLocals, Value.category]; done) | rfl
set_option maxRecDepth 65536 in
set_option maxHeartbeats 3000000 in
theorem rm_lenU (l : Launch) (Z : State) (a0 : Array Value) (hw : ∀ d ∈ tables_1, d.before a0 Z = true) (ws : List Jvm.Cond) (x t : Addr) (kb : ClassId) (cs : List Int32) (vs : List Value) (G1 : Int32) (h0 : Heap) (n0 : Nat) (Z0 : n0 ≤ h0.size) (O2 : Sta Z Z.heap "java/lang/String" "COMPACT_STRINGS" "Z" (.int G1)) (P5 : ¬ (G1 = (0 : Int32))) (X00 : Old Z n0 h0) (E_x : Exa Z h0 x "java/lang/String") (F_c : Fld Z h0 x "java/lang/String" "coder" "B" (.int 1)) (F_v : Fld Z h0 x "java/lang/String" "value" "[B" (.ref t)) (V_t : Arv Z h0 t kb .byte (Int32.ofNat (2 * (cs).length)) vs (.int 0)) (hu : own_u16 vs cs) (hl : (cs).length ≤ 3) :
    MetFree l (⟨"java/lang/String", "length", "()I"⟩ : MethodName) (head1 (Jvm.Cond.code (⟨"java/lang/String", "length", "()I"⟩ : MethodName) jdk_42_method_54_code 1 (some .int) :: ws) ({ frames := 1, cells := 0, slots := 0, locals := 13 } : Room)) (fun αs U => αs = #[(.ref x)] ∧ Z.Warmed39 U.vm ∧ U.heap = h0) (fun _ _ _ _ _ => True) (fun _ U o U' => ∃ v L, o = .returned v ∧ Q_len cs h0 n0 v U'.heap L ∧ FrameEnd U o U' L ({ frames := 1, cells := 0, slots := 0, locals := 13 } : Room).cells ({ frames := 1, cells := 0, slots := 0, locals := 13 } : Room).slots) := by
  refine MetFree.of_bodySF (plainFor_of_name pno_2) hisR ?_
  intro pP e s m args below meth cC s₁ Bd hml0 hP hK
  obtain ⟨rfl, hZ, hh⟩ := hP
  have hx := Bd.exec
  have hby := Bd.bytes
  have hml : cC.maxLocals = 1 := hml0
  have hown : s.vm.findClass "java/lang/String" = some m.cls := findClass_of_methodNamed Bd.named
  have hnm := (name_of_methodNamed Bd.named Bd.method).1
  have X0 : Stand pP l e ({ frames := 1, cells := 0, slots := 0, locals := 13 } : Room) s m #[(.ref x)] below meth cC s₁ [] 0 0 := Stand.of_body Bd
  have e0 : s₁.heap = h0 := by rw [← hh, Bd.state]; rfl
  have N0 := Fr.nil n0
  have KC0 : Keep h0 h0 [] := Keep.refl h0 _
  obtain ⟨A0, hA0⟩ : ∃ z, z = s₁.setTop (entryFrame m #[(.ref x)] 1) := ⟨_, rfl⟩
  have pre0 : ∀ τ, Steps pP.tables e below (s₁.setTop (mkF m 0 #[.val (.ref x)] [])) τ → Steps pP.tables e below A0 τ := fun τ κ => by rw [hA0]; exact castTop (ef_rm_lenU m x) κ
  obtain ⟨T101, X101, e101, st101⟩ := getF X0 hx hZ hown (host := "") (Or.inl (hw _ (List.mem_of_getElem? (i := 30) rfl))) Via.refl e0 F_v (g := (mkF m 1 #[.val (.ref x)] [(.ref x)])) rfl rfl (hb hby d_rm_lenU_1)
  have pq102 : ∀ τ, Steps pP.tables e below (T101.setTop (mkF m 4 #[.val (.ref x)] [(.ref t)])) τ → Steps pP.tables e below A0 τ := by
    intro τ κ
    refine pre0 τ ?_
    refine XS.aloadN X0.here hx rfl (hb hby d_rm_lenU_0) rfl rfl ?_
    refine st101 _ ?_
    exact κ
  obtain ⟨cl103, Ar103, q103, S103, M103, Hs103, G103⟩ := id V_t
  obtain ⟨cq105, kq105, q105a, q105b, q105c⟩ := isOf hZ e101 E_x
  obtain ⟨_, _, ⟨T104, L104, k104, n104⟩, -, X104, ⟨Lc104, hQ104, l104, y104, z104⟩, st104⟩ := X101.virtualBack hx (y := (⟨"java/lang/String", "coder", "()B"⟩ : MethodName)) (z := (⟨"java/lang/String", "coder", "()B"⟩ : MethodName)) hown (mvT hZ (hw _ (List.mem_of_getElem? (i := 41) rfl))) (mvT hZ (hw _ (List.mem_of_getElem? (i := 42) rfl))) (notFace_of_selects (args := #[]) (mvT hZ (hw _ (List.mem_of_getElem? (i := 44) rfl)))) (mvT hZ (hw _ (List.mem_of_getElem? (i := 44) rfl))) (mvT hZ (hw _ (List.mem_of_getElem? (i := 43) rfl))) (by decide) (backOf (W := 1) (rm_cod1 l Z a0 hw [] x G1 h0 n0 Z0 O2 P5 X00 F_c) hZ (hw _ (List.mem_of_getElem? (i := 45) rfl)) (hw _ (List.mem_of_getElem? (i := 12) rfl)) (by decide) (by decide)) q105a q105c (g := (mkF m 6 #[.val (.ref x)] [(.ref x), (.int (Int32.ofNat (2 * (cs).length)))])) rfl (by rw [hml]; rfl) (Steps.refl _) (argsL := []) (rest := [(.int (Int32.ofNat (2 * (cs).length)))]) (lenOf pdo_0 rfl) rfl (by show 2 * 0 + _ ≤ _; exact Nat.le_of_eq rfl) (hb hby d_rm_lenU_6) (fun _ _ => ⟨rfl, e101, (by decide : 0 + 0 ≤ _), (by decide : 0 + 0 ≤ _)⟩)
  dsimp only [Pt.U, Pt.locs, Pt.cells, Pt.slots] at X104 l104 y104 z104 st104 hQ104
  subst l104 y104 z104
  obtain ⟨rfl, Nq104, eq104⟩ := hQ104
  have N104 := Fr.app N0 Nq104
  have pq106 : ∀ τ, Steps pP.tables e below (T104.setTop (mkF m 9 #[.val (.ref x)] [(.int (1 : Int32)), (.int (Int32.ofNat (2 * (cs).length)))])) τ → Steps pP.tables e below A0 τ := by
    intro τ κ
    refine pq102 τ ?_
    refine X101.arraylength hx (by rw [e101]; exact Ar103.1) (State.isArrayOf_alike hZ.alike Ar103.2.1) (g := (mkF m 4 #[.val (.ref x)] [(.ref t)])) rfl rfl (hb hby d_rm_lenU_4) _ ?_
    rw [len_of S103 M103]
    refine XS.aloadN X101.here hx rfl (hb hby d_rm_lenU_5) rfl rfl ?_
    refine st104.trans ?_
    exact κ
  have pq107 : ∀ τ, Steps pP.tables e below (T104.setTop (mkF m 10 #[.val (.ref x)] [(.int ((Int32.ofNat (2 * (cs).length)) >>> ((1 : Int32) &&& 31)))])) τ → Steps pP.tables e below A0 τ := by
    intro τ κ
    refine pq106 τ ?_
    refine XS.ishr X104.here hx rfl (hb hby d_rm_lenU_9) rfl ?_
    exact κ
  have pq108 : ∀ τ, Steps pP.tables e below (T104.setTop (mkF m 10 #[.val (.ref x)] [(.int (Int32.ofNat (cs).length))])) τ → Steps pP.tables e below A0 τ := by intro τ κ; refine pq107 τ ?_; rw [show ((Int32.ofNat (2 * (cs).length)) >>> ((1 : Int32) &&& 31)) = (Int32.ofNat (cs).length) from own_half hl]; exact κ
  obtain ⟨fs, hr, hrun, hended, hW, hsame⟩ := X104.leave (v := some (.int (Int32.ofNat (cs).length))) (fun h => by rw [Bd.returns] at h; cases h)
  have pqE := pq108
  rw [hA0] at pqE
  refine ⟨_, _, pqE _ ?_, hrun, hended, _, _, rfl, ?_, ⟨_, rfl⟩, hW, hsame.mono (by decide) (by decide)⟩
  · show Steps pP.tables e below (T104.setTop (mkF m 10 #[.val (.ref x)] [(.int (Int32.ofNat (cs).length))])) _
    exact retOut X104 hx Bd.returns rfl (Or.inl ⟨rfl, Or.inl rfl, _, rfl⟩) (hb hby d_rm_lenU_10) hr
  · show Q_len cs h0 n0 _ T104.heap _
    rw [eq104]
    exact ⟨rfl, N104, rfl⟩
set_option maxRecDepth 65536 in
theorem rm_len (l : Launch) (Z : State) (a0 : Array Value) (hw : ∀ d ∈ tables_1, d.before a0 Z = true) (ws : List Jvm.Cond) (x : Addr) (cs : List Int32) (G1 : Int32) (h0 : Heap) (n0 : Nat) (Z0 : n0 ≤ h0.size) (O2 : Sta Z Z.heap "java/lang/String" "COMPACT_STRINGS" "Z" (.int G1)) (P5 : ¬ (G1 = (0 : Int32))) (X00 : Old Z n0 h0) (hl : (cs).length ≤ 3) (U : UStr Z h0 x cs) :
    MetFree l (⟨"java/lang/String", "length", "()I"⟩ : MethodName) (head1 (Jvm.Cond.code (⟨"java/lang/String", "length", "()I"⟩ : MethodName) jdk_42_method_54_code 1 (some .int) :: ws) ({ frames := 1, cells := 0, slots := 0, locals := 13 } : Room)) (fun αs U => αs = #[(.ref x)] ∧ Z.Warmed39 U.vm ∧ U.heap = h0) (fun _ _ _ _ _ => True) (fun _ U o U' => ∃ v L, o = .returned v ∧ Q_len cs h0 n0 v U'.heap L ∧ FrameEnd U o U' L ({ frames := 1, cells := 0, slots := 0, locals := 13 } : Room).cells ({ frames := 1, cells := 0, slots := 0, locals := 13 } : Room).slots) := by
  obtain ⟨t, kb, E, Fv, ⟨Fc, Vt, hp⟩ | ⟨Fc, vs, Vt, hu, hp⟩⟩ := U
  · exact rm_lenL l Z a0 hw ws x t kb cs G1 h0 n0 Z0 O2 P5 X00 E Fc Fv Vt hl
  · exact rm_lenU l Z a0 hw ws x t kb cs vs G1 h0 n0 Z0 O2 P5 X00 E Fc Fv Vt hu hl
def Q_pci (i : Int32) (h0 : Heap) (n0 : Nat) (v : Option Value) (h : Heap) (L : List Loc) : Prop := v = some (.int i) ∧ Fr n0 L ∧ h = h0
theorem d_rm_pci_0 : decode jdk_41_method_11_code 0 = .ok (.iload_n 0, 1) := by decide +kernel
theorem d_rm_pci_1 : decode jdk_41_method_11_code 1 = .ok (.ifCond .lt 8, 3) := by decide +kernel
theorem d_rm_pci_4 : decode jdk_41_method_11_code 4 = .ok (.iload_n 0, 1) := by decide +kernel
theorem d_rm_pci_5 : decode jdk_41_method_11_code 5 = .ok (.iload_n 1, 1) := by decide +kernel
theorem d_rm_pci_6 : decode jdk_41_method_11_code 6 = .ok (.if_icmp .lt 10, 3) := by decide +kernel
theorem d_rm_pci_16 : decode jdk_41_method_11_code 16 = .ok (.iload_n 0, 1) := by decide +kernel
theorem d_rm_pci_17 : decode jdk_41_method_11_code 17 = .ok (.ireturn, 1) := by decide +kernel
theorem ef_rm_pci (m : MethodId) (x0 : Int32) (x1 : Int32) (x2 : Value) (cx2 : x2.isRef = true) : entryFrame m #[(.int x0), (.int x1), x2] 3 = mkF m 0 #[.val (.int x0), .val (.int x1), .val x2] [] := by rcases ref_cases cx2 with rfl | ⟨_, rfl⟩ <;> (first | (simp [entryFrame, mkF, argsToLocals, Value.category]; done) | rfl)
set_option maxRecDepth 65536 in
set_option maxHeartbeats 3000000 in
theorem rm_pci (l : Launch) (Z : State) (a0 : Array Value) (hw : ∀ d ∈ tables_1, d.before a0 Z = true) (ws : List Jvm.Cond) (i n : Int32) (G3 : Value) (h0 : Heap) (n0 : Nat) (Z0 : n0 ≤ h0.size) (rG3 : G3.isRef = true) (h1 : ¬ i < (0 : Int32)) (h2 : i < n) :
    MetFree l (⟨"jdk/internal/util/Preconditions", "checkIndex", "(IILjava/util/function/BiFunction;)I"⟩ : MethodName) (head1 (Jvm.Cond.code (⟨"jdk/internal/util/Preconditions", "checkIndex", "(IILjava/util/function/BiFunction;)I"⟩ : MethodName) jdk_41_method_11_code 3 (some .int) :: ws) ({ frames := 0, cells := 0, slots := 0, locals := 0 } : Room)) (fun αs U => αs = #[(.int i), (.int n), G3] ∧ Z.Warmed39 U.vm ∧ U.heap = h0) (fun _ _ _ _ _ => True) (fun _ U o U' => ∃ v L, o = .returned v ∧ Q_pci i h0 n0 v U'.heap L ∧ FrameEnd U o U' L ({ frames := 0, cells := 0, slots := 0, locals := 0 } : Room).cells ({ frames := 0, cells := 0, slots := 0, locals := 0 } : Room).slots) := by
  refine MetFree.of_bodySF (plainFor_of_name pno_3) hisR ?_
  intro pP e s m args below meth cC s₁ Bd hml0 hP hK
  obtain ⟨rfl, hZ, hh⟩ := hP
  have hx := Bd.exec
  have hby := Bd.bytes
  have hml : cC.maxLocals = 3 := hml0
  have hown : s.vm.findClass "jdk/internal/util/Preconditions" = some m.cls := findClass_of_methodNamed Bd.named
  have hnm := (name_of_methodNamed Bd.named Bd.method).1
  have X0 : Stand pP l e ({ frames := 0, cells := 0, slots := 0, locals := 0 } : Room) s m #[(.int i), (.int n), G3] below meth cC s₁ [] 0 0 := Stand.of_body Bd
  have e0 : s₁.heap = h0 := by rw [← hh, Bd.state]; rfl
  have N0 := Fr.nil n0
  have KC0 : Keep h0 h0 [] := Keep.refl h0 _
  obtain ⟨A0, hA0⟩ : ∃ z, z = s₁.setTop (entryFrame m #[(.int i), (.int n), G3] 3) := ⟨_, rfl⟩
  have pre0 : ∀ τ, Steps pP.tables e below (s₁.setTop (mkF m 0 #[.val (.int i), .val (.int n), .val G3] [])) τ → Steps pP.tables e below A0 τ := fun τ κ => by rw [hA0]; exact castTop (ef_rm_pci m i n G3 rG3) κ
  obtain ⟨fs, hr, hrun, hended, hW, hsame⟩ := X0.leave (v := some (.int i)) (fun h => by rw [Bd.returns] at h; cases h)
  have pqE := pre0
  rw [hA0] at pqE
  refine ⟨_, _, pqE _ ?_, hrun, hended, _, _, rfl, ?_, ⟨_, rfl⟩, hW, hsame.mono (by decide) (by decide)⟩
  · refine XS.iloadN X0.here hx rfl (hb hby d_rm_pci_0) rfl ?_
    refine XS.ifNo X0.here hx rfl (hb hby d_rm_pci_1) rfl ((if0 _ _).trans (flt h1).1) ?_
    refine XS.iloadN X0.here hx rfl (hb hby d_rm_pci_4) rfl ?_
    refine XS.iloadN X0.here hx rfl (hb hby d_rm_pci_5) rfl ?_
    refine XS.icmpYes X0.here hx rfl (pc0 := 6) (pc' := 16) rfl (hb hby d_rm_pci_6) rfl (tlt h2).1 (by decide) (by decide) ?_
    refine XS.iloadN X0.here hx rfl (hb hby d_rm_pci_16) rfl ?_
    show Steps pP.tables e below (s₁.setTop (mkF m 17 #[.val (.int i), .val (.int n), .val G3] [(.int i)])) _
    exact retOut X0 hx Bd.returns rfl (Or.inl ⟨rfl, Or.inl rfl, _, rfl⟩) (hb hby d_rm_pci_17) hr
  · show Q_pci i h0 n0 _ s₁.heap _
    rw [e0]
    exact ⟨rfl, N0, rfl⟩
def Q_sci (h0 : Heap) (n0 : Nat) (v : Option Value) (h : Heap) (L : List Loc) : Prop := v = none ∧ Fr n0 L ∧ h = h0
theorem d_rm_sci_0 : decode jdk_42_method_155_code 0 = .ok (.iload_n 0, 1) := by decide +kernel
theorem d_rm_sci_1 : decode jdk_42_method_155_code 1 = .ok (.iload_n 1, 1) := by decide +kernel
theorem d_rm_sci_2 : decode jdk_42_method_155_code 2 = .ok (.getstatic 1053, 3) := by decide +kernel
theorem d_rm_sci_5 : decode jdk_42_method_155_code 5 = .ok (.invokestatic 1059, 3) := by decide +kernel
theorem d_rm_sci_8 : decode jdk_42_method_155_code 8 = .ok (.pop, 1) := by decide +kernel
theorem d_rm_sci_9 : decode jdk_42_method_155_code 9 = .ok (.return_, 1) := by decide +kernel
theorem ef_rm_sci (m : MethodId) (x0 : Int32) (x1 : Int32) : entryFrame m #[(.int x0), (.int x1)] 2 = mkF m 0 #[.val (.int x0), .val (.int x1)] [] := by first | (simp [entryFrame, mkF, argsToLocals, Value.category]; done) | rfl
set_option maxRecDepth 65536 in
set_option maxHeartbeats 3000000 in
theorem rm_sci (l : Launch) (Z : State) (a0 : Array Value) (hw : ∀ d ∈ tables_1, d.before a0 Z = true) (ws : List Jvm.Cond) (i n : Int32) (G3 : Value) (h0 : Heap) (n0 : Nat) (Z0 : n0 ≤ h0.size) (O4 : Sta Z Z.heap "jdk/internal/util/Preconditions" "SIOOBE_FORMATTER" "Ljava/util/function/BiFunction;" G3) (rG3 : G3.isRef = true) (X00 : Old Z n0 h0) (h1 : ¬ i < (0 : Int32)) (h2 : i < n) :
    MetFree l (⟨"java/lang/String", "checkIndex", "(II)V"⟩ : MethodName) (head1 (Jvm.Cond.code (⟨"java/lang/String", "checkIndex", "(II)V"⟩ : MethodName) jdk_42_method_155_code 2 none :: ws) ({ frames := 1, cells := 0, slots := 0, locals := 14 } : Room)) (fun αs U => αs = #[(.int i), (.int n)] ∧ Z.Warmed39 U.vm ∧ U.heap = h0) (fun _ _ _ _ _ => True) (fun _ U o U' => ∃ v L, o = .returned v ∧ Q_sci h0 n0 v U'.heap L ∧ FrameEnd U o U' L ({ frames := 1, cells := 0, slots := 0, locals := 14 } : Room).cells ({ frames := 1, cells := 0, slots := 0, locals := 14 } : Room).slots) := by
  refine MetFree.of_bodySF (plainFor_of_name pno_2) hisR ?_
  intro pP e s m args below meth cC s₁ Bd hml0 hP hK
  obtain ⟨rfl, hZ, hh⟩ := hP
  have hx := Bd.exec
  have hby := Bd.bytes
  have hml : cC.maxLocals = 2 := hml0
  have hown : s.vm.findClass "java/lang/String" = some m.cls := findClass_of_methodNamed Bd.named
  have hnm := (name_of_methodNamed Bd.named Bd.method).1
  have X0 : Stand pP l e ({ frames := 1, cells := 0, slots := 0, locals := 14 } : Room) s m #[(.int i), (.int n)] below meth cC s₁ [] 0 0 := Stand.of_body Bd
  have e0 : s₁.heap = h0 := by rw [← hh, Bd.state]; rfl
  have N0 := Fr.nil n0
  have KC0 : Keep h0 h0 [] := Keep.refl h0 _
  obtain ⟨A0, hA0⟩ : ∃ z, z = s₁.setTop (entryFrame m #[(.int i), (.int n)] 2) := ⟨_, rfl⟩
  have pre0 : ∀ τ, Steps pP.tables e below (s₁.setTop (mkF m 0 #[.val (.int i), .val (.int n)] [])) τ → Steps pP.tables e below A0 τ := fun τ κ => by rw [hA0]; exact castTop (ef_rm_sci m i n) κ
  obtain ⟨T101, X101, e101, st101⟩ := getS2 X0 hx hZ hown (host := "") (Or.inl (hw _ (List.mem_of_getElem? (i := 96) rfl))) Via.refl e0 (O4.ext X00.2) (g := (mkF m 2 #[.val (.int i), .val (.int n)] [(.int n), (.int i)])) rfl (hb hby d_rm_sci_2)
  have pq102 : ∀ τ, Steps pP.tables e below (T101.setTop (mkF m 5 #[.val (.int i), .val (.int n)] [G3, (.int n), (.int i)])) τ → Steps pP.tables e below A0 τ := by
    intro τ κ
    refine pre0 τ ?_
    refine XS.iloadN X0.here hx rfl (hb hby d_rm_sci_0) rfl ?_
    refine XS.iloadN X0.here hx rfl (hb hby d_rm_sci_1) rfl ?_
    refine st101 _ ?_
    exact κ
  obtain ⟨_, _, ⟨T103, L103, k103, n103⟩, -, X103, ⟨Lc103, hQ103, l103, y103, z103⟩, st103⟩ := Jvm.LawKit.callS X101 hx (y := (⟨"jdk/internal/util/Preconditions", "checkIndex", "(IILjava/util/function/BiFunction;)I"⟩ : MethodName)) hown (mvT hZ (hw _ (List.mem_of_getElem? (i := 98) rfl))) (mvT hZ (hw _ (List.mem_of_getElem? (i := 99) rfl))) (mvT hZ (hw _ (List.mem_of_getElem? (i := 97) rfl))) (mvT hZ (hw _ (List.mem_of_getElem? (i := 100) rfl))) (by decide) (backOf (W := 0) (rm_pci l Z a0 hw [] i n G3 h0 n0 Z0 rG3 h1 h2) hZ (hw _ (List.mem_of_getElem? (i := 100) rfl)) (hw _ (List.mem_of_getElem? (i := 97) rfl)) (by decide) (by decide)) (g := (mkF m 5 #[.val (.int i), .val (.int n)] [G3, (.int n), (.int i)])) rfl (by rw [hml]; rfl) (argsL := [(.int i), (.int n), G3]) (rest := []) (lenOf pdo_1 rfl) rfl (by show 2 * 0 + _ ≤ _; exact Nat.le_of_eq rfl) (hb hby d_rm_sci_5) (fun _ _ => ⟨rfl, e101, (by decide : 0 + 0 ≤ _), (by decide : 0 + 0 ≤ _)⟩)
  dsimp only [Pt.U, Pt.locs, Pt.cells, Pt.slots] at X103 l103 y103 z103 st103 hQ103
  subst l103 y103 z103
  obtain ⟨rfl, Nq103, eq103⟩ := hQ103
  have N103 := Fr.app N0 Nq103
  have pq104 : ∀ τ, Steps pP.tables e below (T103.setTop (mkF m 8 #[.val (.int i), .val (.int n)] [(.int i)])) τ → Steps pP.tables e below A0 τ := by
    intro τ κ
    refine pq102 τ ?_
    refine st103 _ ?_
    exact κ
  obtain ⟨fs, hr, hrun, hended, hW, hsame⟩ := X103.leave (v := none) (fun _ => rfl)
  have pqE := pq104
  rw [hA0] at pqE
  refine ⟨_, _, pqE _ ?_, hrun, hended, _, _, rfl, ?_, ⟨_, rfl⟩, hW, hsame.mono (by decide) (by decide)⟩
  · refine XS.pop X103.here hx rfl (hb hby d_rm_sci_8) rfl rfl ?_
    show Steps pP.tables e below (T103.setTop (mkF m 9 #[.val (.int i), .val (.int n)] [])) _
    exact X103.returnOut hx Bd.returns (hb hby d_rm_sci_9) hr
  · show Q_sci h0 n0 _ T103.heap _
    rw [eq103]
    exact ⟨rfl, N103, rfl⟩
def Q_cha (cs : List Int32) (i : Nat) (h0 : Heap) (n0 : Nat) (v : Option Value) (h : Heap) (L : List Loc) : Prop := v = some (.int (cs.getD i 0)) ∧ Fr n0 L ∧ h = h0
theorem d_rm_lch_0 : decode jdk_43_method_2_code 0 = .ok (.iload_n 1, 1) := by decide +kernel
theorem d_rm_lch_1 : decode jdk_43_method_2_code 1 = .ok (.aload_n 0, 1) := by decide +kernel
theorem d_rm_lch_2 : decode jdk_43_method_2_code 2 = .ok (.arraylength, 1) := by decide +kernel
theorem d_rm_lch_3 : decode jdk_43_method_2_code 3 = .ok (.invokestatic 9, 3) := by decide +kernel
theorem d_rm_lch_6 : decode jdk_43_method_2_code 6 = .ok (.aload_n 0, 1) := by decide +kernel
theorem d_rm_lch_7 : decode jdk_43_method_2_code 7 = .ok (.iload_n 1, 1) := by decide +kernel
theorem d_rm_lch_8 : decode jdk_43_method_2_code 8 = .ok (.baload, 1) := by decide +kernel
theorem d_rm_lch_9 : decode jdk_43_method_2_code 9 = .ok (.sipush 255, 3) := by decide +kernel
theorem d_rm_lch_12 : decode jdk_43_method_2_code 12 = .ok (.iand, 1) := by decide +kernel
theorem d_rm_lch_13 : decode jdk_43_method_2_code 13 = .ok (.i2c, 1) := by decide +kernel
theorem d_rm_lch_14 : decode jdk_43_method_2_code 14 = .ok (.ireturn, 1) := by decide +kernel
theorem ef_rm_lch (m : MethodId) (x0 : Addr) (x1 : Int32) : entryFrame m #[(.ref x0), (.int x1)] 2 = mkF m 0 #[.val (.ref x0), .val (.int x1)] [] := by first | (simp [entryFrame, mkF, argsToLocals, Value.category]; done) | rfl
set_option maxRecDepth 65536 in
set_option maxHeartbeats 3000000 in
theorem rm_lch (l : Launch) (Z : State) (a0 : Array Value) (hw : ∀ d ∈ tables_1, d.before a0 Z = true) (ws : List Jvm.Cond) (t : Addr) (kb : ClassId) (cs : List Int32) (i : Nat) (G3 : Value) (h0 : Heap) (n0 : Nat) (Z0 : n0 ≤ h0.size) (O4 : Sta Z Z.heap "jdk/internal/util/Preconditions" "SIOOBE_FORMATTER" "Ljava/util/function/BiFunction;" G3) (rG3 : G3.isRef = true) (X00 : Old Z n0 h0) (V_t : Arv Z h0 t kb .byte (Int32.ofNat (cs).length) (((cs).map (fun c : Int32 => c.toInt8.toInt32)).map Value.int) (.int 0)) (hp : ∀ c ∈ cs, ¬ c < 0 ∧ ¬ (255 : Int32) < c) (hl : (cs).length ≤ 3) (hi : i < (cs).length) :
    MetFree l (⟨"java/lang/StringLatin1", "charAt", "([BI)C"⟩ : MethodName) (head1 (Jvm.Cond.code (⟨"java/lang/StringLatin1", "charAt", "([BI)C"⟩ : MethodName) jdk_43_method_2_code 2 (some .char) :: ws) ({ frames := 2, cells := 0, slots := 0, locals := 27 } : Room)) (fun αs U => αs = #[(.ref t), (.int (Int32.ofNat i))] ∧ Z.Warmed39 U.vm ∧ U.heap = h0) (fun _ _ _ _ _ => True) (fun _ U o U' => ∃ v L, o = .returned v ∧ Q_cha cs i h0 n0 v U'.heap L ∧ FrameEnd U o U' L ({ frames := 2, cells := 0, slots := 0, locals := 27 } : Room).cells ({ frames := 2, cells := 0, slots := 0, locals := 27 } : Room).slots) := by
  refine MetFree.of_bodySF (plainFor_of_name pno_4) hisR ?_
  intro pP e s m args below meth cC s₁ Bd hml0 hP hK
  obtain ⟨rfl, hZ, hh⟩ := hP
  have hx := Bd.exec
  have hby := Bd.bytes
  have hml : cC.maxLocals = 2 := hml0
  have hown : s.vm.findClass "java/lang/StringLatin1" = some m.cls := findClass_of_methodNamed Bd.named
  have hnm := (name_of_methodNamed Bd.named Bd.method).1
  have X0 : Stand pP l e ({ frames := 2, cells := 0, slots := 0, locals := 27 } : Room) s m #[(.ref t), (.int (Int32.ofNat i))] below meth cC s₁ [] 0 0 := Stand.of_body Bd
  have e0 : s₁.heap = h0 := by rw [← hh, Bd.state]; rfl
  have N0 := Fr.nil n0
  have KC0 : Keep h0 h0 [] := Keep.refl h0 _
  obtain ⟨A0, hA0⟩ : ∃ z, z = s₁.setTop (entryFrame m #[(.ref t), (.int (Int32.ofNat i))] 2) := ⟨_, rfl⟩
  have pre0 : ∀ τ, Steps pP.tables e below (s₁.setTop (mkF m 0 #[.val (.ref t), .val (.int (Int32.ofNat i))] [])) τ → Steps pP.tables e below A0 τ := fun τ κ => by rw [hA0]; exact castTop (ef_rm_lch m t (Int32.ofNat i)) κ
  obtain ⟨cl101, Ar101, q101, S101, M101, Hs101, G101⟩ := id V_t
  obtain ⟨_, _, ⟨T102, L102, k102, n102⟩, -, X102, ⟨Lc102, hQ102, l102, y102, z102⟩, st102⟩ := Jvm.LawKit.callS X0 hx (y := (⟨"java/lang/String", "checkIndex", "(II)V"⟩ : MethodName)) hown (mvT hZ (hw _ (List.mem_of_getElem? (i := 93) rfl))) (mvT hZ (hw _ (List.mem_of_getElem? (i := 94) rfl))) (mvT hZ (hw _ (List.mem_of_getElem? (i := 12) rfl))) (mvT hZ (hw _ (List.mem_of_getElem? (i := 95) rfl))) (by decide) (backOf (W := 0) (rm_sci l Z a0 hw [] (Int32.ofNat i) (Int32.ofNat (cs).length) G3 h0 n0 Z0 O4 rG3 X00 (own_nn (by omega)) ((own_ltN (by omega) (by omega : (cs).length < 2 ^ 31)).mpr hi)) hZ (hw _ (List.mem_of_getElem? (i := 95) rfl)) (hw _ (List.mem_of_getElem? (i := 12) rfl)) (by decide) (by decide)) (g := (mkF m 3 #[.val (.ref t), .val (.int (Int32.ofNat i))] [(.int (Int32.ofNat (cs).length)), (.int (Int32.ofNat i))])) rfl (by rw [hml]; rfl) (argsL := [(.int (Int32.ofNat i)), (.int (Int32.ofNat (cs).length))]) (rest := []) (lenOf pdo_2 rfl) rfl (by show 2 * 0 + _ ≤ _; exact Nat.le_of_eq rfl) (hb hby d_rm_lch_3) (fun _ _ => ⟨rfl, e0, (by decide : 0 + 0 ≤ _), (by decide : 0 + 0 ≤ _)⟩)
  dsimp only [Pt.U, Pt.locs, Pt.cells, Pt.slots] at X102 l102 y102 z102 st102 hQ102
  subst l102 y102 z102
  obtain ⟨rfl, Nq102, eq102⟩ := hQ102
  have N102 := Fr.app N0 Nq102
  have pq103 : ∀ τ, Steps pP.tables e below (T102.setTop (mkF m 6 #[.val (.ref t), .val (.int (Int32.ofNat i))] [])) τ → Steps pP.tables e below A0 τ := by
    intro τ κ
    refine pre0 τ ?_
    refine XS.iloadN X0.here hx rfl (hb hby d_rm_lch_0) rfl ?_
    refine XS.aloadN X0.here hx rfl (hb hby d_rm_lch_1) rfl rfl ?_
    refine X0.arraylength hx (by rw [e0]; exact Ar101.1) (State.isArrayOf_alike hZ.alike Ar101.2.1) (g := (mkF m 2 #[.val (.ref t), .val (.int (Int32.ofNat i))] [(.ref t), (.int (Int32.ofNat i))])) rfl rfl (hb hby d_rm_lch_2) _ ?_
    rw [len_of S101 M101]
    refine st102 _ ?_
    exact κ
  obtain ⟨cl104, Ar104, q104, S104, M104, Hs104, G104⟩ := id V_t
  have hin104 := inb_of (j := (Int32.ofNat i)) S104 ⟨own_nn (by omega), ((own_ltN (by omega) (by omega : (cs).length < 2 ^ 31)).mpr hi)⟩
  obtain ⟨fs, hr, hrun, hended, hW, hsame⟩ := X102.leave (v := some (.int (nar .char ((((cs.getD i 0).toInt8.toInt32) &&& (255 : Int32)).toUInt32.toUInt16.toUInt32.toInt32)))) (fun h => by rw [Bd.returns] at h; cases h)
  have pqE := pq103
  rw [hA0] at pqE
  refine ⟨_, _, pqE _ ?_, hrun, hended, _, _, rfl, ?_, ⟨_, rfl⟩, hW, hsame.mono (by decide) (by decide)⟩
  · refine XS.aloadN X102.here hx rfl (hb hby d_rm_lch_6) rfl rfl ?_
    refine XS.iloadN X102.here hx rfl (hb hby d_rm_lch_7) rfl ?_
    refine X102.baloadBytes hx (j := (Int32.ofNat i)) (v := (.int ((cs.getD i 0).toInt8.toInt32))) (by rw [eq102]; exact Ar104.1) (State.isArrayOf_alike hZ.alike Ar104.2.1) Ar104.2.2 hin104 (Has.at Hs104 hin104 (by rw [own_ofn (by omega)]; exact own_svget cs i)) (g := (mkF m 8 #[.val (.ref t), .val (.int (Int32.ofNat i))] [(.int (Int32.ofNat i)), (.ref t)])) rfl rfl (hb hby d_rm_lch_8) _ ?_
    refine XS.sipush X102.here hx rfl (hb hby d_rm_lch_9) ?_
    refine XS.iand X102.here hx rfl (hb hby d_rm_lch_12) rfl ?_
    refine XS.i2c X102.here hx rfl (hb hby d_rm_lch_13) rfl ?_
    show Steps pP.tables e below (T102.setTop (mkF m 14 #[.val (.ref t), .val (.int (Int32.ofNat i))] [(.int ((((cs.getD i 0).toInt8.toInt32) &&& (255 : Int32)).toUInt32.toUInt16.toUInt32.toInt32))])) _
    exact retN X102 hx (t := .char) Bd.returns (by simp) (hb hby d_rm_lch_14) hr
  · show Q_cha cs i h0 n0 _ T102.heap _
    rw [eq102]
    exact ⟨by rw [own_lat1 (own_getmem hp hi)], N102, rfl⟩
theorem d_rm_ul_0 : decode jdk_52_method_6_code 0 = .ok (.aload_n 0, 1) := by decide +kernel
theorem d_rm_ul_1 : decode jdk_52_method_6_code 1 = .ok (.arraylength, 1) := by decide +kernel
theorem d_rm_ul_2 : decode jdk_52_method_6_code 2 = .ok (.iconst 1, 1) := by decide +kernel
theorem d_rm_ul_3 : decode jdk_52_method_6_code 3 = .ok (.ishr, 1) := by decide +kernel
theorem d_rm_ul_4 : decode jdk_52_method_6_code 4 = .ok (.ireturn, 1) := by decide +kernel
theorem ef_rm_ul (m : MethodId) (x0 : Addr) : entryFrame m #[(.ref x0)] 1 = mkF m 0 #[.val (.ref x0)] [] := by first | (simp [entryFrame, mkF, argsToLocals, Value.category]; done) | rfl
set_option maxRecDepth 65536 in
set_option maxHeartbeats 3000000 in
theorem rm_ul (l : Launch) (Z : State) (a0 : Array Value) (hw : ∀ d ∈ tables_1, d.before a0 Z = true) (ws : List Jvm.Cond) (t : Addr) (kb : ClassId) (cs : List Int32) (vs : List Value)  (h0 : Heap) (n0 : Nat) (Z0 : n0 ≤ h0.size) (V_t : Arv Z h0 t kb .byte (Int32.ofNat (2 * (cs).length)) vs (.int 0)) (hu : own_u16 vs cs) (hl : (cs).length ≤ 3) :
    MetFree l (⟨"java/lang/StringUTF16", "length", "([B)I"⟩ : MethodName) (head1 (Jvm.Cond.code (⟨"java/lang/StringUTF16", "length", "([B)I"⟩ : MethodName) jdk_52_method_6_code 1 (some .int) :: ws) ({ frames := 0, cells := 0, slots := 0, locals := 0 } : Room)) (fun αs U => αs = #[(.ref t)] ∧ Z.Warmed39 U.vm ∧ U.heap = h0) (fun _ _ _ _ _ => True) (fun _ U o U' => ∃ v L, o = .returned v ∧ Q_len cs h0 n0 v U'.heap L ∧ FrameEnd U o U' L ({ frames := 0, cells := 0, slots := 0, locals := 0 } : Room).cells ({ frames := 0, cells := 0, slots := 0, locals := 0 } : Room).slots) := by
  refine MetFree.of_bodySF (plainFor_of_name pno_5) hisR ?_
  intro pP e s m args below meth cC s₁ Bd hml0 hP hK
  obtain ⟨rfl, hZ, hh⟩ := hP
  have hx := Bd.exec
  have hby := Bd.bytes
  have hml : cC.maxLocals = 1 := hml0
  have hown : s.vm.findClass "java/lang/StringUTF16" = some m.cls := findClass_of_methodNamed Bd.named
  have hnm := (name_of_methodNamed Bd.named Bd.method).1
  have X0 : Stand pP l e ({ frames := 0, cells := 0, slots := 0, locals := 0 } : Room) s m #[(.ref t)] below meth cC s₁ [] 0 0 := Stand.of_body Bd
  have e0 : s₁.heap = h0 := by rw [← hh, Bd.state]; rfl
  have N0 := Fr.nil n0
  have KC0 : Keep h0 h0 [] := Keep.refl h0 _
  obtain ⟨A0, hA0⟩ : ∃ z, z = s₁.setTop (entryFrame m #[(.ref t)] 1) := ⟨_, rfl⟩
  have pre0 : ∀ τ, Steps pP.tables e below (s₁.setTop (mkF m 0 #[.val (.ref t)] [])) τ → Steps pP.tables e below A0 τ := fun τ κ => by rw [hA0]; exact castTop (ef_rm_ul m t) κ
  obtain ⟨cl101, Ar101, q101, S101, M101, Hs101, G101⟩ := id V_t
  have pq102 : ∀ τ, Steps pP.tables e below (s₁.setTop (mkF m 4 #[.val (.ref t)] [(.int ((Int32.ofNat (2 * (cs).length)) >>> ((1 : Int32) &&& 31)))])) τ → Steps pP.tables e below A0 τ := by
    intro τ κ
    refine pre0 τ ?_
    refine XS.aloadN X0.here hx rfl (hb hby d_rm_ul_0) rfl rfl ?_
    refine X0.arraylength hx (by rw [e0]; exact Ar101.1) (State.isArrayOf_alike hZ.alike Ar101.2.1) (g := (mkF m 1 #[.val (.ref t)] [(.ref t)])) rfl rfl (hb hby d_rm_ul_1) _ ?_
    rw [len_of S101 M101]
    refine XS.iconst X0.here hx rfl (hb hby d_rm_ul_2) ?_
    refine XS.ishr X0.here hx rfl (hb hby d_rm_ul_3) rfl ?_
    exact κ
  have pq103 : ∀ τ, Steps pP.tables e below (s₁.setTop (mkF m 4 #[.val (.ref t)] [(.int (Int32.ofNat (cs).length))])) τ → Steps pP.tables e below A0 τ := by intro τ κ; refine pq102 τ ?_; rw [show ((Int32.ofNat (2 * (cs).length)) >>> ((1 : Int32) &&& 31)) = (Int32.ofNat (cs).length) from own_half hl]; exact κ
  obtain ⟨fs, hr, hrun, hended, hW, hsame⟩ := X0.leave (v := some (.int (Int32.ofNat (cs).length))) (fun h => by rw [Bd.returns] at h; cases h)
  have pqE := pq103
  rw [hA0] at pqE
  refine ⟨_, _, pqE _ ?_, hrun, hended, _, _, rfl, ?_, ⟨_, rfl⟩, hW, hsame.mono (by decide) (by decide)⟩
  · show Steps pP.tables e below (s₁.setTop (mkF m 4 #[.val (.ref t)] [(.int (Int32.ofNat (cs).length))])) _
    exact retOut X0 hx Bd.returns rfl (Or.inl ⟨rfl, Or.inl rfl, _, rfl⟩) (hb hby d_rm_ul_4) hr
  · show Q_len cs h0 n0 _ s₁.heap _
    rw [e0]
    exact ⟨rfl, N0, rfl⟩
theorem d_rm_uci_0 : decode jdk_52_method_91_code 0 = .ok (.iload_n 0, 1) := by decide +kernel
theorem d_rm_uci_1 : decode jdk_52_method_91_code 1 = .ok (.aload_n 1, 1) := by decide +kernel
theorem d_rm_uci_2 : decode jdk_52_method_91_code 2 = .ok (.invokestatic 48, 3) := by decide +kernel
theorem d_rm_uci_5 : decode jdk_52_method_91_code 5 = .ok (.invokestatic 414, 3) := by decide +kernel
theorem d_rm_uci_8 : decode jdk_52_method_91_code 8 = .ok (.return_, 1) := by decide +kernel
theorem ef_rm_uci (m : MethodId) (x0 : Int32) (x1 : Addr) : entryFrame m #[(.int x0), (.ref x1)] 2 = mkF m 0 #[.val (.int x0), .val (.ref x1)] [] := by first | (simp [entryFrame, mkF, argsToLocals, Value.category]; done) | rfl
set_option maxRecDepth 65536 in
set_option maxHeartbeats 3000000 in
theorem rm_uci (l : Launch) (Z : State) (a0 : Array Value) (hw : ∀ d ∈ tables_1, d.before a0 Z = true) (ws : List Jvm.Cond) (t : Addr) (kb : ClassId) (cs : List Int32) (vs : List Value) (i : Nat) (G3 : Value) (h0 : Heap) (n0 : Nat) (Z0 : n0 ≤ h0.size) (O4 : Sta Z Z.heap "jdk/internal/util/Preconditions" "SIOOBE_FORMATTER" "Ljava/util/function/BiFunction;" G3) (rG3 : G3.isRef = true) (X00 : Old Z n0 h0) (V_t : Arv Z h0 t kb .byte (Int32.ofNat (2 * (cs).length)) vs (.int 0)) (hu : own_u16 vs cs) (hl : (cs).length ≤ 3) (hi : i < (cs).length) :
    MetFree l (⟨"java/lang/StringUTF16", "checkIndex", "(I[B)V"⟩ : MethodName) (head1 (Jvm.Cond.code (⟨"java/lang/StringUTF16", "checkIndex", "(I[B)V"⟩ : MethodName) jdk_52_method_91_code 2 none :: ws) ({ frames := 2, cells := 0, slots := 0, locals := 27 } : Room)) (fun αs U => αs = #[(.int (Int32.ofNat i)), (.ref t)] ∧ Z.Warmed39 U.vm ∧ U.heap = h0) (fun _ _ _ _ _ => True) (fun _ U o U' => ∃ v L, o = .returned v ∧ Q_sci h0 n0 v U'.heap L ∧ FrameEnd U o U' L ({ frames := 2, cells := 0, slots := 0, locals := 27 } : Room).cells ({ frames := 2, cells := 0, slots := 0, locals := 27 } : Room).slots) := by
  refine MetFree.of_bodySF (plainFor_of_name pno_5) hisR ?_
  intro pP e s m args below meth cC s₁ Bd hml0 hP hK
  obtain ⟨rfl, hZ, hh⟩ := hP
  have hx := Bd.exec
  have hby := Bd.bytes
  have hml : cC.maxLocals = 2 := hml0
  have hown : s.vm.findClass "java/lang/StringUTF16" = some m.cls := findClass_of_methodNamed Bd.named
  have hnm := (name_of_methodNamed Bd.named Bd.method).1
  have X0 : Stand pP l e ({ frames := 2, cells := 0, slots := 0, locals := 27 } : Room) s m #[(.int (Int32.ofNat i)), (.ref t)] below meth cC s₁ [] 0 0 := Stand.of_body Bd
  have e0 : s₁.heap = h0 := by rw [← hh, Bd.state]; rfl
  have N0 := Fr.nil n0
  have KC0 : Keep h0 h0 [] := Keep.refl h0 _
  obtain ⟨A0, hA0⟩ : ∃ z, z = s₁.setTop (entryFrame m #[(.int (Int32.ofNat i)), (.ref t)] 2) := ⟨_, rfl⟩
  have pre0 : ∀ τ, Steps pP.tables e below (s₁.setTop (mkF m 0 #[.val (.int (Int32.ofNat i)), .val (.ref t)] [])) τ → Steps pP.tables e below A0 τ := fun τ κ => by rw [hA0]; exact castTop (ef_rm_uci m (Int32.ofNat i) t) κ
  obtain ⟨_, _, ⟨T101, L101, k101, n101⟩, -, X101, ⟨Lc101, hQ101, l101, y101, z101⟩, st101⟩ := Jvm.LawKit.callS X0 hx (y := (⟨"java/lang/StringUTF16", "length", "([B)I"⟩ : MethodName)) hown (mvT hZ (hw _ (List.mem_of_getElem? (i := 110) rfl))) (mvT hZ (hw _ (List.mem_of_getElem? (i := 111) rfl))) (mvT hZ (hw _ (List.mem_of_getElem? (i := 49) rfl))) (mvT hZ (hw _ (List.mem_of_getElem? (i := 112) rfl))) (by decide) (backOf (W := 1) (rm_ul l Z a0 hw [] t kb cs vs h0 n0 Z0 V_t hu hl) hZ (hw _ (List.mem_of_getElem? (i := 112) rfl)) (hw _ (List.mem_of_getElem? (i := 49) rfl)) (by decide) (by decide)) (g := (mkF m 2 #[.val (.int (Int32.ofNat i)), .val (.ref t)] [(.ref t), (.int (Int32.ofNat i))])) rfl (by rw [hml]; rfl) (argsL := [(.ref t)]) (rest := [(.int (Int32.ofNat i))]) (lenOf pdo_3 rfl) rfl (by show 2 * 0 + _ ≤ _; exact Nat.le_of_eq rfl) (hb hby d_rm_uci_2) (fun _ _ => ⟨rfl, e0, (by decide : 0 + 0 ≤ _), (by decide : 0 + 0 ≤ _)⟩)
  dsimp only [Pt.U, Pt.locs, Pt.cells, Pt.slots] at X101 l101 y101 z101 st101 hQ101
  subst l101 y101 z101
  obtain ⟨rfl, Nq101, eq101⟩ := hQ101
  have N101 := Fr.app N0 Nq101
  have pq102 : ∀ τ, Steps pP.tables e below (T101.setTop (mkF m 5 #[.val (.int (Int32.ofNat i)), .val (.ref t)] [(.int (Int32.ofNat (cs).length)), (.int (Int32.ofNat i))])) τ → Steps pP.tables e below A0 τ := by
    intro τ κ
    refine pre0 τ ?_
    refine XS.iloadN X0.here hx rfl (hb hby d_rm_uci_0) rfl ?_
    refine XS.aloadN X0.here hx rfl (hb hby d_rm_uci_1) rfl rfl ?_
    refine st101 _ ?_
    exact κ
  obtain ⟨_, _, ⟨T103, L103, k103, n103⟩, -, X103, ⟨Lc103, hQ103, l103, y103, z103⟩, st103⟩ := Jvm.LawKit.callS X101 hx (y := (⟨"java/lang/String", "checkIndex", "(II)V"⟩ : MethodName)) hown (mvT hZ (hw _ (List.mem_of_getElem? (i := 113) rfl))) (mvT hZ (hw _ (List.mem_of_getElem? (i := 94) rfl))) (mvT hZ (hw _ (List.mem_of_getElem? (i := 12) rfl))) (mvT hZ (hw _ (List.mem_of_getElem? (i := 95) rfl))) (by decide) (backOf (W := 0) (rm_sci l Z a0 hw [] (Int32.ofNat i) (Int32.ofNat (cs).length) G3 h0 n0 Z0 O4 rG3 X00 (own_nn (by omega)) ((own_ltN (by omega) (by omega : (cs).length < 2 ^ 31)).mpr hi)) hZ (hw _ (List.mem_of_getElem? (i := 95) rfl)) (hw _ (List.mem_of_getElem? (i := 12) rfl)) (by decide) (by decide)) (g := (mkF m 5 #[.val (.int (Int32.ofNat i)), .val (.ref t)] [(.int (Int32.ofNat (cs).length)), (.int (Int32.ofNat i))])) rfl (by rw [hml]; rfl) (argsL := [(.int (Int32.ofNat i)), (.int (Int32.ofNat (cs).length))]) (rest := []) (lenOf pdo_2 rfl) rfl (by show 2 * 0 + _ ≤ _; exact Nat.le_of_eq rfl) (hb hby d_rm_uci_5) (fun _ _ => ⟨rfl, eq101, (by decide : 0 + 0 ≤ _), (by decide : 0 + 0 ≤ _)⟩)
  dsimp only [Pt.U, Pt.locs, Pt.cells, Pt.slots] at X103 l103 y103 z103 st103 hQ103
  subst l103 y103 z103
  obtain ⟨rfl, Nq103, eq103⟩ := hQ103
  have N103 := Fr.app N101 Nq103
  have pq104 : ∀ τ, Steps pP.tables e below (T103.setTop (mkF m 8 #[.val (.int (Int32.ofNat i)), .val (.ref t)] [])) τ → Steps pP.tables e below A0 τ := by
    intro τ κ
    refine pq102 τ ?_
    refine st103 _ ?_
    exact κ
  obtain ⟨fs, hr, hrun, hended, hW, hsame⟩ := X103.leave (v := none) (fun _ => rfl)
  have pqE := pq104
  rw [hA0] at pqE
  refine ⟨_, _, pqE _ ?_, hrun, hended, _, _, rfl, ?_, ⟨_, rfl⟩, hW, hsame.mono (by decide) (by decide)⟩
  · show Steps pP.tables e below (T103.setTop (mkF m 8 #[.val (.int (Int32.ofNat i)), .val (.ref t)] [])) _
    exact X103.returnOut hx Bd.returns (hb hby d_rm_uci_8) hr
  · show Q_sci h0 n0 _ T103.heap _
    rw [eq103]
    exact ⟨rfl, N103, rfl⟩
theorem d_rm_uget_0 : decode jdk_52_method_5_code 0 = .ok (.getstatic 44, 3) := by decide +kernel
theorem d_rm_uget_3 : decode jdk_52_method_5_code 3 = .ok (.ifCond .ne 25, 3) := by decide +kernel
theorem d_rm_uget_28 : decode jdk_52_method_5_code 28 = .ok (.iload_n 1, 1) := by decide +kernel
theorem d_rm_uget_29 : decode jdk_52_method_5_code 29 = .ok (.iconst 1, 1) := by decide +kernel
theorem d_rm_uget_30 : decode jdk_52_method_5_code 30 = .ok (.ishl, 1) := by decide +kernel
theorem d_rm_uget_31 : decode jdk_52_method_5_code 31 = .ok (.istore_n 1, 1) := by decide +kernel
theorem d_rm_uget_32 : decode jdk_52_method_5_code 32 = .ok (.aload_n 0, 1) := by decide +kernel
theorem d_rm_uget_33 : decode jdk_52_method_5_code 33 = .ok (.iload_n 1, 1) := by decide +kernel
theorem d_rm_uget_34 : decode jdk_52_method_5_code 34 = .ok (.iinc 1 1, 3) := by decide +kernel
theorem d_rm_uget_37 : decode jdk_52_method_5_code 37 = .ok (.baload, 1) := by decide +kernel
theorem d_rm_uget_38 : decode jdk_52_method_5_code 38 = .ok (.sipush 255, 3) := by decide +kernel
theorem d_rm_uget_41 : decode jdk_52_method_5_code 41 = .ok (.iand, 1) := by decide +kernel
theorem d_rm_uget_42 : decode jdk_52_method_5_code 42 = .ok (.getstatic 59, 3) := by decide +kernel
theorem d_rm_uget_45 : decode jdk_52_method_5_code 45 = .ok (.ishl, 1) := by decide +kernel
theorem d_rm_uget_46 : decode jdk_52_method_5_code 46 = .ok (.aload_n 0, 1) := by decide +kernel
theorem d_rm_uget_47 : decode jdk_52_method_5_code 47 = .ok (.iload_n 1, 1) := by decide +kernel
theorem d_rm_uget_48 : decode jdk_52_method_5_code 48 = .ok (.baload, 1) := by decide +kernel
theorem d_rm_uget_49 : decode jdk_52_method_5_code 49 = .ok (.sipush 255, 3) := by decide +kernel
theorem d_rm_uget_52 : decode jdk_52_method_5_code 52 = .ok (.iand, 1) := by decide +kernel
theorem d_rm_uget_53 : decode jdk_52_method_5_code 53 = .ok (.getstatic 63, 3) := by decide +kernel
theorem d_rm_uget_56 : decode jdk_52_method_5_code 56 = .ok (.ishl, 1) := by decide +kernel
theorem d_rm_uget_57 : decode jdk_52_method_5_code 57 = .ok (.ior, 1) := by decide +kernel
theorem d_rm_uget_58 : decode jdk_52_method_5_code 58 = .ok (.i2c, 1) := by decide +kernel
theorem d_rm_uget_59 : decode jdk_52_method_5_code 59 = .ok (.ireturn, 1) := by decide +kernel
theorem ef_rm_uget (m : MethodId) (x0 : Addr) (x1 : Int32) : entryFrame m #[(.ref x0), (.int x1)] 2 = mkF m 0 #[.val (.ref x0), .val (.int x1)] [] := by first | (simp [entryFrame, mkF, argsToLocals, Value.category]; done) | rfl
set_option maxRecDepth 65536 in
set_option maxHeartbeats 3000000 in
theorem rm_uget (l : Launch) (Z : State) (a0 : Array Value) (hw : ∀ d ∈ tables_1, d.before a0 Z = true) (ws : List Jvm.Cond) (t : Addr) (kb : ClassId) (cs : List Int32) (vs : List Value) (i : Nat) (h0 : Heap) (n0 : Nat) (Z0 : n0 ≤ h0.size) (OA : Sta Z Z.heap "java/lang/StringUTF16" "$assertionsDisabled" "Z" (.int 1)) (OH : Sta Z Z.heap "java/lang/StringUTF16" "HI_BYTE_SHIFT" "I" (.int 0)) (OL : Sta Z Z.heap "java/lang/StringUTF16" "LO_BYTE_SHIFT" "I" (.int 8)) (X00 : Old Z n0 h0) (V_t : Arv Z h0 t kb .byte (Int32.ofNat (2 * (cs).length)) vs (.int 0)) (hu : own_u16 vs cs) (hp : ∀ c ∈ cs, ¬ c < 0 ∧ ¬ (65535 : Int32) < c) (hl : (cs).length ≤ 3) (hi : i < (cs).length) :
    MetFree l (⟨"java/lang/StringUTF16", "getChar", "([BI)C"⟩ : MethodName) (head1 (Jvm.Cond.code (⟨"java/lang/StringUTF16", "getChar", "([BI)C"⟩ : MethodName) jdk_52_method_5_code 2 (some .char) :: ws) ({ frames := 0, cells := 0, slots := 0, locals := 0 } : Room)) (fun αs U => αs = #[(.ref t), (.int (Int32.ofNat i))] ∧ Z.Warmed39 U.vm ∧ U.heap = h0) (fun _ _ _ _ _ => True) (fun _ U o U' => ∃ v L, o = .returned v ∧ Q_cha cs i h0 n0 v U'.heap L ∧ FrameEnd U o U' L ({ frames := 0, cells := 0, slots := 0, locals := 0 } : Room).cells ({ frames := 0, cells := 0, slots := 0, locals := 0 } : Room).slots) := by
  refine MetFree.of_bodySF (plainFor_of_name pno_5) hisR ?_
  intro pP e s m args below meth cC s₁ Bd hml0 hP hK
  obtain ⟨rfl, hZ, hh⟩ := hP
  have hx := Bd.exec
  have hby := Bd.bytes
  have hml : cC.maxLocals = 2 := hml0
  have hown : s.vm.findClass "java/lang/StringUTF16" = some m.cls := findClass_of_methodNamed Bd.named
  have hnm := (name_of_methodNamed Bd.named Bd.method).1
  have X0 : Stand pP l e ({ frames := 0, cells := 0, slots := 0, locals := 0 } : Room) s m #[(.ref t), (.int (Int32.ofNat i))] below meth cC s₁ [] 0 0 := Stand.of_body Bd
  have e0 : s₁.heap = h0 := by rw [← hh, Bd.state]; rfl
  have N0 := Fr.nil n0
  have KC0 : Keep h0 h0 [] := Keep.refl h0 _
  obtain ⟨A0, hA0⟩ : ∃ z, z = s₁.setTop (entryFrame m #[(.ref t), (.int (Int32.ofNat i))] 2) := ⟨_, rfl⟩
  have pre0 : ∀ τ, Steps pP.tables e below (s₁.setTop (mkF m 0 #[.val (.ref t), .val (.int (Int32.ofNat i))] [])) τ → Steps pP.tables e below A0 τ := fun τ κ => by rw [hA0]; exact castTop (ef_rm_uget m t (Int32.ofNat i)) κ
  obtain ⟨T101, X101, e101, st101⟩ := getS2 X0 hx hZ hown (host := "") (Or.inl (hw _ (List.mem_of_getElem? (i := 70) rfl))) Via.refl e0 (OA.ext X00.2) (g := (mkF m 0 #[.val (.ref t), .val (.int (Int32.ofNat i))] [])) rfl (hb hby d_rm_uget_0)
  have pq102 : ∀ τ, Steps pP.tables e below (T101.setTop (mkF m 3 #[.val (.ref t), .val (.int (Int32.ofNat i))] [(.int (1 : Int32))])) τ → Steps pP.tables e below A0 τ := by
    intro τ κ
    refine pre0 τ ?_
    refine st101 _ ?_
    exact κ
  have pq103 : ∀ τ, Steps pP.tables e below (T101.setTop (mkF m 31 #[.val (.ref t), .val (.int (Int32.ofNat i))] [(.int ((Int32.ofNat i) <<< ((1 : Int32) &&& 31)))])) τ → Steps pP.tables e below A0 τ := by
    intro τ κ
    refine pq102 τ ?_
    refine XS.ifYes X101.here hx rfl (pc0 := 3) (pc' := 28) rfl (hb hby d_rm_uget_3) rfl ((if0 _ _).trans (feq (by decide : ¬ ((1 : Int32) = (0 : Int32)))).2) (by decide) (by decide) ?_
    refine XS.iloadN X101.here hx rfl (hb hby d_rm_uget_28) rfl ?_
    refine XS.iconst X101.here hx rfl (hb hby d_rm_uget_29) ?_
    refine XS.ishl X101.here hx rfl (hb hby d_rm_uget_30) rfl ?_
    exact κ
  have pq104 : ∀ τ, Steps pP.tables e below (T101.setTop (mkF m 31 #[.val (.ref t), .val (.int (Int32.ofNat i))] [(.int (Int32.ofNat (2 * i)))])) τ → Steps pP.tables e below A0 τ := by intro τ κ; refine pq103 τ ?_; rw [show ((Int32.ofNat i) <<< ((1 : Int32) &&& 31)) = (Int32.ofNat (2 * i)) from own_dbl (by omega)]; exact κ
  have pq105 : ∀ τ, Steps pP.tables e below (T101.setTop (mkF m 37 #[.val (.ref t), .val (.int ((Int32.ofNat (2 * i)) + (1 : Int32)))] [(.int (Int32.ofNat (2 * i))), (.ref t)])) τ → Steps pP.tables e below A0 τ := by
    intro τ κ
    refine pq104 τ ?_
    refine XS.istoreN X101.here hx rfl (hb hby d_rm_uget_31) rfl (l' := #[.val (.ref t), .val (.int (Int32.ofNat (2 * i)))]) rfl ?_
    refine XS.aloadN X101.here hx rfl (hb hby d_rm_uget_32) rfl rfl ?_
    refine XS.iloadN X101.here hx rfl (hb hby d_rm_uget_33) rfl ?_
    refine XS.iinc X101.here hx rfl (hb hby d_rm_uget_34) rfl (l' := #[.val (.ref t), .val (.int ((Int32.ofNat (2 * i)) + (1 : Int32)))]) rfl ?_
    exact κ
  have pq106 : ∀ τ, Steps pP.tables e below (T101.setTop (mkF m 37 #[.val (.ref t), .val (.int (Int32.ofNat (2 * i + 1)))] [(.int (Int32.ofNat (2 * i))), (.ref t)])) τ → Steps pP.tables e below A0 τ := by intro τ κ; refine pq105 τ ?_; rw [show ((Int32.ofNat (2 * i)) + (1 : Int32)) = (Int32.ofNat (2 * i + 1)) from own_dbl1 (by omega)]; exact κ
  obtain ⟨cl107, Ar107, q107, S107, M107, Hs107, G107⟩ := id V_t
  have hin107 := inb_of (j := (Int32.ofNat (2 * i))) S107 ⟨own_nn (by omega), (own_ltN (by omega) (by omega)).mpr (by omega)⟩
  obtain ⟨T108, X108, e108, st108⟩ := getS2 X101 hx hZ hown (host := "") (Or.inl (hw _ (List.mem_of_getElem? (i := 71) rfl))) Via.refl e101 (OH.ext X00.2) (g := (mkF m 42 #[.val (.ref t), .val (.int (Int32.ofNat (2 * i + 1)))] [(.int ((own_b (cs.getD i 0) 0) &&& (255 : Int32)))])) rfl (hb hby d_rm_uget_42)
  have pq109 : ∀ τ, Steps pP.tables e below (T108.setTop (mkF m 45 #[.val (.ref t), .val (.int (Int32.ofNat (2 * i + 1)))] [(.int (0 : Int32)), (.int ((own_b (cs.getD i 0) 0) &&& (255 : Int32)))])) τ → Steps pP.tables e below A0 τ := by
    intro τ κ
    refine pq106 τ ?_
    refine X101.baloadBytes hx (j := (Int32.ofNat (2 * i))) (v := (.int (own_b (cs.getD i 0) 0))) (by rw [e101]; exact Ar107.1) (State.isArrayOf_alike hZ.alike Ar107.2.1) Ar107.2.2 hin107 (Has.at Hs107 hin107 (by rw [own_ofn (by omega)]; exact (hu i hi).1)) (g := (mkF m 37 #[.val (.ref t), .val (.int (Int32.ofNat (2 * i + 1)))] [(.int (Int32.ofNat (2 * i))), (.ref t)])) rfl rfl (hb hby d_rm_uget_37) _ ?_
    refine XS.sipush X101.here hx rfl (hb hby d_rm_uget_38) ?_
    refine XS.iand X101.here hx rfl (hb hby d_rm_uget_41) rfl ?_
    refine st108 _ ?_
    exact κ
  obtain ⟨cl110, Ar110, q110, S110, M110, Hs110, G110⟩ := id V_t
  have hin110 := inb_of (j := (Int32.ofNat (2 * i + 1))) S110 ⟨own_nn (by omega), (own_ltN (by omega) (by omega)).mpr (by omega)⟩
  obtain ⟨T111, X111, e111, st111⟩ := getS2 X108 hx hZ hown (host := "") (Or.inl (hw _ (List.mem_of_getElem? (i := 72) rfl))) Via.refl e108 (OL.ext X00.2) (g := (mkF m 53 #[.val (.ref t), .val (.int (Int32.ofNat (2 * i + 1)))] [(.int ((own_b (cs.getD i 0) 8) &&& (255 : Int32))), (.int (((own_b (cs.getD i 0) 0) &&& (255 : Int32)) <<< ((0 : Int32) &&& 31)))])) rfl (hb hby d_rm_uget_53)
  have pq112 : ∀ τ, Steps pP.tables e below (T111.setTop (mkF m 56 #[.val (.ref t), .val (.int (Int32.ofNat (2 * i + 1)))] [(.int (8 : Int32)), (.int ((own_b (cs.getD i 0) 8) &&& (255 : Int32))), (.int (((own_b (cs.getD i 0) 0) &&& (255 : Int32)) <<< ((0 : Int32) &&& 31)))])) τ → Steps pP.tables e below A0 τ := by
    intro τ κ
    refine pq109 τ ?_
    refine XS.ishl X108.here hx rfl (hb hby d_rm_uget_45) rfl ?_
    refine XS.aloadN X108.here hx rfl (hb hby d_rm_uget_46) rfl rfl ?_
    refine XS.iloadN X108.here hx rfl (hb hby d_rm_uget_47) rfl ?_
    refine X108.baloadBytes hx (j := (Int32.ofNat (2 * i + 1))) (v := (.int (own_b (cs.getD i 0) 8))) (by rw [e108]; exact Ar110.1) (State.isArrayOf_alike hZ.alike Ar110.2.1) Ar110.2.2 hin110 (Has.at Hs110 hin110 (by rw [own_ofn (by omega)]; exact (hu i hi).2)) (g := (mkF m 48 #[.val (.ref t), .val (.int (Int32.ofNat (2 * i + 1)))] [(.int (Int32.ofNat (2 * i + 1))), (.ref t), (.int (((own_b (cs.getD i 0) 0) &&& (255 : Int32)) <<< ((0 : Int32) &&& 31)))])) rfl rfl (hb hby d_rm_uget_48) _ ?_
    refine XS.sipush X108.here hx rfl (hb hby d_rm_uget_49) ?_
    refine XS.iand X108.here hx rfl (hb hby d_rm_uget_52) rfl ?_
    refine st111 _ ?_
    exact κ
  obtain ⟨fs, hr, hrun, hended, hW, hsame⟩ := X111.leave (v := some (.int (nar .char (((((own_b (cs.getD i 0) 0) &&& (255 : Int32)) <<< ((0 : Int32) &&& 31)) ||| (((own_b (cs.getD i 0) 8) &&& (255 : Int32)) <<< ((8 : Int32) &&& 31))).toUInt32.toUInt16.toUInt32.toInt32)))) (fun h => by rw [Bd.returns] at h; cases h)
  have pqE := pq112
  rw [hA0] at pqE
  refine ⟨_, _, pqE _ ?_, hrun, hended, _, _, rfl, ?_, ⟨_, rfl⟩, hW, hsame.mono (by decide) (by decide)⟩
  · refine XS.ishl X111.here hx rfl (hb hby d_rm_uget_56) rfl ?_
    refine XS.ior X111.here hx rfl (hb hby d_rm_uget_57) rfl ?_
    refine XS.i2c X111.here hx rfl (hb hby d_rm_uget_58) rfl ?_
    show Steps pP.tables e below (T111.setTop (mkF m 59 #[.val (.ref t), .val (.int (Int32.ofNat (2 * i + 1)))] [(.int (((((own_b (cs.getD i 0) 0) &&& (255 : Int32)) <<< ((0 : Int32) &&& 31)) ||| (((own_b (cs.getD i 0) 8) &&& (255 : Int32)) <<< ((8 : Int32) &&& 31))).toUInt32.toUInt16.toUInt32.toInt32))])) _
    exact retN X111 hx (t := .char) Bd.returns (by simp) (hb hby d_rm_uget_59) hr
  · show Q_cha cs i h0 n0 _ T111.heap _
    rw [e111]
    exact ⟨by rw [own_gc (own_getmem hp hi)], N0, rfl⟩
theorem d_rm_uch_0 : decode jdk_52_method_83_code 0 = .ok (.iload_n 1, 1) := by decide +kernel
theorem d_rm_uch_1 : decode jdk_52_method_83_code 1 = .ok (.aload_n 0, 1) := by decide +kernel
theorem d_rm_uch_2 : decode jdk_52_method_83_code 2 = .ok (.invokestatic 67, 3) := by decide +kernel
theorem d_rm_uch_5 : decode jdk_52_method_83_code 5 = .ok (.aload_n 0, 1) := by decide +kernel
theorem d_rm_uch_6 : decode jdk_52_method_83_code 6 = .ok (.iload_n 1, 1) := by decide +kernel
theorem d_rm_uch_7 : decode jdk_52_method_83_code 7 = .ok (.invokestatic 71, 3) := by decide +kernel
theorem d_rm_uch_10 : decode jdk_52_method_83_code 10 = .ok (.ireturn, 1) := by decide +kernel
theorem ef_rm_uch (m : MethodId) (x0 : Addr) (x1 : Int32) : entryFrame m #[(.ref x0), (.int x1)] 2 = mkF m 0 #[.val (.ref x0), .val (.int x1)] [] := by first | (simp [entryFrame, mkF, argsToLocals, Value.category]; done) | rfl
set_option maxRecDepth 65536 in
set_option maxHeartbeats 3000000 in
theorem rm_uch (l : Launch) (Z : State) (a0 : Array Value) (hw : ∀ d ∈ tables_1, d.before a0 Z = true) (ws : List Jvm.Cond) (t : Addr) (kb : ClassId) (cs : List Int32) (vs : List Value) (i : Nat) (G3 : Value) (h0 : Heap) (n0 : Nat) (Z0 : n0 ≤ h0.size) (O4 : Sta Z Z.heap "jdk/internal/util/Preconditions" "SIOOBE_FORMATTER" "Ljava/util/function/BiFunction;" G3) (rG3 : G3.isRef = true) (OA : Sta Z Z.heap "java/lang/StringUTF16" "$assertionsDisabled" "Z" (.int 1)) (OH : Sta Z Z.heap "java/lang/StringUTF16" "HI_BYTE_SHIFT" "I" (.int 0)) (OL : Sta Z Z.heap "java/lang/StringUTF16" "LO_BYTE_SHIFT" "I" (.int 8)) (X00 : Old Z n0 h0) (V_t : Arv Z h0 t kb .byte (Int32.ofNat (2 * (cs).length)) vs (.int 0)) (hu : own_u16 vs cs) (hp : ∀ c ∈ cs, ¬ c < 0 ∧ ¬ (65535 : Int32) < c) (hl : (cs).length ≤ 3) (hi : i < (cs).length) :
    MetFree l (⟨"java/lang/StringUTF16", "charAt", "([BI)C"⟩ : MethodName) (head1 (Jvm.Cond.code (⟨"java/lang/StringUTF16", "charAt", "([BI)C"⟩ : MethodName) jdk_52_method_83_code 2 (some .char) :: ws) ({ frames := 3, cells := 0, slots := 0, locals := 40 } : Room)) (fun αs U => αs = #[(.ref t), (.int (Int32.ofNat i))] ∧ Z.Warmed39 U.vm ∧ U.heap = h0) (fun _ _ _ _ _ => True) (fun _ U o U' => ∃ v L, o = .returned v ∧ Q_cha cs i h0 n0 v U'.heap L ∧ FrameEnd U o U' L ({ frames := 3, cells := 0, slots := 0, locals := 40 } : Room).cells ({ frames := 3, cells := 0, slots := 0, locals := 40 } : Room).slots) := by
  refine MetFree.of_bodySF (plainFor_of_name pno_5) hisR ?_
  intro pP e s m args below meth cC s₁ Bd hml0 hP hK
  obtain ⟨rfl, hZ, hh⟩ := hP
  have hx := Bd.exec
  have hby := Bd.bytes
  have hml : cC.maxLocals = 2 := hml0
  have hown : s.vm.findClass "java/lang/StringUTF16" = some m.cls := findClass_of_methodNamed Bd.named
  have hnm := (name_of_methodNamed Bd.named Bd.method).1
  have X0 : Stand pP l e ({ frames := 3, cells := 0, slots := 0, locals := 40 } : Room) s m #[(.ref t), (.int (Int32.ofNat i))] below meth cC s₁ [] 0 0 := Stand.of_body Bd
  have e0 : s₁.heap = h0 := by rw [← hh, Bd.state]; rfl
  have N0 := Fr.nil n0
  have KC0 : Keep h0 h0 [] := Keep.refl h0 _
  obtain ⟨A0, hA0⟩ : ∃ z, z = s₁.setTop (entryFrame m #[(.ref t), (.int (Int32.ofNat i))] 2) := ⟨_, rfl⟩
  have pre0 : ∀ τ, Steps pP.tables e below (s₁.setTop (mkF m 0 #[.val (.ref t), .val (.int (Int32.ofNat i))] [])) τ → Steps pP.tables e below A0 τ := fun τ κ => by rw [hA0]; exact castTop (ef_rm_uch m t (Int32.ofNat i)) κ
  obtain ⟨_, _, ⟨T101, L101, k101, n101⟩, -, X101, ⟨Lc101, hQ101, l101, y101, z101⟩, st101⟩ := Jvm.LawKit.callS X0 hx (y := (⟨"java/lang/StringUTF16", "checkIndex", "(I[B)V"⟩ : MethodName)) hown (mvT hZ (hw _ (List.mem_of_getElem? (i := 107) rfl))) (mvT hZ (hw _ (List.mem_of_getElem? (i := 108) rfl))) (mvT hZ (hw _ (List.mem_of_getElem? (i := 49) rfl))) (mvT hZ (hw _ (List.mem_of_getElem? (i := 109) rfl))) (by decide) (backOf (W := 0) (rm_uci l Z a0 hw [] t kb cs vs i G3 h0 n0 Z0 O4 rG3 X00 V_t hu hl hi) hZ (hw _ (List.mem_of_getElem? (i := 109) rfl)) (hw _ (List.mem_of_getElem? (i := 49) rfl)) (by decide) (by decide)) (g := (mkF m 2 #[.val (.ref t), .val (.int (Int32.ofNat i))] [(.ref t), (.int (Int32.ofNat i))])) rfl (by rw [hml]; rfl) (argsL := [(.int (Int32.ofNat i)), (.ref t)]) (rest := []) (lenOf pdo_4 rfl) rfl (by show 2 * 0 + _ ≤ _; exact Nat.le_of_eq rfl) (hb hby d_rm_uch_2) (fun _ _ => ⟨rfl, e0, (by decide : 0 + 0 ≤ _), (by decide : 0 + 0 ≤ _)⟩)
  dsimp only [Pt.U, Pt.locs, Pt.cells, Pt.slots] at X101 l101 y101 z101 st101 hQ101
  subst l101 y101 z101
  obtain ⟨rfl, Nq101, eq101⟩ := hQ101
  have N101 := Fr.app N0 Nq101
  have pq102 : ∀ τ, Steps pP.tables e below (T101.setTop (mkF m 5 #[.val (.ref t), .val (.int (Int32.ofNat i))] [])) τ → Steps pP.tables e below A0 τ := by
    intro τ κ
    refine pre0 τ ?_
    refine XS.iloadN X0.here hx rfl (hb hby d_rm_uch_0) rfl ?_
    refine XS.aloadN X0.here hx rfl (hb hby d_rm_uch_1) rfl rfl ?_
    refine st101 _ ?_
    exact κ
  obtain ⟨_, _, ⟨T103, L103, k103, n103⟩, -, X103, ⟨Lc103, hQ103, l103, y103, z103⟩, st103⟩ := Jvm.LawKit.callS X101 hx (y := (⟨"java/lang/StringUTF16", "getChar", "([BI)C"⟩ : MethodName)) hown (mvT hZ (hw _ (List.mem_of_getElem? (i := 73) rfl))) (mvT hZ (hw _ (List.mem_of_getElem? (i := 74) rfl))) (mvT hZ (hw _ (List.mem_of_getElem? (i := 49) rfl))) (mvT hZ (hw _ (List.mem_of_getElem? (i := 75) rfl))) (by decide) (backOf (W := 0) (rm_uget l Z a0 hw [] t kb cs vs i h0 n0 Z0 OA OH OL X00 V_t hu hp hl hi) hZ (hw _ (List.mem_of_getElem? (i := 75) rfl)) (hw _ (List.mem_of_getElem? (i := 49) rfl)) (by decide) (by decide)) (g := (mkF m 7 #[.val (.ref t), .val (.int (Int32.ofNat i))] [(.int (Int32.ofNat i)), (.ref t)])) rfl (by rw [hml]; rfl) (argsL := [(.ref t), (.int (Int32.ofNat i))]) (rest := []) (lenOf pdo_5 rfl) rfl (by show 2 * 0 + _ ≤ _; exact Nat.le_of_eq rfl) (hb hby d_rm_uch_7) (fun _ _ => ⟨rfl, eq101, (by decide : 0 + 0 ≤ _), (by decide : 0 + 0 ≤ _)⟩)
  dsimp only [Pt.U, Pt.locs, Pt.cells, Pt.slots] at X103 l103 y103 z103 st103 hQ103
  subst l103 y103 z103
  obtain ⟨rfl, Nq103, eq103⟩ := hQ103
  have N103 := Fr.app N101 Nq103
  have pq104 : ∀ τ, Steps pP.tables e below (T103.setTop (mkF m 10 #[.val (.ref t), .val (.int (Int32.ofNat i))] [(.int (cs.getD i 0))])) τ → Steps pP.tables e below A0 τ := by
    intro τ κ
    refine pq102 τ ?_
    refine XS.aloadN X101.here hx rfl (hb hby d_rm_uch_5) rfl rfl ?_
    refine XS.iloadN X101.here hx rfl (hb hby d_rm_uch_6) rfl ?_
    refine st103 _ ?_
    exact κ
  obtain ⟨fs, hr, hrun, hended, hW, hsame⟩ := X103.leave (v := some (.int (nar .char (cs.getD i 0)))) (fun h => by rw [Bd.returns] at h; cases h)
  have pqE := pq104
  rw [hA0] at pqE
  refine ⟨_, _, pqE _ ?_, hrun, hended, _, _, rfl, ?_, ⟨_, rfl⟩, hW, hsame.mono (by decide) (by decide)⟩
  · show Steps pP.tables e below (T103.setTop (mkF m 10 #[.val (.ref t), .val (.int (Int32.ofNat i))] [(.int (cs.getD i 0))])) _
    exact retN X103 hx (t := .char) Bd.returns (by simp) (hb hby d_rm_uch_10) hr
  · show Q_cha cs i h0 n0 _ T103.heap _
    rw [eq103]
    exact ⟨by rw [own_narU (own_getmem hp hi)], N103, rfl⟩
theorem d_rm_chaL_0 : decode jdk_42_method_56_code 0 = .ok (.aload_n 0, 1) := by decide +kernel
theorem d_rm_chaL_1 : decode jdk_42_method_56_code 1 = .ok (.invokevirtual 492, 3) := by decide +kernel
theorem d_rm_chaL_4 : decode jdk_42_method_56_code 4 = .ok (.ifCond .eq 12, 3) := by decide +kernel
theorem d_rm_chaL_7 : decode jdk_42_method_56_code 7 = .ok (.aload_n 0, 1) := by decide +kernel
theorem d_rm_chaL_8 : decode jdk_42_method_56_code 8 = .ok (.getfield 9, 3) := by decide +kernel
theorem d_rm_chaL_11 : decode jdk_42_method_56_code 11 = .ok (.iload_n 1, 1) := by decide +kernel
theorem d_rm_chaL_12 : decode jdk_42_method_56_code 12 = .ok (.invokestatic 495, 3) := by decide +kernel
theorem d_rm_chaL_15 : decode jdk_42_method_56_code 15 = .ok (.ireturn, 1) := by decide +kernel
theorem ef_rm_chaL (m : MethodId) (x0 : Addr) (x1 : Int32) : entryFrame m #[(.ref x0), (.int x1)] 2 = mkF m 0 #[.val (.ref x0), .val (.int x1)] [] := by first | (simp [entryFrame, mkF, argsToLocals, Value.category]; done) | rfl
set_option maxRecDepth 65536 in
set_option maxHeartbeats 3000000 in
theorem rm_chaL (l : Launch) (Z : State) (a0 : Array Value) (hw : ∀ d ∈ tables_1, d.before a0 Z = true) (ws : List Jvm.Cond) (x t : Addr) (kb : ClassId) (cs : List Int32) (i : Nat) (G1 : Int32) (G3 : Value) (h0 : Heap) (n0 : Nat) (Z0 : n0 ≤ h0.size) (O2 : Sta Z Z.heap "java/lang/String" "COMPACT_STRINGS" "Z" (.int G1)) (P5 : ¬ (G1 = (0 : Int32))) (X00 : Old Z n0 h0) (O4 : Sta Z Z.heap "jdk/internal/util/Preconditions" "SIOOBE_FORMATTER" "Ljava/util/function/BiFunction;" G3) (rG3 : G3.isRef = true) (OA : Sta Z Z.heap "java/lang/StringUTF16" "$assertionsDisabled" "Z" (.int 1)) (OH : Sta Z Z.heap "java/lang/StringUTF16" "HI_BYTE_SHIFT" "I" (.int 0)) (OL : Sta Z Z.heap "java/lang/StringUTF16" "LO_BYTE_SHIFT" "I" (.int 8)) (E_x : Exa Z h0 x "java/lang/String") (F_c : Fld Z h0 x "java/lang/String" "coder" "B" (.int 0)) (F_v : Fld Z h0 x "java/lang/String" "value" "[B" (.ref t)) (V_t : Arv Z h0 t kb .byte (Int32.ofNat (cs).length) (((cs).map (fun c : Int32 => c.toInt8.toInt32)).map Value.int) (.int 0)) (hp : ∀ c ∈ cs, ¬ c < 0 ∧ ¬ (255 : Int32) < c) (hl : (cs).length ≤ 3) (hi : i < (cs).length) :
    MetFree l (⟨"java/lang/String", "charAt", "(I)C"⟩ : MethodName) (head1 (Jvm.Cond.code (⟨"java/lang/String", "charAt", "(I)C"⟩ : MethodName) jdk_42_method_56_code 2 (some .char) :: ws) ({ frames := 4, cells := 0, slots := 0, locals := 53 } : Room)) (fun αs U => αs = #[(.ref x), (.int (Int32.ofNat i))] ∧ Z.Warmed39 U.vm ∧ U.heap = h0) (fun _ _ _ _ _ => True) (fun _ U o U' => ∃ v L, o = .returned v ∧ Q_cha cs i h0 n0 v U'.heap L ∧ FrameEnd U o U' L ({ frames := 4, cells := 0, slots := 0, locals := 53 } : Room).cells ({ frames := 4, cells := 0, slots := 0, locals := 53 } : Room).slots) := by
  refine MetFree.of_bodySF (plainFor_of_name pno_2) hisR ?_
  intro pP e s m args below meth cC s₁ Bd hml0 hP hK
  obtain ⟨rfl, hZ, hh⟩ := hP
  have hx := Bd.exec
  have hby := Bd.bytes
  have hml : cC.maxLocals = 2 := hml0
  have hown : s.vm.findClass "java/lang/String" = some m.cls := findClass_of_methodNamed Bd.named
  have hnm := (name_of_methodNamed Bd.named Bd.method).1
  have X0 : Stand pP l e ({ frames := 4, cells := 0, slots := 0, locals := 53 } : Room) s m #[(.ref x), (.int (Int32.ofNat i))] below meth cC s₁ [] 0 0 := Stand.of_body Bd
  have e0 : s₁.heap = h0 := by rw [← hh, Bd.state]; rfl
  have N0 := Fr.nil n0
  have KC0 : Keep h0 h0 [] := Keep.refl h0 _
  obtain ⟨A0, hA0⟩ : ∃ z, z = s₁.setTop (entryFrame m #[(.ref x), (.int (Int32.ofNat i))] 2) := ⟨_, rfl⟩
  have pre0 : ∀ τ, Steps pP.tables e below (s₁.setTop (mkF m 0 #[.val (.ref x), .val (.int (Int32.ofNat i))] [])) τ → Steps pP.tables e below A0 τ := fun τ κ => by rw [hA0]; exact castTop (ef_rm_chaL m x (Int32.ofNat i)) κ
  obtain ⟨cq102, kq102, q102a, q102b, q102c⟩ := isOf hZ e0 E_x
  obtain ⟨_, _, ⟨T101, L101, k101, n101⟩, -, X101, ⟨Lc101, hQ101, l101, y101, z101⟩, st101⟩ := X0.virtualBack hx (y := (⟨"java/lang/String", "isLatin1", "()Z"⟩ : MethodName)) (z := (⟨"java/lang/String", "isLatin1", "()Z"⟩ : MethodName)) hown (mvT hZ (hw _ (List.mem_of_getElem? (i := 84) rfl))) (mvT hZ (hw _ (List.mem_of_getElem? (i := 85) rfl))) (notFace_of_selects (args := #[]) (mvT hZ (hw _ (List.mem_of_getElem? (i := 87) rfl)))) (mvT hZ (hw _ (List.mem_of_getElem? (i := 87) rfl))) (mvT hZ (hw _ (List.mem_of_getElem? (i := 86) rfl))) (by decide) (backOf (W := 0) (rm_isl0 l Z a0 hw [] x G1 h0 n0 Z0 O2 P5 X00 F_c) hZ (hw _ (List.mem_of_getElem? (i := 88) rfl)) (hw _ (List.mem_of_getElem? (i := 12) rfl)) (by decide) (by decide)) q102a q102c (g := (mkF m 1 #[.val (.ref x), .val (.int (Int32.ofNat i))] [(.ref x)])) rfl (by rw [hml]; rfl) (Steps.refl _) (argsL := []) (rest := []) (lenOf pdo_6 rfl) rfl (by show 2 * 0 + _ ≤ _; exact Nat.le_of_eq rfl) (hb hby d_rm_chaL_1) (fun _ _ => ⟨rfl, e0, (by decide : 0 + 0 ≤ _), (by decide : 0 + 0 ≤ _)⟩)
  dsimp only [Pt.U, Pt.locs, Pt.cells, Pt.slots] at X101 l101 y101 z101 st101 hQ101
  subst l101 y101 z101
  obtain ⟨rfl, Nq101, eq101⟩ := hQ101
  have N101 := Fr.app N0 Nq101
  have pq103 : ∀ τ, Steps pP.tables e below (T101.setTop (mkF m 4 #[.val (.ref x), .val (.int (Int32.ofNat i))] [(.int (1 : Int32))])) τ → Steps pP.tables e below A0 τ := by
    intro τ κ
    refine pre0 τ ?_
    refine XS.aloadN X0.here hx rfl (hb hby d_rm_chaL_0) rfl rfl ?_
    refine st101.trans ?_
    exact κ
  obtain ⟨T104, X104, e104, st104⟩ := getF X101 hx hZ hown (host := "") (Or.inl (hw _ (List.mem_of_getElem? (i := 30) rfl))) Via.refl eq101 F_v (g := (mkF m 8 #[.val (.ref x), .val (.int (Int32.ofNat i))] [(.ref x)])) rfl rfl (hb hby d_rm_chaL_8)
  have pq105 : ∀ τ, Steps pP.tables e below (T104.setTop (mkF m 11 #[.val (.ref x), .val (.int (Int32.ofNat i))] [(.ref t)])) τ → Steps pP.tables e below A0 τ := by
    intro τ κ
    refine pq103 τ ?_
    refine XS.ifNo X101.here hx rfl (hb hby d_rm_chaL_4) rfl ((if0 _ _).trans (feq (by decide : ¬ ((1 : Int32) = (0 : Int32)))).1) ?_
    refine XS.aloadN X101.here hx rfl (hb hby d_rm_chaL_7) rfl rfl ?_
    refine st104 _ ?_
    exact κ
  obtain ⟨_, _, ⟨T106, L106, k106, n106⟩, -, X106, ⟨Lc106, hQ106, l106, y106, z106⟩, st106⟩ := Jvm.LawKit.callS X104 hx (y := (⟨"java/lang/StringLatin1", "charAt", "([BI)C"⟩ : MethodName)) hown (mvT hZ (hw _ (List.mem_of_getElem? (i := 89) rfl))) (mvT hZ (hw _ (List.mem_of_getElem? (i := 90) rfl))) (mvT hZ (hw _ (List.mem_of_getElem? (i := 91) rfl))) (mvT hZ (hw _ (List.mem_of_getElem? (i := 92) rfl))) (by decide) (backOf (W := 0) (rm_lch l Z a0 hw [] t kb cs i G3 h0 n0 Z0 O4 rG3 X00 V_t hp hl hi) hZ (hw _ (List.mem_of_getElem? (i := 92) rfl)) (hw _ (List.mem_of_getElem? (i := 91) rfl)) (by decide) (by decide)) (g := (mkF m 12 #[.val (.ref x), .val (.int (Int32.ofNat i))] [(.int (Int32.ofNat i)), (.ref t)])) rfl (by rw [hml]; rfl) (argsL := [(.ref t), (.int (Int32.ofNat i))]) (rest := []) (lenOf pdo_5 rfl) rfl (by show 2 * 0 + _ ≤ _; exact Nat.le_of_eq rfl) (hb hby d_rm_chaL_12) (fun _ _ => ⟨rfl, e104, (by decide : 0 + 0 ≤ _), (by decide : 0 + 0 ≤ _)⟩)
  dsimp only [Pt.U, Pt.locs, Pt.cells, Pt.slots] at X106 l106 y106 z106 st106 hQ106
  subst l106 y106 z106
  obtain ⟨rfl, Nq106, eq106⟩ := hQ106
  have N106 := Fr.app N101 Nq106
  have pq107 : ∀ τ, Steps pP.tables e below (T106.setTop (mkF m 15 #[.val (.ref x), .val (.int (Int32.ofNat i))] [(.int (cs.getD i 0))])) τ → Steps pP.tables e below A0 τ := by
    intro τ κ
    refine pq105 τ ?_
    refine XS.iloadN X104.here hx rfl (hb hby d_rm_chaL_11) rfl ?_
    refine st106 _ ?_
    exact κ
  obtain ⟨fs, hr, hrun, hended, hW, hsame⟩ := X106.leave (v := some (.int (nar .char (cs.getD i 0)))) (fun h => by rw [Bd.returns] at h; cases h)
  have pqE := pq107
  rw [hA0] at pqE
  refine ⟨_, _, pqE _ ?_, hrun, hended, _, _, rfl, ?_, ⟨_, rfl⟩, hW, hsame.mono (by decide) (by decide)⟩
  · show Steps pP.tables e below (T106.setTop (mkF m 15 #[.val (.ref x), .val (.int (Int32.ofNat i))] [(.int (cs.getD i 0))])) _
    exact retN X106 hx (t := .char) Bd.returns (by simp) (hb hby d_rm_chaL_15) hr
  · show Q_cha cs i h0 n0 _ T106.heap _
    rw [eq106]
    exact ⟨by rw [own_narU (own_up _ hp _ (own_gm hi))], N106, rfl⟩
theorem d_rm_chaU_0 : decode jdk_42_method_56_code 0 = .ok (.aload_n 0, 1) := by decide +kernel
theorem d_rm_chaU_1 : decode jdk_42_method_56_code 1 = .ok (.invokevirtual 492, 3) := by decide +kernel
theorem d_rm_chaU_4 : decode jdk_42_method_56_code 4 = .ok (.ifCond .eq 12, 3) := by decide +kernel
theorem d_rm_chaU_16 : decode jdk_42_method_56_code 16 = .ok (.aload_n 0, 1) := by decide +kernel
theorem d_rm_chaU_17 : decode jdk_42_method_56_code 17 = .ok (.getfield 9, 3) := by decide +kernel
theorem d_rm_chaU_20 : decode jdk_42_method_56_code 20 = .ok (.iload_n 1, 1) := by decide +kernel
theorem d_rm_chaU_21 : decode jdk_42_method_56_code 21 = .ok (.invokestatic 498, 3) := by decide +kernel
theorem d_rm_chaU_24 : decode jdk_42_method_56_code 24 = .ok (.ireturn, 1) := by decide +kernel
theorem ef_rm_chaU (m : MethodId) (x0 : Addr) (x1 : Int32) : entryFrame m #[(.ref x0), (.int x1)] 2 = mkF m 0 #[.val (.ref x0), .val (.int x1)] [] := by first | (simp [entryFrame, mkF, argsToLocals, Value.category]; done) | rfl
set_option maxRecDepth 65536 in
set_option maxHeartbeats 3000000 in
theorem rm_chaU (l : Launch) (Z : State) (a0 : Array Value) (hw : ∀ d ∈ tables_1, d.before a0 Z = true) (ws : List Jvm.Cond) (x t : Addr) (kb : ClassId) (cs : List Int32) (vs : List Value) (i : Nat) (G1 : Int32) (G3 : Value) (h0 : Heap) (n0 : Nat) (Z0 : n0 ≤ h0.size) (O2 : Sta Z Z.heap "java/lang/String" "COMPACT_STRINGS" "Z" (.int G1)) (P5 : ¬ (G1 = (0 : Int32))) (X00 : Old Z n0 h0) (O4 : Sta Z Z.heap "jdk/internal/util/Preconditions" "SIOOBE_FORMATTER" "Ljava/util/function/BiFunction;" G3) (rG3 : G3.isRef = true) (OA : Sta Z Z.heap "java/lang/StringUTF16" "$assertionsDisabled" "Z" (.int 1)) (OH : Sta Z Z.heap "java/lang/StringUTF16" "HI_BYTE_SHIFT" "I" (.int 0)) (OL : Sta Z Z.heap "java/lang/StringUTF16" "LO_BYTE_SHIFT" "I" (.int 8)) (E_x : Exa Z h0 x "java/lang/String") (F_c : Fld Z h0 x "java/lang/String" "coder" "B" (.int 1)) (F_v : Fld Z h0 x "java/lang/String" "value" "[B" (.ref t)) (V_t : Arv Z h0 t kb .byte (Int32.ofNat (2 * (cs).length)) vs (.int 0)) (hu : own_u16 vs cs) (hp : ∀ c ∈ cs, ¬ c < 0 ∧ ¬ (65535 : Int32) < c) (hl : (cs).length ≤ 3) (hi : i < (cs).length) :
    MetFree l (⟨"java/lang/String", "charAt", "(I)C"⟩ : MethodName) (head1 (Jvm.Cond.code (⟨"java/lang/String", "charAt", "(I)C"⟩ : MethodName) jdk_42_method_56_code 2 (some .char) :: ws) ({ frames := 4, cells := 0, slots := 0, locals := 53 } : Room)) (fun αs U => αs = #[(.ref x), (.int (Int32.ofNat i))] ∧ Z.Warmed39 U.vm ∧ U.heap = h0) (fun _ _ _ _ _ => True) (fun _ U o U' => ∃ v L, o = .returned v ∧ Q_cha cs i h0 n0 v U'.heap L ∧ FrameEnd U o U' L ({ frames := 4, cells := 0, slots := 0, locals := 53 } : Room).cells ({ frames := 4, cells := 0, slots := 0, locals := 53 } : Room).slots) := by
  refine MetFree.of_bodySF (plainFor_of_name pno_2) hisR ?_
  intro pP e s m args below meth cC s₁ Bd hml0 hP hK
  obtain ⟨rfl, hZ, hh⟩ := hP
  have hx := Bd.exec
  have hby := Bd.bytes
  have hml : cC.maxLocals = 2 := hml0
  have hown : s.vm.findClass "java/lang/String" = some m.cls := findClass_of_methodNamed Bd.named
  have hnm := (name_of_methodNamed Bd.named Bd.method).1
  have X0 : Stand pP l e ({ frames := 4, cells := 0, slots := 0, locals := 53 } : Room) s m #[(.ref x), (.int (Int32.ofNat i))] below meth cC s₁ [] 0 0 := Stand.of_body Bd
  have e0 : s₁.heap = h0 := by rw [← hh, Bd.state]; rfl
  have N0 := Fr.nil n0
  have KC0 : Keep h0 h0 [] := Keep.refl h0 _
  obtain ⟨A0, hA0⟩ : ∃ z, z = s₁.setTop (entryFrame m #[(.ref x), (.int (Int32.ofNat i))] 2) := ⟨_, rfl⟩
  have pre0 : ∀ τ, Steps pP.tables e below (s₁.setTop (mkF m 0 #[.val (.ref x), .val (.int (Int32.ofNat i))] [])) τ → Steps pP.tables e below A0 τ := fun τ κ => by rw [hA0]; exact castTop (ef_rm_chaU m x (Int32.ofNat i)) κ
  obtain ⟨cq102, kq102, q102a, q102b, q102c⟩ := isOf hZ e0 E_x
  obtain ⟨_, _, ⟨T101, L101, k101, n101⟩, -, X101, ⟨Lc101, hQ101, l101, y101, z101⟩, st101⟩ := X0.virtualBack hx (y := (⟨"java/lang/String", "isLatin1", "()Z"⟩ : MethodName)) (z := (⟨"java/lang/String", "isLatin1", "()Z"⟩ : MethodName)) hown (mvT hZ (hw _ (List.mem_of_getElem? (i := 84) rfl))) (mvT hZ (hw _ (List.mem_of_getElem? (i := 85) rfl))) (notFace_of_selects (args := #[]) (mvT hZ (hw _ (List.mem_of_getElem? (i := 87) rfl)))) (mvT hZ (hw _ (List.mem_of_getElem? (i := 87) rfl))) (mvT hZ (hw _ (List.mem_of_getElem? (i := 86) rfl))) (by decide) (backOf (W := 0) (rm_isl1 l Z a0 hw [] x G1 h0 n0 Z0 O2 P5 X00 F_c) hZ (hw _ (List.mem_of_getElem? (i := 88) rfl)) (hw _ (List.mem_of_getElem? (i := 12) rfl)) (by decide) (by decide)) q102a q102c (g := (mkF m 1 #[.val (.ref x), .val (.int (Int32.ofNat i))] [(.ref x)])) rfl (by rw [hml]; rfl) (Steps.refl _) (argsL := []) (rest := []) (lenOf pdo_6 rfl) rfl (by show 2 * 0 + _ ≤ _; exact Nat.le_of_eq rfl) (hb hby d_rm_chaU_1) (fun _ _ => ⟨rfl, e0, (by decide : 0 + 0 ≤ _), (by decide : 0 + 0 ≤ _)⟩)
  dsimp only [Pt.U, Pt.locs, Pt.cells, Pt.slots] at X101 l101 y101 z101 st101 hQ101
  subst l101 y101 z101
  obtain ⟨rfl, Nq101, eq101⟩ := hQ101
  have N101 := Fr.app N0 Nq101
  have pq103 : ∀ τ, Steps pP.tables e below (T101.setTop (mkF m 4 #[.val (.ref x), .val (.int (Int32.ofNat i))] [(.int (0 : Int32))])) τ → Steps pP.tables e below A0 τ := by
    intro τ κ
    refine pre0 τ ?_
    refine XS.aloadN X0.here hx rfl (hb hby d_rm_chaU_0) rfl rfl ?_
    refine st101.trans ?_
    exact κ
  obtain ⟨T104, X104, e104, st104⟩ := getF X101 hx hZ hown (host := "") (Or.inl (hw _ (List.mem_of_getElem? (i := 30) rfl))) Via.refl eq101 F_v (g := (mkF m 17 #[.val (.ref x), .val (.int (Int32.ofNat i))] [(.ref x)])) rfl rfl (hb hby d_rm_chaU_17)
  have pq105 : ∀ τ, Steps pP.tables e below (T104.setTop (mkF m 20 #[.val (.ref x), .val (.int (Int32.ofNat i))] [(.ref t)])) τ → Steps pP.tables e below A0 τ := by
    intro τ κ
    refine pq103 τ ?_
    refine XS.ifYes X101.here hx rfl (pc0 := 4) (pc' := 16) rfl (hb hby d_rm_chaU_4) rfl ((if0 _ _).trans (teq (by decide : ((0 : Int32) = (0 : Int32)))).1) (by decide) (by decide) ?_
    refine XS.aloadN X101.here hx rfl (hb hby d_rm_chaU_16) rfl rfl ?_
    refine st104 _ ?_
    exact κ
  obtain ⟨_, _, ⟨T106, L106, k106, n106⟩, -, X106, ⟨Lc106, hQ106, l106, y106, z106⟩, st106⟩ := Jvm.LawKit.callS X104 hx (y := (⟨"java/lang/StringUTF16", "charAt", "([BI)C"⟩ : MethodName)) hown (mvT hZ (hw _ (List.mem_of_getElem? (i := 104) rfl))) (mvT hZ (hw _ (List.mem_of_getElem? (i := 105) rfl))) (mvT hZ (hw _ (List.mem_of_getElem? (i := 49) rfl))) (mvT hZ (hw _ (List.mem_of_getElem? (i := 106) rfl))) (by decide) (backOf (W := 0) (rm_uch l Z a0 hw [] t kb cs vs i G3 h0 n0 Z0 O4 rG3 OA OH OL X00 V_t hu hp hl hi) hZ (hw _ (List.mem_of_getElem? (i := 106) rfl)) (hw _ (List.mem_of_getElem? (i := 49) rfl)) (by decide) (by decide)) (g := (mkF m 21 #[.val (.ref x), .val (.int (Int32.ofNat i))] [(.int (Int32.ofNat i)), (.ref t)])) rfl (by rw [hml]; rfl) (argsL := [(.ref t), (.int (Int32.ofNat i))]) (rest := []) (lenOf pdo_5 rfl) rfl (by show 2 * 0 + _ ≤ _; exact Nat.le_of_eq rfl) (hb hby d_rm_chaU_21) (fun _ _ => ⟨rfl, e104, (by decide : 0 + 0 ≤ _), (by decide : 0 + 0 ≤ _)⟩)
  dsimp only [Pt.U, Pt.locs, Pt.cells, Pt.slots] at X106 l106 y106 z106 st106 hQ106
  subst l106 y106 z106
  obtain ⟨rfl, Nq106, eq106⟩ := hQ106
  have N106 := Fr.app N101 Nq106
  have pq107 : ∀ τ, Steps pP.tables e below (T106.setTop (mkF m 24 #[.val (.ref x), .val (.int (Int32.ofNat i))] [(.int (cs.getD i 0))])) τ → Steps pP.tables e below A0 τ := by
    intro τ κ
    refine pq105 τ ?_
    refine XS.iloadN X104.here hx rfl (hb hby d_rm_chaU_20) rfl ?_
    refine st106 _ ?_
    exact κ
  obtain ⟨fs, hr, hrun, hended, hW, hsame⟩ := X106.leave (v := some (.int (nar .char (cs.getD i 0)))) (fun h => by rw [Bd.returns] at h; cases h)
  have pqE := pq107
  rw [hA0] at pqE
  refine ⟨_, _, pqE _ ?_, hrun, hended, _, _, rfl, ?_, ⟨_, rfl⟩, hW, hsame.mono (by decide) (by decide)⟩
  · show Steps pP.tables e below (T106.setTop (mkF m 24 #[.val (.ref x), .val (.int (Int32.ofNat i))] [(.int (cs.getD i 0))])) _
    exact retN X106 hx (t := .char) Bd.returns (by simp) (hb hby d_rm_chaU_24) hr
  · show Q_cha cs i h0 n0 _ T106.heap _
    rw [eq106]
    exact ⟨by rw [own_narU (own_getmem hp hi)], N106, rfl⟩
set_option maxRecDepth 65536 in
theorem rm_cha (l : Launch) (Z : State) (a0 : Array Value) (hw : ∀ d ∈ tables_1, d.before a0 Z = true) (ws : List Jvm.Cond) (x : Addr) (cs : List Int32) (i : Nat) (G1 : Int32) (G3 : Value) (h0 : Heap) (n0 : Nat) (Z0 : n0 ≤ h0.size) (O2 : Sta Z Z.heap "java/lang/String" "COMPACT_STRINGS" "Z" (.int G1)) (P5 : ¬ (G1 = (0 : Int32))) (X00 : Old Z n0 h0) (O4 : Sta Z Z.heap "jdk/internal/util/Preconditions" "SIOOBE_FORMATTER" "Ljava/util/function/BiFunction;" G3) (rG3 : G3.isRef = true) (OA : Sta Z Z.heap "java/lang/StringUTF16" "$assertionsDisabled" "Z" (.int 1)) (OH : Sta Z Z.heap "java/lang/StringUTF16" "HI_BYTE_SHIFT" "I" (.int 0)) (OL : Sta Z Z.heap "java/lang/StringUTF16" "LO_BYTE_SHIFT" "I" (.int 8)) (hl : (cs).length ≤ 3) (hi : i < (cs).length) (U : UStr Z h0 x cs) :
    MetFree l (⟨"java/lang/String", "charAt", "(I)C"⟩ : MethodName) (head1 (Jvm.Cond.code (⟨"java/lang/String", "charAt", "(I)C"⟩ : MethodName) jdk_42_method_56_code 2 (some .char) :: ws) ({ frames := 4, cells := 0, slots := 0, locals := 53 } : Room)) (fun αs U => αs = #[(.ref x), (.int (Int32.ofNat i))] ∧ Z.Warmed39 U.vm ∧ U.heap = h0) (fun _ _ _ _ _ => True) (fun _ U o U' => ∃ v L, o = .returned v ∧ Q_cha cs i h0 n0 v U'.heap L ∧ FrameEnd U o U' L ({ frames := 4, cells := 0, slots := 0, locals := 53 } : Room).cells ({ frames := 4, cells := 0, slots := 0, locals := 53 } : Room).slots) := by
  obtain ⟨t, kb, E, Fv, ⟨Fc, Vt, hp⟩ | ⟨Fc, vs, Vt, hu, hp⟩⟩ := U
  · exact rm_chaL l Z a0 hw ws x t kb cs i G1 G3 h0 n0 Z0 O2 P5 X00 O4 rG3 OA OH OL E Fc Fv Vt hp hl hi
  · exact rm_chaU l Z a0 hw ws x t kb cs vs i G1 G3 h0 n0 Z0 O2 P5 X00 O4 rG3 OA OH OL E Fc Fv Vt hu hp hl hi
def Q_sw (cs ds : List Int32) (h0 : Heap) (n0 : Nat) (v : Option Value) (h : Heap) (L : List Loc) : Prop := v = some (.int (own_sw cs ds)) ∧ Fr n0 L ∧ h = h0
theorem d_rm_sw_0 : decode prog_37_method_3_code 0 = .ok (.aload_n 0, 1) := by decide +kernel
theorem d_rm_sw_1 : decode prog_37_method_3_code 1 = .ok (.invokevirtual 7, 3) := by decide +kernel
theorem d_rm_sw_4 : decode prog_37_method_3_code 4 = .ok (.aload_n 1, 1) := by decide +kernel
theorem d_rm_sw_5 : decode prog_37_method_3_code 5 = .ok (.invokevirtual 7, 3) := by decide +kernel
theorem d_rm_sw_8 : decode prog_37_method_3_code 8 = .ok (.if_icmp .lt 7, 3) := by decide +kernel
theorem d_rm_sw_11 : decode prog_37_method_3_code 11 = .ok (.iconst 1, 1) := by decide +kernel
theorem d_rm_sw_12 : decode prog_37_method_3_code 12 = .ok (.goto 4, 3) := by decide +kernel
theorem d_rm_sw_15 : decode prog_37_method_3_code 15 = .ok (.iconst 0, 1) := by decide +kernel
theorem d_rm_sw_16 : decode prog_37_method_3_code 16 = .ok (.istore_n 2, 1) := by decide +kernel
theorem d_rm_sw_17 : decode prog_37_method_3_code 17 = .ok (.iconst 0, 1) := by decide +kernel
theorem d_rm_sw_18 : decode prog_37_method_3_code 18 = .ok (.istore_n 3, 1) := by decide +kernel
theorem d_rm_sw_19 : decode prog_37_method_3_code 19 = .ok (.iload_n 2, 1) := by decide +kernel
theorem d_rm_sw_20 : decode prog_37_method_3_code 20 = .ok (.ifCond .eq 42, 3) := by decide +kernel
theorem d_rm_sw_23 : decode prog_37_method_3_code 23 = .ok (.iload_n 3, 1) := by decide +kernel
theorem d_rm_sw_24 : decode prog_37_method_3_code 24 = .ok (.aload_n 1, 1) := by decide +kernel
theorem d_rm_sw_25 : decode prog_37_method_3_code 25 = .ok (.invokevirtual 7, 3) := by decide +kernel
theorem d_rm_sw_28 : decode prog_37_method_3_code 28 = .ok (.if_icmp .ge 34, 3) := by decide +kernel
theorem d_rm_sw_31 : decode prog_37_method_3_code 31 = .ok (.aload_n 0, 1) := by decide +kernel
theorem d_rm_sw_32 : decode prog_37_method_3_code 32 = .ok (.iload_n 3, 1) := by decide +kernel
theorem d_rm_sw_33 : decode prog_37_method_3_code 33 = .ok (.invokevirtual 19, 3) := by decide +kernel
theorem d_rm_sw_36 : decode prog_37_method_3_code 36 = .ok (.invokestatic 23, 3) := by decide +kernel
theorem d_rm_sw_39 : decode prog_37_method_3_code 39 = .ok (.aload_n 1, 1) := by decide +kernel
theorem d_rm_sw_40 : decode prog_37_method_3_code 40 = .ok (.iload_n 3, 1) := by decide +kernel
theorem d_rm_sw_41 : decode prog_37_method_3_code 41 = .ok (.invokevirtual 19, 3) := by decide +kernel
theorem d_rm_sw_44 : decode prog_37_method_3_code 44 = .ok (.invokestatic 23, 3) := by decide +kernel
theorem d_rm_sw_47 : decode prog_37_method_3_code 47 = .ok (.if_icmp .ne 7, 3) := by decide +kernel
theorem d_rm_sw_50 : decode prog_37_method_3_code 50 = .ok (.iconst 1, 1) := by decide +kernel
theorem d_rm_sw_51 : decode prog_37_method_3_code 51 = .ok (.goto 4, 3) := by decide +kernel
theorem d_rm_sw_54 : decode prog_37_method_3_code 54 = .ok (.iconst 0, 1) := by decide +kernel
theorem d_rm_sw_55 : decode prog_37_method_3_code 55 = .ok (.istore_n 2, 1) := by decide +kernel
theorem d_rm_sw_56 : decode prog_37_method_3_code 56 = .ok (.iinc 3 1, 3) := by decide +kernel
theorem d_rm_sw_59 : decode prog_37_method_3_code 59 = .ok (.goto (-40), 3) := by decide +kernel
theorem d_rm_sw_62 : decode prog_37_method_3_code 62 = .ok (.iload_n 2, 1) := by decide +kernel
theorem d_rm_sw_63 : decode prog_37_method_3_code 63 = .ok (.ireturn, 1) := by decide +kernel
theorem ef_rm_sw (m : MethodId) (x0 : Addr) (x1 : Addr) : entryFrame m #[(.ref x0), (.ref x1)] 4 = mkF m 0 #[.val (.ref x0), .val (.ref x1), .unset, .unset] [] := by first | (simp [entryFrame, mkF, argsToLocals, Value.category]; done) | rfl
set_option maxRecDepth 65536 in
set_option maxHeartbeats 3000000 in
theorem rm_sw (l : Launch) (Z : State) (a0 : Array Value) (hw : ∀ d ∈ tables_1, d.before a0 Z = true) (ws : List Jvm.Cond) (x y : Addr) (cs ds : List Int32) (G1 : Int32) (G3 : Value) (h0 : Heap) (n0 : Nat) (Z0 : n0 ≤ h0.size) (O2 : Sta Z Z.heap "java/lang/String" "COMPACT_STRINGS" "Z" (.int G1)) (P5 : ¬ (G1 = (0 : Int32))) (X00 : Old Z n0 h0) (O4 : Sta Z Z.heap "jdk/internal/util/Preconditions" "SIOOBE_FORMATTER" "Ljava/util/function/BiFunction;" G3) (rG3 : G3.isRef = true) (OA : Sta Z Z.heap "java/lang/StringUTF16" "$assertionsDisabled" "Z" (.int 1)) (OH : Sta Z Z.heap "java/lang/StringUTF16" "HI_BYTE_SHIFT" "I" (.int 0)) (OL : Sta Z Z.heap "java/lang/StringUTF16" "LO_BYTE_SHIFT" "I" (.int 8)) (hl1 : (cs).length ≤ 3) (hl2 : (ds).length ≤ 3) (U1 : UStr Z h0 x cs) (U2 : UStr Z h0 y ds) :
    MetFree l (⟨"com/example/sites_into_slices/sitesintoslices/identity/AsciiCase", "startsWithIgnoringCase", "(Ljava/lang/String;Ljava/lang/String;)Z"⟩ : MethodName) (head1 (Jvm.Cond.code (⟨"com/example/sites_into_slices/sitesintoslices/identity/AsciiCase", "startsWithIgnoringCase", "(Ljava/lang/String;Ljava/lang/String;)Z"⟩ : MethodName) prog_37_method_3_code 4 (some .boolean) :: ws) ({ frames := 5, cells := 0, slots := 0, locals := 67 } : Room)) (fun αs U => αs = #[(.ref x), (.ref y)] ∧ Z.Warmed39 U.vm ∧ U.heap = h0) (fun _ _ _ _ _ => True) (fun _ U o U' => ∃ v L, o = .returned v ∧ Q_sw cs ds h0 n0 v U'.heap L ∧ FrameEnd U o U' L ({ frames := 5, cells := 0, slots := 0, locals := 67 } : Room).cells ({ frames := 5, cells := 0, slots := 0, locals := 67 } : Room).slots) := by
  refine MetFree.of_bodySF (plainFor_of_name pno_1) hisR ?_
  intro pP e s m args below meth cC s₁ Bd hml0 hP hK
  obtain ⟨rfl, hZ, hh⟩ := hP
  have hx := Bd.exec
  have hby := Bd.bytes
  have hml : cC.maxLocals = 4 := hml0
  have hown : s.vm.findClass "com/example/sites_into_slices/sitesintoslices/identity/AsciiCase" = some m.cls := findClass_of_methodNamed Bd.named
  have hnm := (name_of_methodNamed Bd.named Bd.method).1
  have X0 : Stand pP l e ({ frames := 5, cells := 0, slots := 0, locals := 67 } : Room) s m #[(.ref x), (.ref y)] below meth cC s₁ [] 0 0 := Stand.of_body Bd
  have e0 : s₁.heap = h0 := by rw [← hh, Bd.state]; rfl
  have N0 := Fr.nil n0
  have KC0 : Keep h0 h0 [] := Keep.refl h0 _
  obtain ⟨A0, hA0⟩ : ∃ z, z = s₁.setTop (entryFrame m #[(.ref x), (.ref y)] 4) := ⟨_, rfl⟩
  have pre0 : ∀ τ, Steps pP.tables e below (s₁.setTop (mkF m 0 #[.val (.ref x), .val (.ref y), .unset, .unset] [])) τ → Steps pP.tables e below A0 τ := fun τ κ => by rw [hA0]; exact castTop (ef_rm_sw m x y) κ
  obtain ⟨cq102, kq102, q102a, q102b, q102c⟩ := isOf hZ e0 U1.exa
  obtain ⟨_, _, ⟨T101, L101, k101, n101⟩, -, X101, ⟨Lc101, hQ101, l101, y101, z101⟩, st101⟩ := X0.virtualBack hx (y := (⟨"java/lang/String", "length", "()I"⟩ : MethodName)) (z := (⟨"java/lang/String", "length", "()I"⟩ : MethodName)) hown (mvT hZ (hw _ (List.mem_of_getElem? (i := 36) rfl))) (mvT hZ (hw _ (List.mem_of_getElem? (i := 37) rfl))) (notFace_of_selects (args := #[]) (mvT hZ (hw _ (List.mem_of_getElem? (i := 39) rfl)))) (mvT hZ (hw _ (List.mem_of_getElem? (i := 39) rfl))) (mvT hZ (hw _ (List.mem_of_getElem? (i := 38) rfl))) (by decide) (backOf (W := 0) (rm_len l Z a0 hw [] x cs G1 h0 n0 Z0 O2 P5 X00 hl1 U1) hZ (hw _ (List.mem_of_getElem? (i := 40) rfl)) (hw _ (List.mem_of_getElem? (i := 12) rfl)) (by decide) (by decide)) q102a q102c (g := (mkF m 1 #[.val (.ref x), .val (.ref y), .unset, .unset] [(.ref x)])) rfl (by rw [hml]; rfl) (Steps.refl _) (argsL := []) (rest := []) (lenOf pdo_7 rfl) rfl (by show 2 * 0 + _ ≤ _; exact Nat.le_of_eq rfl) (hb hby d_rm_sw_1) (fun _ _ => ⟨rfl, e0, (by decide : 0 + 0 ≤ _), (by decide : 0 + 0 ≤ _)⟩)
  dsimp only [Pt.U, Pt.locs, Pt.cells, Pt.slots] at X101 l101 y101 z101 st101 hQ101
  subst l101 y101 z101
  obtain ⟨rfl, Nq101, eq101⟩ := hQ101
  have N101 := Fr.app N0 Nq101
  have pq103 : ∀ τ, Steps pP.tables e below (T101.setTop (mkF m 4 #[.val (.ref x), .val (.ref y), .unset, .unset] [(.int (Int32.ofNat (cs).length))])) τ → Steps pP.tables e below A0 τ := by
    intro τ κ
    refine pre0 τ ?_
    refine XS.aloadN X0.here hx rfl (hb hby d_rm_sw_0) rfl rfl ?_
    refine st101.trans ?_
    exact κ
  obtain ⟨cq105, kq105, q105a, q105b, q105c⟩ := isOf hZ eq101 U2.exa
  obtain ⟨_, _, ⟨T104, L104, k104, n104⟩, -, X104, ⟨Lc104, hQ104, l104, y104, z104⟩, st104⟩ := X101.virtualBack hx (y := (⟨"java/lang/String", "length", "()I"⟩ : MethodName)) (z := (⟨"java/lang/String", "length", "()I"⟩ : MethodName)) hown (mvT hZ (hw _ (List.mem_of_getElem? (i := 36) rfl))) (mvT hZ (hw _ (List.mem_of_getElem? (i := 37) rfl))) (notFace_of_selects (args := #[]) (mvT hZ (hw _ (List.mem_of_getElem? (i := 39) rfl)))) (mvT hZ (hw _ (List.mem_of_getElem? (i := 39) rfl))) (mvT hZ (hw _ (List.mem_of_getElem? (i := 38) rfl))) (by decide) (backOf (W := 1) (rm_len l Z a0 hw [] y ds G1 h0 n0 Z0 O2 P5 X00 hl2 U2) hZ (hw _ (List.mem_of_getElem? (i := 40) rfl)) (hw _ (List.mem_of_getElem? (i := 12) rfl)) (by decide) (by decide)) q105a q105c (g := (mkF m 5 #[.val (.ref x), .val (.ref y), .unset, .unset] [(.ref y), (.int (Int32.ofNat (cs).length))])) rfl (by rw [hml]; rfl) (Steps.refl _) (argsL := []) (rest := [(.int (Int32.ofNat (cs).length))]) (lenOf pdo_7 rfl) rfl (by show 2 * 0 + _ ≤ _; exact Nat.le_of_eq rfl) (hb hby d_rm_sw_5) (fun _ _ => ⟨rfl, eq101, (by decide : 0 + 0 ≤ _), (by decide : 0 + 0 ≤ _)⟩)
  dsimp only [Pt.U, Pt.locs, Pt.cells, Pt.slots] at X104 l104 y104 z104 st104 hQ104
  subst l104 y104 z104
  obtain ⟨rfl, Nq104, eq104⟩ := hQ104
  have N104 := Fr.app N101 Nq104
  have pq106 : ∀ τ, Steps pP.tables e below (T104.setTop (mkF m 8 #[.val (.ref x), .val (.ref y), .unset, .unset] [(.int (Int32.ofNat (ds).length)), (.int (Int32.ofNat (cs).length))])) τ → Steps pP.tables e below A0 τ := by
    intro τ κ
    refine pq103 τ ?_
    refine XS.aloadN X101.here hx rfl (hb hby d_rm_sw_4) rfl rfl ?_
    refine st104.trans ?_
    exact κ
  by_cases hc8_107 : (Int32.ofNat (cs).length) < (Int32.ofNat (ds).length)
  · skip
    obtain ⟨fs, hr, hrun, hended, hW, hsame⟩ := X104.leave (v := some (.int (0 : Int32))) (fun h => by rw [Bd.returns] at h; cases h)
    have pqE := pq106
    rw [hA0] at pqE
    refine ⟨_, _, pqE _ ?_, hrun, hended, _, _, rfl, ?_, ⟨_, rfl⟩, hW, hsame.mono (by decide) (by decide)⟩
    · refine XS.icmpYes X104.here hx rfl (pc0 := 8) (pc' := 15) rfl (hb hby d_rm_sw_8) rfl (tlt hc8_107).1 (by decide) (by decide) ?_
      refine XS.iconst X104.here hx rfl (hb hby d_rm_sw_15) ?_
      refine XS.istoreN X104.here hx rfl (hb hby d_rm_sw_16) rfl (l' := #[.val (.ref x), .val (.ref y), .val (.int (0 : Int32)), .unset]) rfl ?_
      refine XS.iconst X104.here hx rfl (hb hby d_rm_sw_17) ?_
      refine XS.istoreN X104.here hx rfl (hb hby d_rm_sw_18) rfl (l' := #[.val (.ref x), .val (.ref y), .val (.int (0 : Int32)), .val (.int (0 : Int32))]) rfl ?_
      refine XS.iloadN X104.here hx rfl (hb hby d_rm_sw_19) rfl ?_
      refine XS.ifYes X104.here hx rfl (pc0 := 20) (pc' := 62) rfl (hb hby d_rm_sw_20) rfl ((if0 _ _).trans (teq (by decide : ((0 : Int32) = (0 : Int32)))).1) (by decide) (by decide) ?_
      refine XS.iloadN X104.here hx rfl (hb hby d_rm_sw_62) rfl ?_
      show Steps pP.tables e below (T104.setTop (mkF m 63 #[.val (.ref x), .val (.ref y), .val (.int (0 : Int32)), .val (.int (0 : Int32))] [(.int (0 : Int32))])) _
      exact retN X104 hx (t := .boolean) Bd.returns (by simp) (hb hby d_rm_sw_63) hr
    · show Q_sw cs ds h0 n0 _ T104.heap _
      rw [eq104]
      exact ⟨by first | (simp only [own_sw, hc8_107, if_true, if_false]; done) | (simp only [own_sw, hc8_107, if_true, if_false]; rfl), N104, rfl⟩
  · skip
    obtain ⟨cq109, kq109, q109a, q109b, q109c⟩ := isOf hZ eq104 U2.exa
    obtain ⟨_, _, ⟨T108, L108, k108, n108⟩, -, X108, ⟨Lc108, hQ108, l108, y108, z108⟩, st108⟩ := X104.virtualBack hx (y := (⟨"java/lang/String", "length", "()I"⟩ : MethodName)) (z := (⟨"java/lang/String", "length", "()I"⟩ : MethodName)) hown (mvT hZ (hw _ (List.mem_of_getElem? (i := 36) rfl))) (mvT hZ (hw _ (List.mem_of_getElem? (i := 37) rfl))) (notFace_of_selects (args := #[]) (mvT hZ (hw _ (List.mem_of_getElem? (i := 39) rfl)))) (mvT hZ (hw _ (List.mem_of_getElem? (i := 39) rfl))) (mvT hZ (hw _ (List.mem_of_getElem? (i := 38) rfl))) (by decide) (backOf (W := 1) (rm_len l Z a0 hw [] y ds G1 h0 n0 Z0 O2 P5 X00 hl2 U2) hZ (hw _ (List.mem_of_getElem? (i := 40) rfl)) (hw _ (List.mem_of_getElem? (i := 12) rfl)) (by decide) (by decide)) q109a q109c (g := (mkF m 25 #[.val (.ref x), .val (.ref y), .val (.int (1 : Int32)), .val (.int (0 : Int32))] [(.ref y), (.int (0 : Int32))])) rfl (by rw [hml]; rfl) (Steps.refl _) (argsL := []) (rest := [(.int (0 : Int32))]) (lenOf pdo_7 rfl) rfl (by show 2 * 0 + _ ≤ _; exact Nat.le_of_eq rfl) (hb hby d_rm_sw_25) (fun _ _ => ⟨rfl, eq104, (by decide : 0 + 0 ≤ _), (by decide : 0 + 0 ≤ _)⟩)
    dsimp only [Pt.U, Pt.locs, Pt.cells, Pt.slots] at X108 l108 y108 z108 st108 hQ108
    subst l108 y108 z108
    obtain ⟨rfl, Nq108, eq108⟩ := hQ108
    have N108 := Fr.app N104 Nq108
    have pq110 : ∀ τ, Steps pP.tables e below (T108.setTop (mkF m 28 #[.val (.ref x), .val (.ref y), .val (.int (1 : Int32)), .val (.int (0 : Int32))] [(.int (Int32.ofNat (ds).length)), (.int (0 : Int32))])) τ → Steps pP.tables e below A0 τ := by
      intro τ κ
      refine pq106 τ ?_
      refine XS.icmpNo X104.here hx rfl (hb hby d_rm_sw_8) rfl (flt hc8_107).1 ?_
      refine XS.iconst X104.here hx rfl (hb hby d_rm_sw_11) ?_
      refine XS.goto X104.here hx rfl (pc0 := 12) (pc' := 16) rfl (hb hby d_rm_sw_12) (by decide) (by decide) ?_
      refine XS.istoreN X104.here hx rfl (hb hby d_rm_sw_16) rfl (l' := #[.val (.ref x), .val (.ref y), .val (.int (1 : Int32)), .unset]) rfl ?_
      refine XS.iconst X104.here hx rfl (hb hby d_rm_sw_17) ?_
      refine XS.istoreN X104.here hx rfl (hb hby d_rm_sw_18) rfl (l' := #[.val (.ref x), .val (.ref y), .val (.int (1 : Int32)), .val (.int (0 : Int32))]) rfl ?_
      refine XS.iloadN X104.here hx rfl (hb hby d_rm_sw_19) rfl ?_
      refine XS.ifNo X104.here hx rfl (hb hby d_rm_sw_20) rfl ((if0 _ _).trans (feq (by decide : ¬ ((1 : Int32) = (0 : Int32)))).1) ?_
      refine XS.iloadN X104.here hx rfl (hb hby d_rm_sw_23) rfl ?_
      refine XS.aloadN X104.here hx rfl (hb hby d_rm_sw_24) rfl rfl ?_
      refine st108.trans ?_
      exact κ
    by_cases hc28_111 : (0 : Int32) < (Int32.ofNat (ds).length)
    · skip
      obtain ⟨cq113, kq113, q113a, q113b, q113c⟩ := isOf hZ eq108 U1.exa
      obtain ⟨_, _, ⟨T112, L112, k112, n112⟩, -, X112, ⟨Lc112, hQ112, l112, y112, z112⟩, st112⟩ := X108.virtualBack hx (y := (⟨"java/lang/String", "charAt", "(I)C"⟩ : MethodName)) (z := (⟨"java/lang/String", "charAt", "(I)C"⟩ : MethodName)) hown (mvT hZ (hw _ (List.mem_of_getElem? (i := 79) rfl))) (mvT hZ (hw _ (List.mem_of_getElem? (i := 80) rfl))) (notFace_of_selects (args := #[]) (mvT hZ (hw _ (List.mem_of_getElem? (i := 82) rfl)))) (mvT hZ (hw _ (List.mem_of_getElem? (i := 82) rfl))) (mvT hZ (hw _ (List.mem_of_getElem? (i := 81) rfl))) (by decide) (backOf (W := 0) (rm_cha l Z a0 hw [] x cs 0 G1 G3 h0 n0 Z0 O2 P5 X00 O4 rG3 OA OH OL hl1 (own_idx 0 hl1 hl2 (by decide) hc8_107 hc28_111).1 U1) hZ (hw _ (List.mem_of_getElem? (i := 83) rfl)) (hw _ (List.mem_of_getElem? (i := 12) rfl)) (by decide) (by decide)) q113a q113c (g := (mkF m 33 #[.val (.ref x), .val (.ref y), .val (.int (1 : Int32)), .val (.int (0 : Int32))] [(.int (0 : Int32)), (.ref x)])) rfl (by rw [hml]; rfl) (Steps.refl _) (argsL := [(.int (0 : Int32))]) (rest := []) (lenOf pdo_8 rfl) rfl (by show 2 * 0 + _ ≤ _; exact Nat.le_of_eq rfl) (hb hby d_rm_sw_33) (fun _ _ => ⟨rfl, eq108, (by decide : 0 + 0 ≤ _), (by decide : 0 + 0 ≤ _)⟩)
      dsimp only [Pt.U, Pt.locs, Pt.cells, Pt.slots] at X112 l112 y112 z112 st112 hQ112
      subst l112 y112 z112
      obtain ⟨rfl, Nq112, eq112⟩ := hQ112
      have N112 := Fr.app N108 Nq112
      have pq114 : ∀ τ, Steps pP.tables e below (T112.setTop (mkF m 36 #[.val (.ref x), .val (.ref y), .val (.int (1 : Int32)), .val (.int (0 : Int32))] [(.int (cs.getD 0 0))])) τ → Steps pP.tables e below A0 τ := by
        intro τ κ
        refine pq110 τ ?_
        refine XS.icmpNo X108.here hx rfl (hb hby d_rm_sw_28) rfl (tlt hc28_111).2.1 ?_
        refine XS.aloadN X108.here hx rfl (hb hby d_rm_sw_31) rfl rfl ?_
        refine XS.iloadN X108.here hx rfl (hb hby d_rm_sw_32) rfl ?_
        refine st112.trans ?_
        exact κ
      obtain ⟨_, _, ⟨T115, L115, k115, n115⟩, -, X115, ⟨Lc115, hQ115, l115, y115, z115⟩, st115⟩ := Jvm.LawKit.callS X112 hx (y := (⟨"com/example/sites_into_slices/sitesintoslices/identity/AsciiCase", "toLowerCase", "(C)C"⟩ : MethodName)) hown (mvT hZ (hw _ (List.mem_of_getElem? (i := 101) rfl))) (mvT hZ (hw _ (List.mem_of_getElem? (i := 102) rfl))) (mvT hZ (hw _ (List.mem_of_getElem? (i := 34) rfl))) (mvT hZ (hw _ (List.mem_of_getElem? (i := 103) rfl))) (by decide) (backOf (W := 0) (rm_low l Z a0 hw [] (cs.getD 0 0) h0 n0 Z0 ) hZ (hw _ (List.mem_of_getElem? (i := 103) rfl)) (hw _ (List.mem_of_getElem? (i := 34) rfl)) (by decide) (by decide)) (g := (mkF m 36 #[.val (.ref x), .val (.ref y), .val (.int (1 : Int32)), .val (.int (0 : Int32))] [(.int (cs.getD 0 0))])) rfl (by rw [hml]; rfl) (argsL := [(.int (cs.getD 0 0))]) (rest := []) (lenOf pdo_9 rfl) rfl (by show 2 * 0 + _ ≤ _; exact Nat.le_of_eq rfl) (hb hby d_rm_sw_36) (fun _ _ => ⟨rfl, eq112, (by decide : 0 + 0 ≤ _), (by decide : 0 + 0 ≤ _)⟩)
      dsimp only [Pt.U, Pt.locs, Pt.cells, Pt.slots] at X115 l115 y115 z115 st115 hQ115
      subst l115 y115 z115
      obtain ⟨rfl, Nq115, eq115⟩ := hQ115
      have N115 := Fr.app N112 Nq115
      have pq116 : ∀ τ, Steps pP.tables e below (T115.setTop (mkF m 39 #[.val (.ref x), .val (.ref y), .val (.int (1 : Int32)), .val (.int (0 : Int32))] [(.int (own_lo (cs.getD 0 0)))])) τ → Steps pP.tables e below A0 τ := by
        intro τ κ
        refine pq114 τ ?_
        refine st115 _ ?_
        exact κ
      obtain ⟨cq118, kq118, q118a, q118b, q118c⟩ := isOf hZ eq115 U2.exa
      obtain ⟨_, _, ⟨T117, L117, k117, n117⟩, -, X117, ⟨Lc117, hQ117, l117, y117, z117⟩, st117⟩ := X115.virtualBack hx (y := (⟨"java/lang/String", "charAt", "(I)C"⟩ : MethodName)) (z := (⟨"java/lang/String", "charAt", "(I)C"⟩ : MethodName)) hown (mvT hZ (hw _ (List.mem_of_getElem? (i := 79) rfl))) (mvT hZ (hw _ (List.mem_of_getElem? (i := 80) rfl))) (notFace_of_selects (args := #[]) (mvT hZ (hw _ (List.mem_of_getElem? (i := 82) rfl)))) (mvT hZ (hw _ (List.mem_of_getElem? (i := 82) rfl))) (mvT hZ (hw _ (List.mem_of_getElem? (i := 81) rfl))) (by decide) (backOf (W := 1) (rm_cha l Z a0 hw [] y ds 0 G1 G3 h0 n0 Z0 O2 P5 X00 O4 rG3 OA OH OL hl2 (own_idx 0 hl1 hl2 (by decide) hc8_107 hc28_111).2 U2) hZ (hw _ (List.mem_of_getElem? (i := 83) rfl)) (hw _ (List.mem_of_getElem? (i := 12) rfl)) (by decide) (by decide)) q118a q118c (g := (mkF m 41 #[.val (.ref x), .val (.ref y), .val (.int (1 : Int32)), .val (.int (0 : Int32))] [(.int (0 : Int32)), (.ref y), (.int (own_lo (cs.getD 0 0)))])) rfl (by rw [hml]; rfl) (Steps.refl _) (argsL := [(.int (0 : Int32))]) (rest := [(.int (own_lo (cs.getD 0 0)))]) (lenOf pdo_8 rfl) rfl (by show 2 * 0 + _ ≤ _; exact Nat.le_of_eq rfl) (hb hby d_rm_sw_41) (fun _ _ => ⟨rfl, eq115, (by decide : 0 + 0 ≤ _), (by decide : 0 + 0 ≤ _)⟩)
      dsimp only [Pt.U, Pt.locs, Pt.cells, Pt.slots] at X117 l117 y117 z117 st117 hQ117
      subst l117 y117 z117
      obtain ⟨rfl, Nq117, eq117⟩ := hQ117
      have N117 := Fr.app N115 Nq117
      have pq119 : ∀ τ, Steps pP.tables e below (T117.setTop (mkF m 44 #[.val (.ref x), .val (.ref y), .val (.int (1 : Int32)), .val (.int (0 : Int32))] [(.int (ds.getD 0 0)), (.int (own_lo (cs.getD 0 0)))])) τ → Steps pP.tables e below A0 τ := by
        intro τ κ
        refine pq116 τ ?_
        refine XS.aloadN X115.here hx rfl (hb hby d_rm_sw_39) rfl rfl ?_
        refine XS.iloadN X115.here hx rfl (hb hby d_rm_sw_40) rfl ?_
        refine st117.trans ?_
        exact κ
      obtain ⟨_, _, ⟨T120, L120, k120, n120⟩, -, X120, ⟨Lc120, hQ120, l120, y120, z120⟩, st120⟩ := Jvm.LawKit.callS X117 hx (y := (⟨"com/example/sites_into_slices/sitesintoslices/identity/AsciiCase", "toLowerCase", "(C)C"⟩ : MethodName)) hown (mvT hZ (hw _ (List.mem_of_getElem? (i := 101) rfl))) (mvT hZ (hw _ (List.mem_of_getElem? (i := 102) rfl))) (mvT hZ (hw _ (List.mem_of_getElem? (i := 34) rfl))) (mvT hZ (hw _ (List.mem_of_getElem? (i := 103) rfl))) (by decide) (backOf (W := 1) (rm_low l Z a0 hw [] (ds.getD 0 0) h0 n0 Z0 ) hZ (hw _ (List.mem_of_getElem? (i := 103) rfl)) (hw _ (List.mem_of_getElem? (i := 34) rfl)) (by decide) (by decide)) (g := (mkF m 44 #[.val (.ref x), .val (.ref y), .val (.int (1 : Int32)), .val (.int (0 : Int32))] [(.int (ds.getD 0 0)), (.int (own_lo (cs.getD 0 0)))])) rfl (by rw [hml]; rfl) (argsL := [(.int (ds.getD 0 0))]) (rest := [(.int (own_lo (cs.getD 0 0)))]) (lenOf pdo_9 rfl) rfl (by show 2 * 0 + _ ≤ _; exact Nat.le_of_eq rfl) (hb hby d_rm_sw_44) (fun _ _ => ⟨rfl, eq117, (by decide : 0 + 0 ≤ _), (by decide : 0 + 0 ≤ _)⟩)
      dsimp only [Pt.U, Pt.locs, Pt.cells, Pt.slots] at X120 l120 y120 z120 st120 hQ120
      subst l120 y120 z120
      obtain ⟨rfl, Nq120, eq120⟩ := hQ120
      have N120 := Fr.app N117 Nq120
      have pq121 : ∀ τ, Steps pP.tables e below (T120.setTop (mkF m 47 #[.val (.ref x), .val (.ref y), .val (.int (1 : Int32)), .val (.int (0 : Int32))] [(.int (own_lo (ds.getD 0 0))), (.int (own_lo (cs.getD 0 0)))])) τ → Steps pP.tables e below A0 τ := by
        intro τ κ
        refine pq119 τ ?_
        refine st120 _ ?_
        exact κ
      by_cases hc47_122 : (own_lo (cs.getD 0 0)) = (own_lo (ds.getD 0 0))
      · skip
        obtain ⟨cq124, kq124, q124a, q124b, q124c⟩ := isOf hZ eq120 U2.exa
        obtain ⟨_, _, ⟨T123, L123, k123, n123⟩, -, X123, ⟨Lc123, hQ123, l123, y123, z123⟩, st123⟩ := X120.virtualBack hx (y := (⟨"java/lang/String", "length", "()I"⟩ : MethodName)) (z := (⟨"java/lang/String", "length", "()I"⟩ : MethodName)) hown (mvT hZ (hw _ (List.mem_of_getElem? (i := 36) rfl))) (mvT hZ (hw _ (List.mem_of_getElem? (i := 37) rfl))) (notFace_of_selects (args := #[]) (mvT hZ (hw _ (List.mem_of_getElem? (i := 39) rfl)))) (mvT hZ (hw _ (List.mem_of_getElem? (i := 39) rfl))) (mvT hZ (hw _ (List.mem_of_getElem? (i := 38) rfl))) (by decide) (backOf (W := 1) (rm_len l Z a0 hw [] y ds G1 h0 n0 Z0 O2 P5 X00 hl2 U2) hZ (hw _ (List.mem_of_getElem? (i := 40) rfl)) (hw _ (List.mem_of_getElem? (i := 12) rfl)) (by decide) (by decide)) q124a q124c (g := (mkF m 25 #[.val (.ref x), .val (.ref y), .val (.int (1 : Int32)), .val (.int (1 : Int32))] [(.ref y), (.int (1 : Int32))])) rfl (by rw [hml]; rfl) (Steps.refl _) (argsL := []) (rest := [(.int (1 : Int32))]) (lenOf pdo_7 rfl) rfl (by show 2 * 0 + _ ≤ _; exact Nat.le_of_eq rfl) (hb hby d_rm_sw_25) (fun _ _ => ⟨rfl, eq120, (by decide : 0 + 0 ≤ _), (by decide : 0 + 0 ≤ _)⟩)
        dsimp only [Pt.U, Pt.locs, Pt.cells, Pt.slots] at X123 l123 y123 z123 st123 hQ123
        subst l123 y123 z123
        obtain ⟨rfl, Nq123, eq123⟩ := hQ123
        have N123 := Fr.app N120 Nq123
        have pq125 : ∀ τ, Steps pP.tables e below (T123.setTop (mkF m 28 #[.val (.ref x), .val (.ref y), .val (.int (1 : Int32)), .val (.int (1 : Int32))] [(.int (Int32.ofNat (ds).length)), (.int (1 : Int32))])) τ → Steps pP.tables e below A0 τ := by
          intro τ κ
          refine pq121 τ ?_
          refine XS.icmpNo X120.here hx rfl (hb hby d_rm_sw_47) rfl (teq hc47_122).2 ?_
          refine XS.iconst X120.here hx rfl (hb hby d_rm_sw_50) ?_
          refine XS.goto X120.here hx rfl (pc0 := 51) (pc' := 55) rfl (hb hby d_rm_sw_51) (by decide) (by decide) ?_
          refine XS.istoreN X120.here hx rfl (hb hby d_rm_sw_55) rfl (l' := #[.val (.ref x), .val (.ref y), .val (.int (1 : Int32)), .val (.int (0 : Int32))]) rfl ?_
          refine XS.iinc X120.here hx rfl (hb hby d_rm_sw_56) rfl (l' := #[.val (.ref x), .val (.ref y), .val (.int (1 : Int32)), .val (.int (1 : Int32))]) rfl ?_
          refine XS.goto X120.here hx rfl (pc0 := 59) (pc' := 19) rfl (hb hby d_rm_sw_59) (by decide) (by decide) ?_
          refine XS.iloadN X120.here hx rfl (hb hby d_rm_sw_19) rfl ?_
          refine XS.ifNo X120.here hx rfl (hb hby d_rm_sw_20) rfl ((if0 _ _).trans (feq (by decide : ¬ ((1 : Int32) = (0 : Int32)))).1) ?_
          refine XS.iloadN X120.here hx rfl (hb hby d_rm_sw_23) rfl ?_
          refine XS.aloadN X120.here hx rfl (hb hby d_rm_sw_24) rfl rfl ?_
          refine st123.trans ?_
          exact κ
        by_cases hc28_126 : (1 : Int32) < (Int32.ofNat (ds).length)
        · skip
          obtain ⟨cq128, kq128, q128a, q128b, q128c⟩ := isOf hZ eq123 U1.exa
          obtain ⟨_, _, ⟨T127, L127, k127, n127⟩, -, X127, ⟨Lc127, hQ127, l127, y127, z127⟩, st127⟩ := X123.virtualBack hx (y := (⟨"java/lang/String", "charAt", "(I)C"⟩ : MethodName)) (z := (⟨"java/lang/String", "charAt", "(I)C"⟩ : MethodName)) hown (mvT hZ (hw _ (List.mem_of_getElem? (i := 79) rfl))) (mvT hZ (hw _ (List.mem_of_getElem? (i := 80) rfl))) (notFace_of_selects (args := #[]) (mvT hZ (hw _ (List.mem_of_getElem? (i := 82) rfl)))) (mvT hZ (hw _ (List.mem_of_getElem? (i := 82) rfl))) (mvT hZ (hw _ (List.mem_of_getElem? (i := 81) rfl))) (by decide) (backOf (W := 0) (rm_cha l Z a0 hw [] x cs 1 G1 G3 h0 n0 Z0 O2 P5 X00 O4 rG3 OA OH OL hl1 (own_idx 1 hl1 hl2 (by decide) hc8_107 hc28_126).1 U1) hZ (hw _ (List.mem_of_getElem? (i := 83) rfl)) (hw _ (List.mem_of_getElem? (i := 12) rfl)) (by decide) (by decide)) q128a q128c (g := (mkF m 33 #[.val (.ref x), .val (.ref y), .val (.int (1 : Int32)), .val (.int (1 : Int32))] [(.int (1 : Int32)), (.ref x)])) rfl (by rw [hml]; rfl) (Steps.refl _) (argsL := [(.int (1 : Int32))]) (rest := []) (lenOf pdo_8 rfl) rfl (by show 2 * 0 + _ ≤ _; exact Nat.le_of_eq rfl) (hb hby d_rm_sw_33) (fun _ _ => ⟨rfl, eq123, (by decide : 0 + 0 ≤ _), (by decide : 0 + 0 ≤ _)⟩)
          dsimp only [Pt.U, Pt.locs, Pt.cells, Pt.slots] at X127 l127 y127 z127 st127 hQ127
          subst l127 y127 z127
          obtain ⟨rfl, Nq127, eq127⟩ := hQ127
          have N127 := Fr.app N123 Nq127
          have pq129 : ∀ τ, Steps pP.tables e below (T127.setTop (mkF m 36 #[.val (.ref x), .val (.ref y), .val (.int (1 : Int32)), .val (.int (1 : Int32))] [(.int (cs.getD 1 0))])) τ → Steps pP.tables e below A0 τ := by
            intro τ κ
            refine pq125 τ ?_
            refine XS.icmpNo X123.here hx rfl (hb hby d_rm_sw_28) rfl (tlt hc28_126).2.1 ?_
            refine XS.aloadN X123.here hx rfl (hb hby d_rm_sw_31) rfl rfl ?_
            refine XS.iloadN X123.here hx rfl (hb hby d_rm_sw_32) rfl ?_
            refine st127.trans ?_
            exact κ
          obtain ⟨_, _, ⟨T130, L130, k130, n130⟩, -, X130, ⟨Lc130, hQ130, l130, y130, z130⟩, st130⟩ := Jvm.LawKit.callS X127 hx (y := (⟨"com/example/sites_into_slices/sitesintoslices/identity/AsciiCase", "toLowerCase", "(C)C"⟩ : MethodName)) hown (mvT hZ (hw _ (List.mem_of_getElem? (i := 101) rfl))) (mvT hZ (hw _ (List.mem_of_getElem? (i := 102) rfl))) (mvT hZ (hw _ (List.mem_of_getElem? (i := 34) rfl))) (mvT hZ (hw _ (List.mem_of_getElem? (i := 103) rfl))) (by decide) (backOf (W := 0) (rm_low l Z a0 hw [] (cs.getD 1 0) h0 n0 Z0 ) hZ (hw _ (List.mem_of_getElem? (i := 103) rfl)) (hw _ (List.mem_of_getElem? (i := 34) rfl)) (by decide) (by decide)) (g := (mkF m 36 #[.val (.ref x), .val (.ref y), .val (.int (1 : Int32)), .val (.int (1 : Int32))] [(.int (cs.getD 1 0))])) rfl (by rw [hml]; rfl) (argsL := [(.int (cs.getD 1 0))]) (rest := []) (lenOf pdo_9 rfl) rfl (by show 2 * 0 + _ ≤ _; exact Nat.le_of_eq rfl) (hb hby d_rm_sw_36) (fun _ _ => ⟨rfl, eq127, (by decide : 0 + 0 ≤ _), (by decide : 0 + 0 ≤ _)⟩)
          dsimp only [Pt.U, Pt.locs, Pt.cells, Pt.slots] at X130 l130 y130 z130 st130 hQ130
          subst l130 y130 z130
          obtain ⟨rfl, Nq130, eq130⟩ := hQ130
          have N130 := Fr.app N127 Nq130
          have pq131 : ∀ τ, Steps pP.tables e below (T130.setTop (mkF m 39 #[.val (.ref x), .val (.ref y), .val (.int (1 : Int32)), .val (.int (1 : Int32))] [(.int (own_lo (cs.getD 1 0)))])) τ → Steps pP.tables e below A0 τ := by
            intro τ κ
            refine pq129 τ ?_
            refine st130 _ ?_
            exact κ
          obtain ⟨cq133, kq133, q133a, q133b, q133c⟩ := isOf hZ eq130 U2.exa
          obtain ⟨_, _, ⟨T132, L132, k132, n132⟩, -, X132, ⟨Lc132, hQ132, l132, y132, z132⟩, st132⟩ := X130.virtualBack hx (y := (⟨"java/lang/String", "charAt", "(I)C"⟩ : MethodName)) (z := (⟨"java/lang/String", "charAt", "(I)C"⟩ : MethodName)) hown (mvT hZ (hw _ (List.mem_of_getElem? (i := 79) rfl))) (mvT hZ (hw _ (List.mem_of_getElem? (i := 80) rfl))) (notFace_of_selects (args := #[]) (mvT hZ (hw _ (List.mem_of_getElem? (i := 82) rfl)))) (mvT hZ (hw _ (List.mem_of_getElem? (i := 82) rfl))) (mvT hZ (hw _ (List.mem_of_getElem? (i := 81) rfl))) (by decide) (backOf (W := 1) (rm_cha l Z a0 hw [] y ds 1 G1 G3 h0 n0 Z0 O2 P5 X00 O4 rG3 OA OH OL hl2 (own_idx 1 hl1 hl2 (by decide) hc8_107 hc28_126).2 U2) hZ (hw _ (List.mem_of_getElem? (i := 83) rfl)) (hw _ (List.mem_of_getElem? (i := 12) rfl)) (by decide) (by decide)) q133a q133c (g := (mkF m 41 #[.val (.ref x), .val (.ref y), .val (.int (1 : Int32)), .val (.int (1 : Int32))] [(.int (1 : Int32)), (.ref y), (.int (own_lo (cs.getD 1 0)))])) rfl (by rw [hml]; rfl) (Steps.refl _) (argsL := [(.int (1 : Int32))]) (rest := [(.int (own_lo (cs.getD 1 0)))]) (lenOf pdo_8 rfl) rfl (by show 2 * 0 + _ ≤ _; exact Nat.le_of_eq rfl) (hb hby d_rm_sw_41) (fun _ _ => ⟨rfl, eq130, (by decide : 0 + 0 ≤ _), (by decide : 0 + 0 ≤ _)⟩)
          dsimp only [Pt.U, Pt.locs, Pt.cells, Pt.slots] at X132 l132 y132 z132 st132 hQ132
          subst l132 y132 z132
          obtain ⟨rfl, Nq132, eq132⟩ := hQ132
          have N132 := Fr.app N130 Nq132
          have pq134 : ∀ τ, Steps pP.tables e below (T132.setTop (mkF m 44 #[.val (.ref x), .val (.ref y), .val (.int (1 : Int32)), .val (.int (1 : Int32))] [(.int (ds.getD 1 0)), (.int (own_lo (cs.getD 1 0)))])) τ → Steps pP.tables e below A0 τ := by
            intro τ κ
            refine pq131 τ ?_
            refine XS.aloadN X130.here hx rfl (hb hby d_rm_sw_39) rfl rfl ?_
            refine XS.iloadN X130.here hx rfl (hb hby d_rm_sw_40) rfl ?_
            refine st132.trans ?_
            exact κ
          obtain ⟨_, _, ⟨T135, L135, k135, n135⟩, -, X135, ⟨Lc135, hQ135, l135, y135, z135⟩, st135⟩ := Jvm.LawKit.callS X132 hx (y := (⟨"com/example/sites_into_slices/sitesintoslices/identity/AsciiCase", "toLowerCase", "(C)C"⟩ : MethodName)) hown (mvT hZ (hw _ (List.mem_of_getElem? (i := 101) rfl))) (mvT hZ (hw _ (List.mem_of_getElem? (i := 102) rfl))) (mvT hZ (hw _ (List.mem_of_getElem? (i := 34) rfl))) (mvT hZ (hw _ (List.mem_of_getElem? (i := 103) rfl))) (by decide) (backOf (W := 1) (rm_low l Z a0 hw [] (ds.getD 1 0) h0 n0 Z0 ) hZ (hw _ (List.mem_of_getElem? (i := 103) rfl)) (hw _ (List.mem_of_getElem? (i := 34) rfl)) (by decide) (by decide)) (g := (mkF m 44 #[.val (.ref x), .val (.ref y), .val (.int (1 : Int32)), .val (.int (1 : Int32))] [(.int (ds.getD 1 0)), (.int (own_lo (cs.getD 1 0)))])) rfl (by rw [hml]; rfl) (argsL := [(.int (ds.getD 1 0))]) (rest := [(.int (own_lo (cs.getD 1 0)))]) (lenOf pdo_9 rfl) rfl (by show 2 * 0 + _ ≤ _; exact Nat.le_of_eq rfl) (hb hby d_rm_sw_44) (fun _ _ => ⟨rfl, eq132, (by decide : 0 + 0 ≤ _), (by decide : 0 + 0 ≤ _)⟩)
          dsimp only [Pt.U, Pt.locs, Pt.cells, Pt.slots] at X135 l135 y135 z135 st135 hQ135
          subst l135 y135 z135
          obtain ⟨rfl, Nq135, eq135⟩ := hQ135
          have N135 := Fr.app N132 Nq135
          have pq136 : ∀ τ, Steps pP.tables e below (T135.setTop (mkF m 47 #[.val (.ref x), .val (.ref y), .val (.int (1 : Int32)), .val (.int (1 : Int32))] [(.int (own_lo (ds.getD 1 0))), (.int (own_lo (cs.getD 1 0)))])) τ → Steps pP.tables e below A0 τ := by
            intro τ κ
            refine pq134 τ ?_
            refine st135 _ ?_
            exact κ
          by_cases hc47_137 : (own_lo (cs.getD 1 0)) = (own_lo (ds.getD 1 0))
          · skip
            obtain ⟨cq139, kq139, q139a, q139b, q139c⟩ := isOf hZ eq135 U2.exa
            obtain ⟨_, _, ⟨T138, L138, k138, n138⟩, -, X138, ⟨Lc138, hQ138, l138, y138, z138⟩, st138⟩ := X135.virtualBack hx (y := (⟨"java/lang/String", "length", "()I"⟩ : MethodName)) (z := (⟨"java/lang/String", "length", "()I"⟩ : MethodName)) hown (mvT hZ (hw _ (List.mem_of_getElem? (i := 36) rfl))) (mvT hZ (hw _ (List.mem_of_getElem? (i := 37) rfl))) (notFace_of_selects (args := #[]) (mvT hZ (hw _ (List.mem_of_getElem? (i := 39) rfl)))) (mvT hZ (hw _ (List.mem_of_getElem? (i := 39) rfl))) (mvT hZ (hw _ (List.mem_of_getElem? (i := 38) rfl))) (by decide) (backOf (W := 1) (rm_len l Z a0 hw [] y ds G1 h0 n0 Z0 O2 P5 X00 hl2 U2) hZ (hw _ (List.mem_of_getElem? (i := 40) rfl)) (hw _ (List.mem_of_getElem? (i := 12) rfl)) (by decide) (by decide)) q139a q139c (g := (mkF m 25 #[.val (.ref x), .val (.ref y), .val (.int (1 : Int32)), .val (.int (2 : Int32))] [(.ref y), (.int (2 : Int32))])) rfl (by rw [hml]; rfl) (Steps.refl _) (argsL := []) (rest := [(.int (2 : Int32))]) (lenOf pdo_7 rfl) rfl (by show 2 * 0 + _ ≤ _; exact Nat.le_of_eq rfl) (hb hby d_rm_sw_25) (fun _ _ => ⟨rfl, eq135, (by decide : 0 + 0 ≤ _), (by decide : 0 + 0 ≤ _)⟩)
            dsimp only [Pt.U, Pt.locs, Pt.cells, Pt.slots] at X138 l138 y138 z138 st138 hQ138
            subst l138 y138 z138
            obtain ⟨rfl, Nq138, eq138⟩ := hQ138
            have N138 := Fr.app N135 Nq138
            have pq140 : ∀ τ, Steps pP.tables e below (T138.setTop (mkF m 28 #[.val (.ref x), .val (.ref y), .val (.int (1 : Int32)), .val (.int (2 : Int32))] [(.int (Int32.ofNat (ds).length)), (.int (2 : Int32))])) τ → Steps pP.tables e below A0 τ := by
              intro τ κ
              refine pq136 τ ?_
              refine XS.icmpNo X135.here hx rfl (hb hby d_rm_sw_47) rfl (teq hc47_137).2 ?_
              refine XS.iconst X135.here hx rfl (hb hby d_rm_sw_50) ?_
              refine XS.goto X135.here hx rfl (pc0 := 51) (pc' := 55) rfl (hb hby d_rm_sw_51) (by decide) (by decide) ?_
              refine XS.istoreN X135.here hx rfl (hb hby d_rm_sw_55) rfl (l' := #[.val (.ref x), .val (.ref y), .val (.int (1 : Int32)), .val (.int (1 : Int32))]) rfl ?_
              refine XS.iinc X135.here hx rfl (hb hby d_rm_sw_56) rfl (l' := #[.val (.ref x), .val (.ref y), .val (.int (1 : Int32)), .val (.int (2 : Int32))]) rfl ?_
              refine XS.goto X135.here hx rfl (pc0 := 59) (pc' := 19) rfl (hb hby d_rm_sw_59) (by decide) (by decide) ?_
              refine XS.iloadN X135.here hx rfl (hb hby d_rm_sw_19) rfl ?_
              refine XS.ifNo X135.here hx rfl (hb hby d_rm_sw_20) rfl ((if0 _ _).trans (feq (by decide : ¬ ((1 : Int32) = (0 : Int32)))).1) ?_
              refine XS.iloadN X135.here hx rfl (hb hby d_rm_sw_23) rfl ?_
              refine XS.aloadN X135.here hx rfl (hb hby d_rm_sw_24) rfl rfl ?_
              refine st138.trans ?_
              exact κ
            by_cases hc28_141 : (2 : Int32) < (Int32.ofNat (ds).length)
            · skip
              obtain ⟨cq143, kq143, q143a, q143b, q143c⟩ := isOf hZ eq138 U1.exa
              obtain ⟨_, _, ⟨T142, L142, k142, n142⟩, -, X142, ⟨Lc142, hQ142, l142, y142, z142⟩, st142⟩ := X138.virtualBack hx (y := (⟨"java/lang/String", "charAt", "(I)C"⟩ : MethodName)) (z := (⟨"java/lang/String", "charAt", "(I)C"⟩ : MethodName)) hown (mvT hZ (hw _ (List.mem_of_getElem? (i := 79) rfl))) (mvT hZ (hw _ (List.mem_of_getElem? (i := 80) rfl))) (notFace_of_selects (args := #[]) (mvT hZ (hw _ (List.mem_of_getElem? (i := 82) rfl)))) (mvT hZ (hw _ (List.mem_of_getElem? (i := 82) rfl))) (mvT hZ (hw _ (List.mem_of_getElem? (i := 81) rfl))) (by decide) (backOf (W := 0) (rm_cha l Z a0 hw [] x cs 2 G1 G3 h0 n0 Z0 O2 P5 X00 O4 rG3 OA OH OL hl1 (own_idx 2 hl1 hl2 (by decide) hc8_107 hc28_141).1 U1) hZ (hw _ (List.mem_of_getElem? (i := 83) rfl)) (hw _ (List.mem_of_getElem? (i := 12) rfl)) (by decide) (by decide)) q143a q143c (g := (mkF m 33 #[.val (.ref x), .val (.ref y), .val (.int (1 : Int32)), .val (.int (2 : Int32))] [(.int (2 : Int32)), (.ref x)])) rfl (by rw [hml]; rfl) (Steps.refl _) (argsL := [(.int (2 : Int32))]) (rest := []) (lenOf pdo_8 rfl) rfl (by show 2 * 0 + _ ≤ _; exact Nat.le_of_eq rfl) (hb hby d_rm_sw_33) (fun _ _ => ⟨rfl, eq138, (by decide : 0 + 0 ≤ _), (by decide : 0 + 0 ≤ _)⟩)
              dsimp only [Pt.U, Pt.locs, Pt.cells, Pt.slots] at X142 l142 y142 z142 st142 hQ142
              subst l142 y142 z142
              obtain ⟨rfl, Nq142, eq142⟩ := hQ142
              have N142 := Fr.app N138 Nq142
              have pq144 : ∀ τ, Steps pP.tables e below (T142.setTop (mkF m 36 #[.val (.ref x), .val (.ref y), .val (.int (1 : Int32)), .val (.int (2 : Int32))] [(.int (cs.getD 2 0))])) τ → Steps pP.tables e below A0 τ := by
                intro τ κ
                refine pq140 τ ?_
                refine XS.icmpNo X138.here hx rfl (hb hby d_rm_sw_28) rfl (tlt hc28_141).2.1 ?_
                refine XS.aloadN X138.here hx rfl (hb hby d_rm_sw_31) rfl rfl ?_
                refine XS.iloadN X138.here hx rfl (hb hby d_rm_sw_32) rfl ?_
                refine st142.trans ?_
                exact κ
              obtain ⟨_, _, ⟨T145, L145, k145, n145⟩, -, X145, ⟨Lc145, hQ145, l145, y145, z145⟩, st145⟩ := Jvm.LawKit.callS X142 hx (y := (⟨"com/example/sites_into_slices/sitesintoslices/identity/AsciiCase", "toLowerCase", "(C)C"⟩ : MethodName)) hown (mvT hZ (hw _ (List.mem_of_getElem? (i := 101) rfl))) (mvT hZ (hw _ (List.mem_of_getElem? (i := 102) rfl))) (mvT hZ (hw _ (List.mem_of_getElem? (i := 34) rfl))) (mvT hZ (hw _ (List.mem_of_getElem? (i := 103) rfl))) (by decide) (backOf (W := 0) (rm_low l Z a0 hw [] (cs.getD 2 0) h0 n0 Z0 ) hZ (hw _ (List.mem_of_getElem? (i := 103) rfl)) (hw _ (List.mem_of_getElem? (i := 34) rfl)) (by decide) (by decide)) (g := (mkF m 36 #[.val (.ref x), .val (.ref y), .val (.int (1 : Int32)), .val (.int (2 : Int32))] [(.int (cs.getD 2 0))])) rfl (by rw [hml]; rfl) (argsL := [(.int (cs.getD 2 0))]) (rest := []) (lenOf pdo_9 rfl) rfl (by show 2 * 0 + _ ≤ _; exact Nat.le_of_eq rfl) (hb hby d_rm_sw_36) (fun _ _ => ⟨rfl, eq142, (by decide : 0 + 0 ≤ _), (by decide : 0 + 0 ≤ _)⟩)
              dsimp only [Pt.U, Pt.locs, Pt.cells, Pt.slots] at X145 l145 y145 z145 st145 hQ145
              subst l145 y145 z145
              obtain ⟨rfl, Nq145, eq145⟩ := hQ145
              have N145 := Fr.app N142 Nq145
              have pq146 : ∀ τ, Steps pP.tables e below (T145.setTop (mkF m 39 #[.val (.ref x), .val (.ref y), .val (.int (1 : Int32)), .val (.int (2 : Int32))] [(.int (own_lo (cs.getD 2 0)))])) τ → Steps pP.tables e below A0 τ := by
                intro τ κ
                refine pq144 τ ?_
                refine st145 _ ?_
                exact κ
              obtain ⟨cq148, kq148, q148a, q148b, q148c⟩ := isOf hZ eq145 U2.exa
              obtain ⟨_, _, ⟨T147, L147, k147, n147⟩, -, X147, ⟨Lc147, hQ147, l147, y147, z147⟩, st147⟩ := X145.virtualBack hx (y := (⟨"java/lang/String", "charAt", "(I)C"⟩ : MethodName)) (z := (⟨"java/lang/String", "charAt", "(I)C"⟩ : MethodName)) hown (mvT hZ (hw _ (List.mem_of_getElem? (i := 79) rfl))) (mvT hZ (hw _ (List.mem_of_getElem? (i := 80) rfl))) (notFace_of_selects (args := #[]) (mvT hZ (hw _ (List.mem_of_getElem? (i := 82) rfl)))) (mvT hZ (hw _ (List.mem_of_getElem? (i := 82) rfl))) (mvT hZ (hw _ (List.mem_of_getElem? (i := 81) rfl))) (by decide) (backOf (W := 1) (rm_cha l Z a0 hw [] y ds 2 G1 G3 h0 n0 Z0 O2 P5 X00 O4 rG3 OA OH OL hl2 (own_idx 2 hl1 hl2 (by decide) hc8_107 hc28_141).2 U2) hZ (hw _ (List.mem_of_getElem? (i := 83) rfl)) (hw _ (List.mem_of_getElem? (i := 12) rfl)) (by decide) (by decide)) q148a q148c (g := (mkF m 41 #[.val (.ref x), .val (.ref y), .val (.int (1 : Int32)), .val (.int (2 : Int32))] [(.int (2 : Int32)), (.ref y), (.int (own_lo (cs.getD 2 0)))])) rfl (by rw [hml]; rfl) (Steps.refl _) (argsL := [(.int (2 : Int32))]) (rest := [(.int (own_lo (cs.getD 2 0)))]) (lenOf pdo_8 rfl) rfl (by show 2 * 0 + _ ≤ _; exact Nat.le_of_eq rfl) (hb hby d_rm_sw_41) (fun _ _ => ⟨rfl, eq145, (by decide : 0 + 0 ≤ _), (by decide : 0 + 0 ≤ _)⟩)
              dsimp only [Pt.U, Pt.locs, Pt.cells, Pt.slots] at X147 l147 y147 z147 st147 hQ147
              subst l147 y147 z147
              obtain ⟨rfl, Nq147, eq147⟩ := hQ147
              have N147 := Fr.app N145 Nq147
              have pq149 : ∀ τ, Steps pP.tables e below (T147.setTop (mkF m 44 #[.val (.ref x), .val (.ref y), .val (.int (1 : Int32)), .val (.int (2 : Int32))] [(.int (ds.getD 2 0)), (.int (own_lo (cs.getD 2 0)))])) τ → Steps pP.tables e below A0 τ := by
                intro τ κ
                refine pq146 τ ?_
                refine XS.aloadN X145.here hx rfl (hb hby d_rm_sw_39) rfl rfl ?_
                refine XS.iloadN X145.here hx rfl (hb hby d_rm_sw_40) rfl ?_
                refine st147.trans ?_
                exact κ
              obtain ⟨_, _, ⟨T150, L150, k150, n150⟩, -, X150, ⟨Lc150, hQ150, l150, y150, z150⟩, st150⟩ := Jvm.LawKit.callS X147 hx (y := (⟨"com/example/sites_into_slices/sitesintoslices/identity/AsciiCase", "toLowerCase", "(C)C"⟩ : MethodName)) hown (mvT hZ (hw _ (List.mem_of_getElem? (i := 101) rfl))) (mvT hZ (hw _ (List.mem_of_getElem? (i := 102) rfl))) (mvT hZ (hw _ (List.mem_of_getElem? (i := 34) rfl))) (mvT hZ (hw _ (List.mem_of_getElem? (i := 103) rfl))) (by decide) (backOf (W := 1) (rm_low l Z a0 hw [] (ds.getD 2 0) h0 n0 Z0 ) hZ (hw _ (List.mem_of_getElem? (i := 103) rfl)) (hw _ (List.mem_of_getElem? (i := 34) rfl)) (by decide) (by decide)) (g := (mkF m 44 #[.val (.ref x), .val (.ref y), .val (.int (1 : Int32)), .val (.int (2 : Int32))] [(.int (ds.getD 2 0)), (.int (own_lo (cs.getD 2 0)))])) rfl (by rw [hml]; rfl) (argsL := [(.int (ds.getD 2 0))]) (rest := [(.int (own_lo (cs.getD 2 0)))]) (lenOf pdo_9 rfl) rfl (by show 2 * 0 + _ ≤ _; exact Nat.le_of_eq rfl) (hb hby d_rm_sw_44) (fun _ _ => ⟨rfl, eq147, (by decide : 0 + 0 ≤ _), (by decide : 0 + 0 ≤ _)⟩)
              dsimp only [Pt.U, Pt.locs, Pt.cells, Pt.slots] at X150 l150 y150 z150 st150 hQ150
              subst l150 y150 z150
              obtain ⟨rfl, Nq150, eq150⟩ := hQ150
              have N150 := Fr.app N147 Nq150
              have pq151 : ∀ τ, Steps pP.tables e below (T150.setTop (mkF m 47 #[.val (.ref x), .val (.ref y), .val (.int (1 : Int32)), .val (.int (2 : Int32))] [(.int (own_lo (ds.getD 2 0))), (.int (own_lo (cs.getD 2 0)))])) τ → Steps pP.tables e below A0 τ := by
                intro τ κ
                refine pq149 τ ?_
                refine st150 _ ?_
                exact κ
              by_cases hc47_152 : (own_lo (cs.getD 2 0)) = (own_lo (ds.getD 2 0))
              · skip
                obtain ⟨cq154, kq154, q154a, q154b, q154c⟩ := isOf hZ eq150 U2.exa
                obtain ⟨_, _, ⟨T153, L153, k153, n153⟩, -, X153, ⟨Lc153, hQ153, l153, y153, z153⟩, st153⟩ := X150.virtualBack hx (y := (⟨"java/lang/String", "length", "()I"⟩ : MethodName)) (z := (⟨"java/lang/String", "length", "()I"⟩ : MethodName)) hown (mvT hZ (hw _ (List.mem_of_getElem? (i := 36) rfl))) (mvT hZ (hw _ (List.mem_of_getElem? (i := 37) rfl))) (notFace_of_selects (args := #[]) (mvT hZ (hw _ (List.mem_of_getElem? (i := 39) rfl)))) (mvT hZ (hw _ (List.mem_of_getElem? (i := 39) rfl))) (mvT hZ (hw _ (List.mem_of_getElem? (i := 38) rfl))) (by decide) (backOf (W := 1) (rm_len l Z a0 hw [] y ds G1 h0 n0 Z0 O2 P5 X00 hl2 U2) hZ (hw _ (List.mem_of_getElem? (i := 40) rfl)) (hw _ (List.mem_of_getElem? (i := 12) rfl)) (by decide) (by decide)) q154a q154c (g := (mkF m 25 #[.val (.ref x), .val (.ref y), .val (.int (1 : Int32)), .val (.int (3 : Int32))] [(.ref y), (.int (3 : Int32))])) rfl (by rw [hml]; rfl) (Steps.refl _) (argsL := []) (rest := [(.int (3 : Int32))]) (lenOf pdo_7 rfl) rfl (by show 2 * 0 + _ ≤ _; exact Nat.le_of_eq rfl) (hb hby d_rm_sw_25) (fun _ _ => ⟨rfl, eq150, (by decide : 0 + 0 ≤ _), (by decide : 0 + 0 ≤ _)⟩)
                dsimp only [Pt.U, Pt.locs, Pt.cells, Pt.slots] at X153 l153 y153 z153 st153 hQ153
                subst l153 y153 z153
                obtain ⟨rfl, Nq153, eq153⟩ := hQ153
                have N153 := Fr.app N150 Nq153
                have pq155 : ∀ τ, Steps pP.tables e below (T153.setTop (mkF m 28 #[.val (.ref x), .val (.ref y), .val (.int (1 : Int32)), .val (.int (3 : Int32))] [(.int (Int32.ofNat (ds).length)), (.int (3 : Int32))])) τ → Steps pP.tables e below A0 τ := by
                  intro τ κ
                  refine pq151 τ ?_
                  refine XS.icmpNo X150.here hx rfl (hb hby d_rm_sw_47) rfl (teq hc47_152).2 ?_
                  refine XS.iconst X150.here hx rfl (hb hby d_rm_sw_50) ?_
                  refine XS.goto X150.here hx rfl (pc0 := 51) (pc' := 55) rfl (hb hby d_rm_sw_51) (by decide) (by decide) ?_
                  refine XS.istoreN X150.here hx rfl (hb hby d_rm_sw_55) rfl (l' := #[.val (.ref x), .val (.ref y), .val (.int (1 : Int32)), .val (.int (2 : Int32))]) rfl ?_
                  refine XS.iinc X150.here hx rfl (hb hby d_rm_sw_56) rfl (l' := #[.val (.ref x), .val (.ref y), .val (.int (1 : Int32)), .val (.int (3 : Int32))]) rfl ?_
                  refine XS.goto X150.here hx rfl (pc0 := 59) (pc' := 19) rfl (hb hby d_rm_sw_59) (by decide) (by decide) ?_
                  refine XS.iloadN X150.here hx rfl (hb hby d_rm_sw_19) rfl ?_
                  refine XS.ifNo X150.here hx rfl (hb hby d_rm_sw_20) rfl ((if0 _ _).trans (feq (by decide : ¬ ((1 : Int32) = (0 : Int32)))).1) ?_
                  refine XS.iloadN X150.here hx rfl (hb hby d_rm_sw_23) rfl ?_
                  refine XS.aloadN X150.here hx rfl (hb hby d_rm_sw_24) rfl rfl ?_
                  refine st153.trans ?_
                  exact κ
                obtain ⟨fs, hr, hrun, hended, hW, hsame⟩ := X153.leave (v := some (.int (1 : Int32))) (fun h => by rw [Bd.returns] at h; cases h)
                have pqE := pq155
                rw [hA0] at pqE
                refine ⟨_, _, pqE _ ?_, hrun, hended, _, _, rfl, ?_, ⟨_, rfl⟩, hW, hsame.mono (by decide) (by decide)⟩
                · refine XS.icmpYes X153.here hx rfl (pc0 := 28) (pc' := 62) rfl (hb hby d_rm_sw_28) rfl (flt (own_lt3 hl2)).2.1 (by decide) (by decide) ?_
                  refine XS.iloadN X153.here hx rfl (hb hby d_rm_sw_62) rfl ?_
                  show Steps pP.tables e below (T153.setTop (mkF m 63 #[.val (.ref x), .val (.ref y), .val (.int (1 : Int32)), .val (.int (3 : Int32))] [(.int (1 : Int32))])) _
                  exact retN X153 hx (t := .boolean) Bd.returns (by simp) (hb hby d_rm_sw_63) hr
                · show Q_sw cs ds h0 n0 _ T153.heap _
                  rw [eq153]
                  exact ⟨by first | (simp only [own_sw, hc8_107, hc28_111, hc47_122, hc28_126, hc47_137, hc28_141, hc47_152, (own_lt3 hl2), if_true, if_false]; done) | (simp only [own_sw, hc8_107, hc28_111, hc47_122, hc28_126, hc47_137, hc28_141, hc47_152, (own_lt3 hl2), if_true, if_false]; rfl), N153, rfl⟩
              · skip
                obtain ⟨fs, hr, hrun, hended, hW, hsame⟩ := X150.leave (v := some (.int (0 : Int32))) (fun h => by rw [Bd.returns] at h; cases h)
                have pqE := pq151
                rw [hA0] at pqE
                refine ⟨_, _, pqE _ ?_, hrun, hended, _, _, rfl, ?_, ⟨_, rfl⟩, hW, hsame.mono (by decide) (by decide)⟩
                · refine XS.icmpYes X150.here hx rfl (pc0 := 47) (pc' := 54) rfl (hb hby d_rm_sw_47) rfl (feq hc47_152).2 (by decide) (by decide) ?_
                  refine XS.iconst X150.here hx rfl (hb hby d_rm_sw_54) ?_
                  refine XS.istoreN X150.here hx rfl (hb hby d_rm_sw_55) rfl (l' := #[.val (.ref x), .val (.ref y), .val (.int (0 : Int32)), .val (.int (2 : Int32))]) rfl ?_
                  refine XS.iinc X150.here hx rfl (hb hby d_rm_sw_56) rfl (l' := #[.val (.ref x), .val (.ref y), .val (.int (0 : Int32)), .val (.int (3 : Int32))]) rfl ?_
                  refine XS.goto X150.here hx rfl (pc0 := 59) (pc' := 19) rfl (hb hby d_rm_sw_59) (by decide) (by decide) ?_
                  refine XS.iloadN X150.here hx rfl (hb hby d_rm_sw_19) rfl ?_
                  refine XS.ifYes X150.here hx rfl (pc0 := 20) (pc' := 62) rfl (hb hby d_rm_sw_20) rfl ((if0 _ _).trans (teq (by decide : ((0 : Int32) = (0 : Int32)))).1) (by decide) (by decide) ?_
                  refine XS.iloadN X150.here hx rfl (hb hby d_rm_sw_62) rfl ?_
                  show Steps pP.tables e below (T150.setTop (mkF m 63 #[.val (.ref x), .val (.ref y), .val (.int (0 : Int32)), .val (.int (3 : Int32))] [(.int (0 : Int32))])) _
                  exact retN X150 hx (t := .boolean) Bd.returns (by simp) (hb hby d_rm_sw_63) hr
                · show Q_sw cs ds h0 n0 _ T150.heap _
                  rw [eq150]
                  exact ⟨by first | (simp only [own_sw, hc8_107, hc28_111, hc47_122, hc28_126, hc47_137, hc28_141, hc47_152, if_true, if_false]; done) | (simp only [own_sw, hc8_107, hc28_111, hc47_122, hc28_126, hc47_137, hc28_141, hc47_152, if_true, if_false]; rfl), N150, rfl⟩
            · skip
              obtain ⟨fs, hr, hrun, hended, hW, hsame⟩ := X138.leave (v := some (.int (1 : Int32))) (fun h => by rw [Bd.returns] at h; cases h)
              have pqE := pq140
              rw [hA0] at pqE
              refine ⟨_, _, pqE _ ?_, hrun, hended, _, _, rfl, ?_, ⟨_, rfl⟩, hW, hsame.mono (by decide) (by decide)⟩
              · refine XS.icmpYes X138.here hx rfl (pc0 := 28) (pc' := 62) rfl (hb hby d_rm_sw_28) rfl (flt hc28_141).2.1 (by decide) (by decide) ?_
                refine XS.iloadN X138.here hx rfl (hb hby d_rm_sw_62) rfl ?_
                show Steps pP.tables e below (T138.setTop (mkF m 63 #[.val (.ref x), .val (.ref y), .val (.int (1 : Int32)), .val (.int (2 : Int32))] [(.int (1 : Int32))])) _
                exact retN X138 hx (t := .boolean) Bd.returns (by simp) (hb hby d_rm_sw_63) hr
              · show Q_sw cs ds h0 n0 _ T138.heap _
                rw [eq138]
                exact ⟨by first | (simp only [own_sw, hc8_107, hc28_111, hc47_122, hc28_126, hc47_137, hc28_141, if_true, if_false]; done) | (simp only [own_sw, hc8_107, hc28_111, hc47_122, hc28_126, hc47_137, hc28_141, if_true, if_false]; rfl), N138, rfl⟩
          · skip
            obtain ⟨fs, hr, hrun, hended, hW, hsame⟩ := X135.leave (v := some (.int (0 : Int32))) (fun h => by rw [Bd.returns] at h; cases h)
            have pqE := pq136
            rw [hA0] at pqE
            refine ⟨_, _, pqE _ ?_, hrun, hended, _, _, rfl, ?_, ⟨_, rfl⟩, hW, hsame.mono (by decide) (by decide)⟩
            · refine XS.icmpYes X135.here hx rfl (pc0 := 47) (pc' := 54) rfl (hb hby d_rm_sw_47) rfl (feq hc47_137).2 (by decide) (by decide) ?_
              refine XS.iconst X135.here hx rfl (hb hby d_rm_sw_54) ?_
              refine XS.istoreN X135.here hx rfl (hb hby d_rm_sw_55) rfl (l' := #[.val (.ref x), .val (.ref y), .val (.int (0 : Int32)), .val (.int (1 : Int32))]) rfl ?_
              refine XS.iinc X135.here hx rfl (hb hby d_rm_sw_56) rfl (l' := #[.val (.ref x), .val (.ref y), .val (.int (0 : Int32)), .val (.int (2 : Int32))]) rfl ?_
              refine XS.goto X135.here hx rfl (pc0 := 59) (pc' := 19) rfl (hb hby d_rm_sw_59) (by decide) (by decide) ?_
              refine XS.iloadN X135.here hx rfl (hb hby d_rm_sw_19) rfl ?_
              refine XS.ifYes X135.here hx rfl (pc0 := 20) (pc' := 62) rfl (hb hby d_rm_sw_20) rfl ((if0 _ _).trans (teq (by decide : ((0 : Int32) = (0 : Int32)))).1) (by decide) (by decide) ?_
              refine XS.iloadN X135.here hx rfl (hb hby d_rm_sw_62) rfl ?_
              show Steps pP.tables e below (T135.setTop (mkF m 63 #[.val (.ref x), .val (.ref y), .val (.int (0 : Int32)), .val (.int (2 : Int32))] [(.int (0 : Int32))])) _
              exact retN X135 hx (t := .boolean) Bd.returns (by simp) (hb hby d_rm_sw_63) hr
            · show Q_sw cs ds h0 n0 _ T135.heap _
              rw [eq135]
              exact ⟨by first | (simp only [own_sw, hc8_107, hc28_111, hc47_122, hc28_126, hc47_137, if_true, if_false]; done) | (simp only [own_sw, hc8_107, hc28_111, hc47_122, hc28_126, hc47_137, if_true, if_false]; rfl), N135, rfl⟩
        · skip
          obtain ⟨fs, hr, hrun, hended, hW, hsame⟩ := X123.leave (v := some (.int (1 : Int32))) (fun h => by rw [Bd.returns] at h; cases h)
          have pqE := pq125
          rw [hA0] at pqE
          refine ⟨_, _, pqE _ ?_, hrun, hended, _, _, rfl, ?_, ⟨_, rfl⟩, hW, hsame.mono (by decide) (by decide)⟩
          · refine XS.icmpYes X123.here hx rfl (pc0 := 28) (pc' := 62) rfl (hb hby d_rm_sw_28) rfl (flt hc28_126).2.1 (by decide) (by decide) ?_
            refine XS.iloadN X123.here hx rfl (hb hby d_rm_sw_62) rfl ?_
            show Steps pP.tables e below (T123.setTop (mkF m 63 #[.val (.ref x), .val (.ref y), .val (.int (1 : Int32)), .val (.int (1 : Int32))] [(.int (1 : Int32))])) _
            exact retN X123 hx (t := .boolean) Bd.returns (by simp) (hb hby d_rm_sw_63) hr
          · show Q_sw cs ds h0 n0 _ T123.heap _
            rw [eq123]
            exact ⟨by first | (simp only [own_sw, hc8_107, hc28_111, hc47_122, hc28_126, if_true, if_false]; done) | (simp only [own_sw, hc8_107, hc28_111, hc47_122, hc28_126, if_true, if_false]; rfl), N123, rfl⟩
      · skip
        obtain ⟨fs, hr, hrun, hended, hW, hsame⟩ := X120.leave (v := some (.int (0 : Int32))) (fun h => by rw [Bd.returns] at h; cases h)
        have pqE := pq121
        rw [hA0] at pqE
        refine ⟨_, _, pqE _ ?_, hrun, hended, _, _, rfl, ?_, ⟨_, rfl⟩, hW, hsame.mono (by decide) (by decide)⟩
        · refine XS.icmpYes X120.here hx rfl (pc0 := 47) (pc' := 54) rfl (hb hby d_rm_sw_47) rfl (feq hc47_122).2 (by decide) (by decide) ?_
          refine XS.iconst X120.here hx rfl (hb hby d_rm_sw_54) ?_
          refine XS.istoreN X120.here hx rfl (hb hby d_rm_sw_55) rfl (l' := #[.val (.ref x), .val (.ref y), .val (.int (0 : Int32)), .val (.int (0 : Int32))]) rfl ?_
          refine XS.iinc X120.here hx rfl (hb hby d_rm_sw_56) rfl (l' := #[.val (.ref x), .val (.ref y), .val (.int (0 : Int32)), .val (.int (1 : Int32))]) rfl ?_
          refine XS.goto X120.here hx rfl (pc0 := 59) (pc' := 19) rfl (hb hby d_rm_sw_59) (by decide) (by decide) ?_
          refine XS.iloadN X120.here hx rfl (hb hby d_rm_sw_19) rfl ?_
          refine XS.ifYes X120.here hx rfl (pc0 := 20) (pc' := 62) rfl (hb hby d_rm_sw_20) rfl ((if0 _ _).trans (teq (by decide : ((0 : Int32) = (0 : Int32)))).1) (by decide) (by decide) ?_
          refine XS.iloadN X120.here hx rfl (hb hby d_rm_sw_62) rfl ?_
          show Steps pP.tables e below (T120.setTop (mkF m 63 #[.val (.ref x), .val (.ref y), .val (.int (0 : Int32)), .val (.int (1 : Int32))] [(.int (0 : Int32))])) _
          exact retN X120 hx (t := .boolean) Bd.returns (by simp) (hb hby d_rm_sw_63) hr
        · show Q_sw cs ds h0 n0 _ T120.heap _
          rw [eq120]
          exact ⟨by first | (simp only [own_sw, hc8_107, hc28_111, hc47_122, if_true, if_false]; done) | (simp only [own_sw, hc8_107, hc28_111, hc47_122, if_true, if_false]; rfl), N120, rfl⟩
    · skip
      obtain ⟨fs, hr, hrun, hended, hW, hsame⟩ := X108.leave (v := some (.int (1 : Int32))) (fun h => by rw [Bd.returns] at h; cases h)
      have pqE := pq110
      rw [hA0] at pqE
      refine ⟨_, _, pqE _ ?_, hrun, hended, _, _, rfl, ?_, ⟨_, rfl⟩, hW, hsame.mono (by decide) (by decide)⟩
      · refine XS.icmpYes X108.here hx rfl (pc0 := 28) (pc' := 62) rfl (hb hby d_rm_sw_28) rfl (flt hc28_111).2.1 (by decide) (by decide) ?_
        refine XS.iloadN X108.here hx rfl (hb hby d_rm_sw_62) rfl ?_
        show Steps pP.tables e below (T108.setTop (mkF m 63 #[.val (.ref x), .val (.ref y), .val (.int (1 : Int32)), .val (.int (0 : Int32))] [(.int (1 : Int32))])) _
        exact retN X108 hx (t := .boolean) Bd.returns (by simp) (hb hby d_rm_sw_63) hr
      · show Q_sw cs ds h0 n0 _ T108.heap _
        rw [eq108]
        exact ⟨by first | (simp only [own_sw, hc8_107, hc28_111, if_true, if_false]; done) | (simp only [own_sw, hc8_107, hc28_111, if_true, if_false]; rfl), N108, rfl⟩
def Q_nbl (k : Nat) (h0 : Heap) (n0 : Nat) (v : Option Value) (h : Heap) (L : List Loc) : Prop := v = some (.int (Int32.ofNat (2 * k))) ∧ Fr n0 L ∧ h = h0
theorem d_rm_nbl_0 : decode jdk_52_method_3_code 0 = .ok (.iload_n 0, 1) := by decide +kernel
theorem d_rm_nbl_1 : decode jdk_52_method_3_code 1 = .ok (.ifCond .ge 11, 3) := by decide +kernel
theorem d_rm_nbl_12 : decode jdk_52_method_3_code 12 = .ok (.iload_n 0, 1) := by decide +kernel
theorem d_rm_nbl_13 : decode jdk_52_method_3_code 13 = .ok (.ldc 20, 2) := by decide +kernel
theorem d_rm_nbl_15 : decode jdk_52_method_3_code 15 = .ok (.if_icmp .lt 40, 3) := by decide +kernel
theorem d_rm_nbl_55 : decode jdk_52_method_3_code 55 = .ok (.iload_n 0, 1) := by decide +kernel
theorem d_rm_nbl_56 : decode jdk_52_method_3_code 56 = .ok (.iconst 1, 1) := by decide +kernel
theorem d_rm_nbl_57 : decode jdk_52_method_3_code 57 = .ok (.ishl, 1) := by decide +kernel
theorem d_rm_nbl_58 : decode jdk_52_method_3_code 58 = .ok (.ireturn, 1) := by decide +kernel
theorem ef_rm_nbl (m : MethodId) (x0 : Int32) : entryFrame m #[(.int x0)] 1 = mkF m 0 #[.val (.int x0)] [] := by first | (simp [entryFrame, mkF, argsToLocals, Value.category]; done) | rfl
set_option maxRecDepth 65536 in
set_option maxHeartbeats 3000000 in
theorem rm_nbl (l : Launch) (Z : State) (a0 : Array Value) (hw : ∀ d ∈ tables_1, d.before a0 Z = true) (ws : List Jvm.Cond) (k : Nat) (h0 : Heap) (n0 : Nat) (Z0 : n0 ≤ h0.size) (hk : k ≤ 3) :
    MetFree l (⟨"java/lang/StringUTF16", "newBytesLength", "(I)I"⟩ : MethodName) (head1 (Jvm.Cond.code (⟨"java/lang/StringUTF16", "newBytesLength", "(I)I"⟩ : MethodName) jdk_52_method_3_code 1 (some .int) :: ws) ({ frames := 0, cells := 0, slots := 0, locals := 0 } : Room)) (fun αs U => αs = #[(.int (Int32.ofNat k))] ∧ Z.Warmed39 U.vm ∧ U.heap = h0) (fun _ _ _ _ _ => True) (fun _ U o U' => ∃ v L, o = .returned v ∧ Q_nbl k h0 n0 v U'.heap L ∧ FrameEnd U o U' L ({ frames := 0, cells := 0, slots := 0, locals := 0 } : Room).cells ({ frames := 0, cells := 0, slots := 0, locals := 0 } : Room).slots) := by
  refine MetFree.of_bodySF (plainFor_of_name pno_5) hisR ?_
  intro pP e s m args below meth cC s₁ Bd hml0 hP hK
  obtain ⟨rfl, hZ, hh⟩ := hP
  have hx := Bd.exec
  have hby := Bd.bytes
  have hml : cC.maxLocals = 1 := hml0
  have hown : s.vm.findClass "java/lang/StringUTF16" = some m.cls := findClass_of_methodNamed Bd.named
  have hnm := (name_of_methodNamed Bd.named Bd.method).1
  have X0 : Stand pP l e ({ frames := 0, cells := 0, slots := 0, locals := 0 } : Room) s m #[(.int (Int32.ofNat k))] below meth cC s₁ [] 0 0 := Stand.of_body Bd
  have e0 : s₁.heap = h0 := by rw [← hh, Bd.state]; rfl
  have N0 := Fr.nil n0
  have KC0 : Keep h0 h0 [] := Keep.refl h0 _
  obtain ⟨A0, hA0⟩ : ∃ z, z = s₁.setTop (entryFrame m #[(.int (Int32.ofNat k))] 1) := ⟨_, rfl⟩
  have pre0 : ∀ τ, Steps pP.tables e below (s₁.setTop (mkF m 0 #[.val (.int (Int32.ofNat k))] [])) τ → Steps pP.tables e below A0 τ := fun τ κ => by rw [hA0]; exact castTop (ef_rm_nbl m (Int32.ofNat k)) κ
  have pq101 : ∀ τ, Steps pP.tables e below (s₁.setTop (mkF m 58 #[.val (.int (Int32.ofNat k))] [(.int ((Int32.ofNat k) <<< ((1 : Int32) &&& 31)))])) τ → Steps pP.tables e below A0 τ := by
    intro τ κ
    refine pre0 τ ?_
    refine XS.iloadN X0.here hx rfl (hb hby d_rm_nbl_0) rfl ?_
    refine XS.ifYes X0.here hx rfl (pc0 := 1) (pc' := 12) rfl (hb hby d_rm_nbl_1) rfl ((if0 _ _).trans (flt (own_nn (by omega))).2.1) (by decide) (by decide) ?_
    refine XS.iloadN X0.here hx rfl (hb hby d_rm_nbl_12) rfl ?_
    refine X0.ldcInt hx hown (mvT hZ (hw _ (List.mem_of_getElem? (i := 66) rfl))) (g := (mkF m 13 #[.val (.int (Int32.ofNat k))] [(.int (Int32.ofNat k))])) rfl (hb hby d_rm_nbl_13) _ ?_
    refine XS.icmpYes X0.here hx rfl (pc0 := 15) (pc' := 55) rfl (hb hby d_rm_nbl_15) rfl (tlt (own_ltM hk)).1 (by decide) (by decide) ?_
    refine XS.iloadN X0.here hx rfl (hb hby d_rm_nbl_55) rfl ?_
    refine XS.iconst X0.here hx rfl (hb hby d_rm_nbl_56) ?_
    refine XS.ishl X0.here hx rfl (hb hby d_rm_nbl_57) rfl ?_
    exact κ
  have pq102 : ∀ τ, Steps pP.tables e below (s₁.setTop (mkF m 58 #[.val (.int (Int32.ofNat k))] [(.int (Int32.ofNat (2 * k)))])) τ → Steps pP.tables e below A0 τ := by intro τ κ; refine pq101 τ ?_; rw [show ((Int32.ofNat k) <<< ((1 : Int32) &&& 31)) = (Int32.ofNat (2 * k)) from own_dbl hk]; exact κ
  obtain ⟨fs, hr, hrun, hended, hW, hsame⟩ := X0.leave (v := some (.int (Int32.ofNat (2 * k)))) (fun h => by rw [Bd.returns] at h; cases h)
  have pqE := pq102
  rw [hA0] at pqE
  refine ⟨_, _, pqE _ ?_, hrun, hended, _, _, rfl, ?_, ⟨_, rfl⟩, hW, hsame.mono (by decide) (by decide)⟩
  · show Steps pP.tables e below (s₁.setTop (mkF m 58 #[.val (.int (Int32.ofNat k))] [(.int (Int32.ofNat (2 * k)))])) _
    exact retOut X0 hx Bd.returns rfl (Or.inl ⟨rfl, Or.inl rfl, _, rfl⟩) (hb hby d_rm_nbl_58) hr
  · show Q_nbl k h0 n0 _ s₁.heap _
    rw [e0]
    exact ⟨rfl, N0, rfl⟩
def Q_nbf (Z : State) (k : Nat) (h0 : Heap) (n0 : Nat) (v : Option Value) (h : Heap) (L : List Loc) : Prop := ∃ (b : Addr) (kk : ClassId), v = some (.ref b) ∧ Fr n0 L ∧ Keep h0 h [] ∧ h0.size ≤ b ∧ Arv Z h b kk .byte (Int32.ofNat (2 * k)) [] (.int 0)
theorem d_rm_nbf_0 : decode jdk_52_method_2_code 0 = .ok (.iload_n 0, 1) := by decide +kernel
theorem d_rm_nbf_1 : decode jdk_52_method_2_code 1 = .ok (.invokestatic 11, 3) := by decide +kernel
theorem d_rm_nbf_4 : decode jdk_52_method_2_code 4 = .ok (.newarray .byte, 2) := by decide +kernel
theorem d_rm_nbf_6 : decode jdk_52_method_2_code 6 = .ok (.areturn, 1) := by decide +kernel
theorem ef_rm_nbf (m : MethodId) (x0 : Int32) : entryFrame m #[(.int x0)] 1 = mkF m 0 #[.val (.int x0)] [] := by first | (simp [entryFrame, mkF, argsToLocals, Value.category]; done) | rfl
set_option maxRecDepth 65536 in
set_option maxHeartbeats 3000000 in
theorem rm_nbf (l : Launch) (Z : State) (a0 : Array Value) (hw : ∀ d ∈ tables_1, d.before a0 Z = true) (ws : List Jvm.Cond) (k : Nat) (h0 : Heap) (n0 : Nat) (Z0 : n0 ≤ h0.size) (hk : k ≤ 3) :
    MetFree l (⟨"java/lang/StringUTF16", "newBytesFor", "(I)[B"⟩ : MethodName) (head1 (Jvm.Cond.code (⟨"java/lang/StringUTF16", "newBytesFor", "(I)[B"⟩ : MethodName) jdk_52_method_2_code 1 (some (.array .byte)) :: ws) ({ frames := 1, cells := 1, slots := 6, locals := 12 } : Room)) (fun αs U => αs = #[(.int (Int32.ofNat k))] ∧ Z.Warmed39 U.vm ∧ U.heap = h0) (fun _ _ _ _ _ => True) (fun _ U o U' => ∃ v L, o = .returned v ∧ Q_nbf Z k h0 n0 v U'.heap L ∧ FrameEnd U o U' L ({ frames := 1, cells := 1, slots := 6, locals := 12 } : Room).cells ({ frames := 1, cells := 1, slots := 6, locals := 12 } : Room).slots) := by
  refine MetFree.of_bodySF (plainFor_of_name pno_5) hisR ?_
  intro pP e s m args below meth cC s₁ Bd hml0 hP hK
  obtain ⟨rfl, hZ, hh⟩ := hP
  have hx := Bd.exec
  have hby := Bd.bytes
  have hml : cC.maxLocals = 1 := hml0
  have hown : s.vm.findClass "java/lang/StringUTF16" = some m.cls := findClass_of_methodNamed Bd.named
  have hnm := (name_of_methodNamed Bd.named Bd.method).1
  have X0 : Stand pP l e ({ frames := 1, cells := 1, slots := 6, locals := 12 } : Room) s m #[(.int (Int32.ofNat k))] below meth cC s₁ [] 0 0 := Stand.of_body Bd
  have e0 : s₁.heap = h0 := by rw [← hh, Bd.state]; rfl
  have N0 := Fr.nil n0
  have KC0 : Keep h0 h0 [] := Keep.refl h0 _
  obtain ⟨A0, hA0⟩ : ∃ z, z = s₁.setTop (entryFrame m #[(.int (Int32.ofNat k))] 1) := ⟨_, rfl⟩
  have pre0 : ∀ τ, Steps pP.tables e below (s₁.setTop (mkF m 0 #[.val (.int (Int32.ofNat k))] [])) τ → Steps pP.tables e below A0 τ := fun τ κ => by rw [hA0]; exact castTop (ef_rm_nbf m (Int32.ofNat k)) κ
  obtain ⟨_, _, ⟨T101, L101, k101, n101⟩, -, X101, ⟨Lc101, hQ101, l101, y101, z101⟩, st101⟩ := Jvm.LawKit.callS X0 hx (y := (⟨"java/lang/StringUTF16", "newBytesLength", "(I)I"⟩ : MethodName)) hown (mvT hZ (hw _ (List.mem_of_getElem? (i := 63) rfl))) (mvT hZ (hw _ (List.mem_of_getElem? (i := 64) rfl))) (mvT hZ (hw _ (List.mem_of_getElem? (i := 49) rfl))) (mvT hZ (hw _ (List.mem_of_getElem? (i := 65) rfl))) (by decide) (backOf (W := 0) (rm_nbl l Z a0 hw [] k h0 n0 Z0 hk) hZ (hw _ (List.mem_of_getElem? (i := 65) rfl)) (hw _ (List.mem_of_getElem? (i := 49) rfl)) (by decide) (by decide)) (g := (mkF m 1 #[.val (.int (Int32.ofNat k))] [(.int (Int32.ofNat k))])) rfl (by rw [hml]; rfl) (argsL := [(.int (Int32.ofNat k))]) (rest := []) (lenOf pdo_10 rfl) rfl (by show 2 * 0 + _ ≤ _; exact Nat.le_of_eq rfl) (hb hby d_rm_nbf_1) (fun _ _ => ⟨rfl, e0, (by decide : 0 + 0 ≤ _), (by decide : 0 + 0 ≤ _)⟩)
  dsimp only [Pt.U, Pt.locs, Pt.cells, Pt.slots] at X101 l101 y101 z101 st101 hQ101
  subst l101 y101 z101
  obtain ⟨rfl, Nq101, eq101⟩ := hQ101
  have N101 := Fr.app N0 Nq101
  have pq102 : ∀ τ, Steps pP.tables e below (T101.setTop (mkF m 4 #[.val (.int (Int32.ofNat k))] [(.int (Int32.ofNat (2 * k)))])) τ → Steps pP.tables e below A0 τ := by
    intro τ κ
    refine pre0 τ ?_
    refine XS.iloadN X0.here hx rfl (hb hby d_rm_nbf_0) rfl ?_
    refine st101 _ ?_
    exact κ
  obtain ⟨T103, h103, k103, X103, e103, E103, A103, st103⟩ := newP X101 hx hZ (hw _ (List.mem_of_getElem? (i := 25) rfl)) eq101 (g := (mkF m 4 #[.val (.int (Int32.ofNat k))] [(.int (Int32.ofNat (2 * k)))])) rfl (hb hby d_rm_nbf_4) rfl (own_nn (by omega)) (cap := 6) (by rw [own_ofn (by omega)]; omega) (by decide) (by decide) (by decide)
  obtain ⟨b103, g103⟩ : ∃ z, z = h0.size := ⟨_, rfl⟩
  rw [← g103] at A103 st103
  have pq104 : ∀ τ, Steps pP.tables e below (T103.setTop (mkF m 6 #[.val (.int (Int32.ofNat k))] [(.ref b103)])) τ → Steps pP.tables e below A0 τ := by
    intro τ κ
    refine pq102 τ ?_
    refine st103 _ ?_
    exact κ
  have KC103 : Keep h0 h103 [] := KC0.ext E103
  have V103 : Arv Z h103 b103 k103 .byte (Int32.ofNat (2 * k)) [] (.int (0 : Int32)) := Arv.new A103 (own_nn (by omega))
  obtain ⟨fs, hr, hrun, hended, hW, hsame⟩ := X103.leave (v := some (.ref b103)) (fun h => by rw [Bd.returns] at h; cases h)
  have pqE := pq104
  rw [hA0] at pqE
  refine ⟨_, _, pqE _ ?_, hrun, hended, _, _, rfl, ?_, ⟨_, rfl⟩, hW, hsame.mono (by decide) (by decide)⟩
  · show Steps pP.tables e below (T103.setTop (mkF m 6 #[.val (.int (Int32.ofNat k))] [(.ref b103)])) _
    exact retOut X103 hx Bd.returns rfl (Or.inr (Or.inr (Or.inr (Or.inr ⟨rfl, rfl, rfl⟩)))) (hb hby d_rm_nbf_6) hr
  · show Q_nbf Z k h0 n0 _ T103.heap _
    rw [e103]
    exact ⟨b103, _, rfl, N101, KC103, (Nat.le_trans (Nat.le_refl _) (Nat.le_of_eq g103.symm)), V103⟩
def Q_upc (Z : State) (u : Addr) (ku : ClassId) (k i : Nat) (vs : List Value) (c : Int32) (h0 : Heap) (n0 : Nat) (v : Option Value) (h : Heap) (L : List Loc) : Prop := v = none ∧ Fr n0 L ∧ Keep h0 h [u] ∧ Arv Z h u ku .byte (Int32.ofNat (2 * k)) ((vs.set (2 * i) (.int (own_b c 0))).set (2 * i + 1) (.int (own_b c 8))) (.int 0)
theorem d_rm_upc_0 : decode jdk_52_method_4_code 0 = .ok (.getstatic 44, 3) := by decide +kernel
theorem d_rm_upc_3 : decode jdk_52_method_4_code 3 = .ok (.ifCond .ne 25, 3) := by decide +kernel
theorem d_rm_upc_28 : decode jdk_52_method_4_code 28 = .ok (.iload_n 1, 1) := by decide +kernel
theorem d_rm_upc_29 : decode jdk_52_method_4_code 29 = .ok (.iconst 1, 1) := by decide +kernel
theorem d_rm_upc_30 : decode jdk_52_method_4_code 30 = .ok (.ishl, 1) := by decide +kernel
theorem d_rm_upc_31 : decode jdk_52_method_4_code 31 = .ok (.istore_n 1, 1) := by decide +kernel
theorem d_rm_upc_32 : decode jdk_52_method_4_code 32 = .ok (.aload_n 0, 1) := by decide +kernel
theorem d_rm_upc_33 : decode jdk_52_method_4_code 33 = .ok (.iload_n 1, 1) := by decide +kernel
theorem d_rm_upc_34 : decode jdk_52_method_4_code 34 = .ok (.iinc 1 1, 3) := by decide +kernel
theorem d_rm_upc_37 : decode jdk_52_method_4_code 37 = .ok (.iload_n 2, 1) := by decide +kernel
theorem d_rm_upc_38 : decode jdk_52_method_4_code 38 = .ok (.getstatic 59, 3) := by decide +kernel
theorem d_rm_upc_41 : decode jdk_52_method_4_code 41 = .ok (.ishr, 1) := by decide +kernel
theorem d_rm_upc_42 : decode jdk_52_method_4_code 42 = .ok (.i2b, 1) := by decide +kernel
theorem d_rm_upc_43 : decode jdk_52_method_4_code 43 = .ok (.bastore, 1) := by decide +kernel
theorem d_rm_upc_44 : decode jdk_52_method_4_code 44 = .ok (.aload_n 0, 1) := by decide +kernel
theorem d_rm_upc_45 : decode jdk_52_method_4_code 45 = .ok (.iload_n 1, 1) := by decide +kernel
theorem d_rm_upc_46 : decode jdk_52_method_4_code 46 = .ok (.iload_n 2, 1) := by decide +kernel
theorem d_rm_upc_47 : decode jdk_52_method_4_code 47 = .ok (.getstatic 63, 3) := by decide +kernel
theorem d_rm_upc_50 : decode jdk_52_method_4_code 50 = .ok (.ishr, 1) := by decide +kernel
theorem d_rm_upc_51 : decode jdk_52_method_4_code 51 = .ok (.i2b, 1) := by decide +kernel
theorem d_rm_upc_52 : decode jdk_52_method_4_code 52 = .ok (.bastore, 1) := by decide +kernel
theorem d_rm_upc_53 : decode jdk_52_method_4_code 53 = .ok (.return_, 1) := by decide +kernel
theorem ef_rm_upc (m : MethodId) (x0 : Addr) (x1 : Int32) (x2 : Int32) : entryFrame m #[(.ref x0), (.int x1), (.int x2)] 3 = mkF m 0 #[.val (.ref x0), .val (.int x1), .val (.int x2)] [] := by first | (simp [entryFrame, mkF, argsToLocals, Value.category]; done) | rfl
set_option maxRecDepth 65536 in
set_option maxHeartbeats 3000000 in
theorem rm_upc (l : Launch) (Z : State) (a0 : Array Value) (hw : ∀ d ∈ tables_1, d.before a0 Z = true) (ws : List Jvm.Cond) (u : Addr) (ku : ClassId) (k i : Nat) (vs : List Value) (c : Int32) (h0 : Heap) (n0 : Nat) (Z0 : n0 ≤ h0.size) (OA : Sta Z Z.heap "java/lang/StringUTF16" "$assertionsDisabled" "Z" (.int 1)) (OH : Sta Z Z.heap "java/lang/StringUTF16" "HI_BYTE_SHIFT" "I" (.int 0)) (OL : Sta Z Z.heap "java/lang/StringUTF16" "LO_BYTE_SHIFT" "I" (.int 8)) (X00 : Old Z n0 h0) (V_u : Arv Z h0 u ku .byte (Int32.ofNat (2 * k)) vs (.int 0)) (gu : n0 ≤ u) (hk : k ≤ 3) (hi : i < k) (hv : 6 ≤ vs.length) :
    MetFree l (⟨"java/lang/StringUTF16", "putChar", "([BII)V"⟩ : MethodName) (head1 (Jvm.Cond.code (⟨"java/lang/StringUTF16", "putChar", "([BII)V"⟩ : MethodName) jdk_52_method_4_code 3 none :: ws) ({ frames := 0, cells := 0, slots := 0, locals := 0 } : Room)) (fun αs U => αs = #[(.ref u), (.int (Int32.ofNat i)), (.int c)] ∧ Z.Warmed39 U.vm ∧ U.heap = h0) (fun _ _ _ _ _ => True) (fun _ U o U' => ∃ v L, o = .returned v ∧ Q_upc Z u ku k i vs c h0 n0 v U'.heap L ∧ FrameEnd U o U' L ({ frames := 0, cells := 0, slots := 0, locals := 0 } : Room).cells ({ frames := 0, cells := 0, slots := 0, locals := 0 } : Room).slots) := by
  refine MetFree.of_bodySF (plainFor_of_name pno_5) hisR ?_
  intro pP e s m args below meth cC s₁ Bd hml0 hP hK
  obtain ⟨rfl, hZ, hh⟩ := hP
  have hx := Bd.exec
  have hby := Bd.bytes
  have hml : cC.maxLocals = 3 := hml0
  have hown : s.vm.findClass "java/lang/StringUTF16" = some m.cls := findClass_of_methodNamed Bd.named
  have hnm := (name_of_methodNamed Bd.named Bd.method).1
  have X0 : Stand pP l e ({ frames := 0, cells := 0, slots := 0, locals := 0 } : Room) s m #[(.ref u), (.int (Int32.ofNat i)), (.int c)] below meth cC s₁ [] 0 0 := Stand.of_body Bd
  have e0 : s₁.heap = h0 := by rw [← hh, Bd.state]; rfl
  have N0 := Fr.nil n0
  have KC0 : Keep h0 h0 [u] := Keep.refl h0 _
  obtain ⟨A0, hA0⟩ : ∃ z, z = s₁.setTop (entryFrame m #[(.ref u), (.int (Int32.ofNat i)), (.int c)] 3) := ⟨_, rfl⟩
  have pre0 : ∀ τ, Steps pP.tables e below (s₁.setTop (mkF m 0 #[.val (.ref u), .val (.int (Int32.ofNat i)), .val (.int c)] [])) τ → Steps pP.tables e below A0 τ := fun τ κ => by rw [hA0]; exact castTop (ef_rm_upc m u (Int32.ofNat i) c) κ
  obtain ⟨T101, X101, e101, st101⟩ := getS2 X0 hx hZ hown (host := "") (Or.inl (hw _ (List.mem_of_getElem? (i := 70) rfl))) Via.refl e0 (OA.ext X00.2) (g := (mkF m 0 #[.val (.ref u), .val (.int (Int32.ofNat i)), .val (.int c)] [])) rfl (hb hby d_rm_upc_0)
  have pq102 : ∀ τ, Steps pP.tables e below (T101.setTop (mkF m 3 #[.val (.ref u), .val (.int (Int32.ofNat i)), .val (.int c)] [(.int (1 : Int32))])) τ → Steps pP.tables e below A0 τ := by
    intro τ κ
    refine pre0 τ ?_
    refine st101 _ ?_
    exact κ
  have pq103 : ∀ τ, Steps pP.tables e below (T101.setTop (mkF m 31 #[.val (.ref u), .val (.int (Int32.ofNat i)), .val (.int c)] [(.int ((Int32.ofNat i) <<< ((1 : Int32) &&& 31)))])) τ → Steps pP.tables e below A0 τ := by
    intro τ κ
    refine pq102 τ ?_
    refine XS.ifYes X101.here hx rfl (pc0 := 3) (pc' := 28) rfl (hb hby d_rm_upc_3) rfl ((if0 _ _).trans (feq (by decide : ¬ ((1 : Int32) = (0 : Int32)))).2) (by decide) (by decide) ?_
    refine XS.iloadN X101.here hx rfl (hb hby d_rm_upc_28) rfl ?_
    refine XS.iconst X101.here hx rfl (hb hby d_rm_upc_29) ?_
    refine XS.ishl X101.here hx rfl (hb hby d_rm_upc_30) rfl ?_
    exact κ
  have pq104 : ∀ τ, Steps pP.tables e below (T101.setTop (mkF m 31 #[.val (.ref u), .val (.int (Int32.ofNat i)), .val (.int c)] [(.int (Int32.ofNat (2 * i)))])) τ → Steps pP.tables e below A0 τ := by intro τ κ; refine pq103 τ ?_; rw [show ((Int32.ofNat i) <<< ((1 : Int32) &&& 31)) = (Int32.ofNat (2 * i)) from own_dbl (by omega)]; exact κ
  have pq105 : ∀ τ, Steps pP.tables e below (T101.setTop (mkF m 37 #[.val (.ref u), .val (.int ((Int32.ofNat (2 * i)) + (1 : Int32))), .val (.int c)] [(.int (Int32.ofNat (2 * i))), (.ref u)])) τ → Steps pP.tables e below A0 τ := by
    intro τ κ
    refine pq104 τ ?_
    refine XS.istoreN X101.here hx rfl (hb hby d_rm_upc_31) rfl (l' := #[.val (.ref u), .val (.int (Int32.ofNat (2 * i))), .val (.int c)]) rfl ?_
    refine XS.aloadN X101.here hx rfl (hb hby d_rm_upc_32) rfl rfl ?_
    refine XS.iloadN X101.here hx rfl (hb hby d_rm_upc_33) rfl ?_
    refine XS.iinc X101.here hx rfl (hb hby d_rm_upc_34) rfl (l' := #[.val (.ref u), .val (.int ((Int32.ofNat (2 * i)) + (1 : Int32))), .val (.int c)]) rfl ?_
    exact κ
  have pq106 : ∀ τ, Steps pP.tables e below (T101.setTop (mkF m 37 #[.val (.ref u), .val (.int (Int32.ofNat (2 * i + 1))), .val (.int c)] [(.int (Int32.ofNat (2 * i))), (.ref u)])) τ → Steps pP.tables e below A0 τ := by intro τ κ; refine pq105 τ ?_; rw [show ((Int32.ofNat (2 * i)) + (1 : Int32)) = (Int32.ofNat (2 * i + 1)) from own_dbl1 (by omega)]; exact κ
  obtain ⟨T107, X107, e107, st107⟩ := getS2 X101 hx hZ hown (host := "") (Or.inl (hw _ (List.mem_of_getElem? (i := 71) rfl))) Via.refl e101 (OH.ext X00.2) (g := (mkF m 38 #[.val (.ref u), .val (.int (Int32.ofNat (2 * i + 1))), .val (.int c)] [(.int c), (.int (Int32.ofNat (2 * i))), (.ref u)])) rfl (hb hby d_rm_upc_38)
  have pq108 : ∀ τ, Steps pP.tables e below (T107.setTop (mkF m 41 #[.val (.ref u), .val (.int (Int32.ofNat (2 * i + 1))), .val (.int c)] [(.int (0 : Int32)), (.int c), (.int (Int32.ofNat (2 * i))), (.ref u)])) τ → Steps pP.tables e below A0 τ := by
    intro τ κ
    refine pq106 τ ?_
    refine XS.iloadN X101.here hx rfl (hb hby d_rm_upc_37) rfl ?_
    refine st107 _ ?_
    exact κ
  obtain ⟨cl109, Ar109, q109, S109, M109, Hs109, G109⟩ := id V_u
  obtain ⟨T109, h109, X109, e109, W109, st109⟩ := stB X107 hx hZ e107 Ar109 (j := (Int32.ofNat (2 * i))) (inb_of S109 ⟨own_nn (by omega), (own_ltN (by omega) (by omega)).mpr (by omega)⟩) (g := (mkF m 43 #[.val (.ref u), .val (.int (Int32.ofNat (2 * i + 1))), .val (.int c)] [(.int ((c >>> ((0 : Int32) &&& 31)).toInt8.toInt32)), (.int (Int32.ofNat (2 * i))), (.ref u)])) rfl rfl (hb hby d_rm_upc_43)
  have pq110 : ∀ τ, Steps pP.tables e below (T109.setTop (mkF m 44 #[.val (.ref u), .val (.int (Int32.ofNat (2 * i + 1))), .val (.int c)] [])) τ → Steps pP.tables e below A0 τ := by
    intro τ κ
    refine pq108 τ ?_
    refine XS.ishr X107.here hx rfl (hb hby d_rm_upc_41) rfl ?_
    refine XS.i2b X107.here hx rfl (hb hby d_rm_upc_42) rfl ?_
    refine st109 _ ?_
    exact κ
  have KC109 : Keep h0 h109 [u] := KC0.wr W109 (Or.inl (List.mem_of_getElem? (i := 0) rfl))
  have V109 : Arv Z h109 u ku .byte (Int32.ofNat (2 * k)) (vs.set (2 * i) (.int ((c >>> ((0 : Int32) &&& 31)).toInt8.toInt32).toInt8.toInt32)) (.int 0) := Arv.set Ar109 q109 S109 M109 Hs109 G109 (fits_nar_byte _) W109 (2 * i) (own_ofn (by omega)) (by omega)
  have N109 := Fr.snoc X109 N0 gu
  have f112 := (X00.wr W109 gu)
  obtain ⟨T111, X111, e111, st111⟩ := getS2 X109 hx hZ hown (host := "") (Or.inl (hw _ (List.mem_of_getElem? (i := 72) rfl))) Via.refl e109 (OL.ext f112.2) (g := (mkF m 47 #[.val (.ref u), .val (.int (Int32.ofNat (2 * i + 1))), .val (.int c)] [(.int c), (.int (Int32.ofNat (2 * i + 1))), (.ref u)])) rfl (hb hby d_rm_upc_47)
  have pq113 : ∀ τ, Steps pP.tables e below (T111.setTop (mkF m 50 #[.val (.ref u), .val (.int (Int32.ofNat (2 * i + 1))), .val (.int c)] [(.int (8 : Int32)), (.int c), (.int (Int32.ofNat (2 * i + 1))), (.ref u)])) τ → Steps pP.tables e below A0 τ := by
    intro τ κ
    refine pq110 τ ?_
    refine XS.aloadN X109.here hx rfl (hb hby d_rm_upc_44) rfl rfl ?_
    refine XS.iloadN X109.here hx rfl (hb hby d_rm_upc_45) rfl ?_
    refine XS.iloadN X109.here hx rfl (hb hby d_rm_upc_46) rfl ?_
    refine st111 _ ?_
    exact κ
  obtain ⟨cl114, Ar114, q114, S114, M114, Hs114, G114⟩ := id V109
  obtain ⟨T114, h114, X114, e114, W114, st114⟩ := stB X111 hx hZ e111 Ar114 (j := (Int32.ofNat (2 * i + 1))) (inb_of S114 ⟨own_nn (by omega), (own_ltN (by omega) (by omega)).mpr (by omega)⟩) (g := (mkF m 52 #[.val (.ref u), .val (.int (Int32.ofNat (2 * i + 1))), .val (.int c)] [(.int ((c >>> ((8 : Int32) &&& 31)).toInt8.toInt32)), (.int (Int32.ofNat (2 * i + 1))), (.ref u)])) rfl rfl (hb hby d_rm_upc_52)
  have pq115 : ∀ τ, Steps pP.tables e below (T114.setTop (mkF m 53 #[.val (.ref u), .val (.int (Int32.ofNat (2 * i + 1))), .val (.int c)] [])) τ → Steps pP.tables e below A0 τ := by
    intro τ κ
    refine pq113 τ ?_
    refine XS.ishr X111.here hx rfl (hb hby d_rm_upc_50) rfl ?_
    refine XS.i2b X111.here hx rfl (hb hby d_rm_upc_51) rfl ?_
    refine st114 _ ?_
    exact κ
  have KC114 : Keep h0 h114 [u] := KC109.wr W114 (Or.inl (List.mem_of_getElem? (i := 0) rfl))
  have V114 : Arv Z h114 u ku .byte (Int32.ofNat (2 * k)) ((vs.set (2 * i) (.int ((c >>> ((0 : Int32) &&& 31)).toInt8.toInt32).toInt8.toInt32)).set (2 * i + 1) (.int ((c >>> ((8 : Int32) &&& 31)).toInt8.toInt32).toInt8.toInt32)) (.int 0) := Arv.set Ar114 q114 S114 M114 Hs114 G114 (fits_nar_byte _) W114 (2 * i + 1) (own_ofn (by omega)) (by rw [List.length_set]; omega)
  have N114 := Fr.snoc X114 N109 gu
  obtain ⟨fs, hr, hrun, hended, hW, hsame⟩ := X114.leave (v := none) (fun _ => rfl)
  have pqE := pq115
  rw [hA0] at pqE
  refine ⟨_, _, pqE _ ?_, hrun, hended, _, _, rfl, ?_, ⟨_, rfl⟩, hW, hsame.mono (by decide) (by decide)⟩
  · show Steps pP.tables e below (T114.setTop (mkF m 53 #[.val (.ref u), .val (.int (Int32.ofNat (2 * i + 1))), .val (.int c)] [])) _
    exact X114.returnOut hx Bd.returns (hb hby d_rm_upc_53) hr
  · show Q_upc Z u ku k i vs c h0 n0 _ T114.heap _
    rw [e114]
    exact ⟨rfl, N114, KC114, V114⟩
def Q_cfl (h0 : Heap) (n0 : Nat) (v : Option Value) (h : Heap) (L : List Loc) : Prop := v = some (.int 1) ∧ Fr n0 L ∧ h = h0
theorem d_rm_cfl_0 : decode jdk_52_method_15_code 0 = .ok (.iload_n 1, 1) := by decide +kernel
theorem d_rm_cfl_1 : decode jdk_52_method_15_code 1 = .ok (.aload_n 0, 1) := by decide +kernel
theorem d_rm_cfl_2 : decode jdk_52_method_15_code 2 = .ok (.arraylength, 1) := by decide +kernel
theorem d_rm_cfl_3 : decode jdk_52_method_15_code 3 = .ok (.isub, 1) := by decide +kernel
theorem d_rm_cfl_4 : decode jdk_52_method_15_code 4 = .ok (.bipush 31, 2) := by decide +kernel
theorem d_rm_cfl_6 : decode jdk_52_method_15_code 6 = .ok (.iushr, 1) := by decide +kernel
theorem d_rm_cfl_7 : decode jdk_52_method_15_code 7 = .ok (.i2b, 1) := by decide +kernel
theorem d_rm_cfl_8 : decode jdk_52_method_15_code 8 = .ok (.ireturn, 1) := by decide +kernel
theorem ef_rm_cfl (m : MethodId) (x0 : Addr) (x1 : Int32) : entryFrame m #[(.ref x0), (.int x1)] 2 = mkF m 0 #[.val (.ref x0), .val (.int x1)] [] := by first | (simp [entryFrame, mkF, argsToLocals, Value.category]; done) | rfl
set_option maxRecDepth 65536 in
set_option maxHeartbeats 3000000 in
theorem rm_cfl (l : Launch) (Z : State) (a0 : Array Value) (hw : ∀ d ∈ tables_1, d.before a0 Z = true) (ws : List Jvm.Cond) (u : Addr) (ku : ClassId) (k : Nat) (vs : List Value) (h0 : Heap) (n0 : Nat) (Z0 : n0 ≤ h0.size) (V_u : Arv Z h0 u ku .byte (Int32.ofNat (2 * k)) vs (.int 0)) (hk : k ≤ 3) (h1 : 1 ≤ k) :
    MetFree l (⟨"java/lang/StringUTF16", "coderFromArrayLen", "([BI)B"⟩ : MethodName) (head1 (Jvm.Cond.code (⟨"java/lang/StringUTF16", "coderFromArrayLen", "([BI)B"⟩ : MethodName) jdk_52_method_15_code 2 (some .byte) :: ws) ({ frames := 0, cells := 0, slots := 0, locals := 0 } : Room)) (fun αs U => αs = #[(.ref u), (.int (Int32.ofNat k))] ∧ Z.Warmed39 U.vm ∧ U.heap = h0) (fun _ _ _ _ _ => True) (fun _ U o U' => ∃ v L, o = .returned v ∧ Q_cfl h0 n0 v U'.heap L ∧ FrameEnd U o U' L ({ frames := 0, cells := 0, slots := 0, locals := 0 } : Room).cells ({ frames := 0, cells := 0, slots := 0, locals := 0 } : Room).slots) := by
  refine MetFree.of_bodySF (plainFor_of_name pno_5) hisR ?_
  intro pP e s m args below meth cC s₁ Bd hml0 hP hK
  obtain ⟨rfl, hZ, hh⟩ := hP
  have hx := Bd.exec
  have hby := Bd.bytes
  have hml : cC.maxLocals = 2 := hml0
  have hown : s.vm.findClass "java/lang/StringUTF16" = some m.cls := findClass_of_methodNamed Bd.named
  have hnm := (name_of_methodNamed Bd.named Bd.method).1
  have X0 : Stand pP l e ({ frames := 0, cells := 0, slots := 0, locals := 0 } : Room) s m #[(.ref u), (.int (Int32.ofNat k))] below meth cC s₁ [] 0 0 := Stand.of_body Bd
  have e0 : s₁.heap = h0 := by rw [← hh, Bd.state]; rfl
  have N0 := Fr.nil n0
  have KC0 : Keep h0 h0 [] := Keep.refl h0 _
  obtain ⟨A0, hA0⟩ : ∃ z, z = s₁.setTop (entryFrame m #[(.ref u), (.int (Int32.ofNat k))] 2) := ⟨_, rfl⟩
  have pre0 : ∀ τ, Steps pP.tables e below (s₁.setTop (mkF m 0 #[.val (.ref u), .val (.int (Int32.ofNat k))] [])) τ → Steps pP.tables e below A0 τ := fun τ κ => by rw [hA0]; exact castTop (ef_rm_cfl m u (Int32.ofNat k)) κ
  obtain ⟨cl101, Ar101, q101, S101, M101, Hs101, G101⟩ := id V_u
  have pq102 : ∀ τ, Steps pP.tables e below (s₁.setTop (mkF m 8 #[.val (.ref u), .val (.int (Int32.ofNat k))] [(.int (((((Int32.ofNat k) - (Int32.ofNat (2 * k))).toUInt32 >>> ((31 : Int32) &&& 31).toUInt32).toInt32).toInt8.toInt32))])) τ → Steps pP.tables e below A0 τ := by
    intro τ κ
    refine pre0 τ ?_
    refine XS.iloadN X0.here hx rfl (hb hby d_rm_cfl_0) rfl ?_
    refine XS.aloadN X0.here hx rfl (hb hby d_rm_cfl_1) rfl rfl ?_
    refine X0.arraylength hx (by rw [e0]; exact Ar101.1) (State.isArrayOf_alike hZ.alike Ar101.2.1) (g := (mkF m 2 #[.val (.ref u), .val (.int (Int32.ofNat k))] [(.ref u), (.int (Int32.ofNat k))])) rfl rfl (hb hby d_rm_cfl_2) _ ?_
    rw [len_of S101 M101]
    refine XS.isub X0.here hx rfl (hb hby d_rm_cfl_3) rfl ?_
    refine XS.bipush X0.here hx rfl (hb hby d_rm_cfl_4) ?_
    refine XS.iushr X0.here hx rfl (hb hby d_rm_cfl_6) rfl ?_
    refine XS.i2b X0.here hx rfl (hb hby d_rm_cfl_7) rfl ?_
    exact κ
  have pq103 : ∀ τ, Steps pP.tables e below (s₁.setTop (mkF m 8 #[.val (.ref u), .val (.int (Int32.ofNat k))] [(.int (1 : Int32))])) τ → Steps pP.tables e below A0 τ := by intro τ κ; refine pq102 τ ?_; rw [show (((((Int32.ofNat k) - (Int32.ofNat (2 * k))).toUInt32 >>> ((31 : Int32) &&& 31).toUInt32).toInt32).toInt8.toInt32) = (1 : Int32) from own_cfl hk h1]; exact κ
  obtain ⟨fs, hr, hrun, hended, hW, hsame⟩ := X0.leave (v := some (.int (1 : Int32))) (fun h => by rw [Bd.returns] at h; cases h)
  have pqE := pq103
  rw [hA0] at pqE
  refine ⟨_, _, pqE _ ?_, hrun, hended, _, _, rfl, ?_, ⟨_, rfl⟩, hW, hsame.mono (by decide) (by decide)⟩
  · show Steps pP.tables e below (s₁.setTop (mkF m 8 #[.val (.ref u), .val (.int (Int32.ofNat k))] [(.int (1 : Int32))])) _
    exact retN X0 hx (t := .byte) Bd.returns (by simp) (hb hby d_rm_cfl_8) hr
  · show Q_cfl h0 n0 _ s₁.heap _
    rw [e0]
    exact ⟨rfl, N0, rfl⟩
def Q_c5_1 (d : Addr) (c0 : Int32) (h0 : Heap) (n0 : Nat) (v : Option Value) (h : Heap) (L : List Loc) : Prop := ∃ j : Nat, v = some (.int (Int32.ofNat j)) ∧ j < 1 ∧ (255 : Int32) < ([c0] : List Int32).getD j 0 ∧ Fr n0 L ∧ Keep h0 h [d]
theorem d_rm_c5_1_0 : decode jdk_52_method_21_code 0 = .ok (.iconst 0, 1) := by decide +kernel
theorem d_rm_c5_1_1 : decode jdk_52_method_21_code 1 = .ok (.istore 5, 2) := by decide +kernel
theorem d_rm_c5_1_3 : decode jdk_52_method_21_code 3 = .ok (.iload 5, 2) := by decide +kernel
theorem d_rm_c5_1_5 : decode jdk_52_method_21_code 5 = .ok (.iload 4, 2) := by decide +kernel
theorem d_rm_c5_1_7 : decode jdk_52_method_21_code 7 = .ok (.if_icmp .ge 37, 3) := by decide +kernel
theorem d_rm_c5_1_10 : decode jdk_52_method_21_code 10 = .ok (.aload_n 0, 1) := by decide +kernel
theorem d_rm_c5_1_11 : decode jdk_52_method_21_code 11 = .ok (.iload_n 1, 1) := by decide +kernel
theorem d_rm_c5_1_12 : decode jdk_52_method_21_code 12 = .ok (.caload, 1) := by decide +kernel
theorem d_rm_c5_1_13 : decode jdk_52_method_21_code 13 = .ok (.istore 6, 2) := by decide +kernel
theorem d_rm_c5_1_15 : decode jdk_52_method_21_code 15 = .ok (.iload 6, 2) := by decide +kernel
theorem d_rm_c5_1_17 : decode jdk_52_method_21_code 17 = .ok (.sipush 255, 3) := by decide +kernel
theorem d_rm_c5_1_20 : decode jdk_52_method_21_code 20 = .ok (.if_icmp .le 6, 3) := by decide +kernel
theorem d_rm_c5_1_23 : decode jdk_52_method_21_code 23 = .ok (.iload 5, 2) := by decide +kernel
theorem d_rm_c5_1_25 : decode jdk_52_method_21_code 25 = .ok (.ireturn, 1) := by decide +kernel
theorem d_rm_c5_1_26 : decode jdk_52_method_21_code 26 = .ok (.aload_n 2, 1) := by decide +kernel
theorem d_rm_c5_1_27 : decode jdk_52_method_21_code 27 = .ok (.iload_n 3, 1) := by decide +kernel
theorem d_rm_c5_1_28 : decode jdk_52_method_21_code 28 = .ok (.iload 6, 2) := by decide +kernel
theorem d_rm_c5_1_30 : decode jdk_52_method_21_code 30 = .ok (.i2b, 1) := by decide +kernel
theorem d_rm_c5_1_31 : decode jdk_52_method_21_code 31 = .ok (.bastore, 1) := by decide +kernel
theorem d_rm_c5_1_32 : decode jdk_52_method_21_code 32 = .ok (.iinc 1 1, 3) := by decide +kernel
theorem d_rm_c5_1_35 : decode jdk_52_method_21_code 35 = .ok (.iinc 3 1, 3) := by decide +kernel
theorem d_rm_c5_1_38 : decode jdk_52_method_21_code 38 = .ok (.iinc 5 1, 3) := by decide +kernel
theorem d_rm_c5_1_41 : decode jdk_52_method_21_code 41 = .ok (.goto (-38), 3) := by decide +kernel
theorem d_rm_c5_1_44 : decode jdk_52_method_21_code 44 = .ok (.iload 4, 2) := by decide +kernel
theorem ef_rm_c5_1 (m : MethodId) (x0 : Addr) (x1 : Int32) (x2 : Addr) (x3 : Int32) (x4 : Int32) : entryFrame m #[(.ref x0), (.int x1), (.ref x2), (.int x3), (.int x4)] 7 = mkF m 0 #[.val (.ref x0), .val (.int x1), .val (.ref x2), .val (.int x3), .val (.int x4), .unset, .unset] [] := by first | (simp [entryFrame, mkF, argsToLocals, Value.category]; done) | rfl
set_option maxRecDepth 65536 in
set_option maxHeartbeats 3000000 in
theorem rm_c5_1 (l : Launch) (Z : State) (a0 : Array Value) (hw : ∀ d ∈ tables_1, d.before a0 Z = true) (ws : List Jvm.Cond) (b d : Addr) (kc kd : ClassId) (c0 : Int32) (h0 : Heap) (n0 : Nat) (Z0 : n0 ≤ h0.size) (V_b : Arv Z h0 b kc .char (1 : Int32) [(.int c0)] (.int (0 : Int32))) (V_d : Arv Z h0 d kd .byte (1 : Int32) [(.int (0 : Int32))] (.int (0 : Int32))) (gd : n0 ≤ d) (hbd : b ≠ d) (hbad : ¬ ∀ c ∈ ([c0] : List Int32), ¬ (255 : Int32) < c) :
    MetFree l (⟨"java/lang/StringUTF16", "compress", "([CI[BII)I"⟩ : MethodName) (head1 (Jvm.Cond.code (⟨"java/lang/StringUTF16", "compress", "([CI[BII)I"⟩ : MethodName) jdk_52_method_21_code 7 (some .int) :: ws) ({ frames := 0, cells := 0, slots := 0, locals := 0 } : Room)) (fun αs U => αs = #[(.ref b), (.int (0 : Int32)), (.ref d), (.int (0 : Int32)), (.int (1 : Int32))] ∧ Z.Warmed39 U.vm ∧ U.heap = h0) (fun _ _ _ _ _ => True) (fun _ U o U' => ∃ v L, o = .returned v ∧ Q_c5_1 d c0 h0 n0 v U'.heap L ∧ FrameEnd U o U' L ({ frames := 0, cells := 0, slots := 0, locals := 0 } : Room).cells ({ frames := 0, cells := 0, slots := 0, locals := 0 } : Room).slots) := by
  refine MetFree.of_bodySF (plainFor_of_name pno_5) hisR ?_
  intro pP e s m args below meth cC s₁ Bd hml0 hP hK
  obtain ⟨rfl, hZ, hh⟩ := hP
  have hx := Bd.exec
  have hby := Bd.bytes
  have hml : cC.maxLocals = 7 := hml0
  have hown : s.vm.findClass "java/lang/StringUTF16" = some m.cls := findClass_of_methodNamed Bd.named
  have hnm := (name_of_methodNamed Bd.named Bd.method).1
  have X0 : Stand pP l e ({ frames := 0, cells := 0, slots := 0, locals := 0 } : Room) s m #[(.ref b), (.int (0 : Int32)), (.ref d), (.int (0 : Int32)), (.int (1 : Int32))] below meth cC s₁ [] 0 0 := Stand.of_body Bd
  have e0 : s₁.heap = h0 := by rw [← hh, Bd.state]; rfl
  have N0 := Fr.nil n0
  have KC0 : Keep h0 h0 [d] := Keep.refl h0 _
  obtain ⟨A0, hA0⟩ : ∃ z, z = s₁.setTop (entryFrame m #[(.ref b), (.int (0 : Int32)), (.ref d), (.int (0 : Int32)), (.int (1 : Int32))] 7) := ⟨_, rfl⟩
  have pre0 : ∀ τ, Steps pP.tables e below (s₁.setTop (mkF m 0 #[.val (.ref b), .val (.int (0 : Int32)), .val (.ref d), .val (.int (0 : Int32)), .val (.int (1 : Int32)), .unset, .unset] [])) τ → Steps pP.tables e below A0 τ := fun τ κ => by rw [hA0]; exact castTop (ef_rm_c5_1 m b (0 : Int32) d (0 : Int32) (1 : Int32)) κ
  obtain ⟨cl101, Ar101, q101, S101, M101, Hs101, G101⟩ := id V_b
  have hin101 := inb_of (j := (0 : Int32)) S101 ⟨by decide, by decide⟩
  have pq102 : ∀ τ, Steps pP.tables e below (s₁.setTop (mkF m 20 #[.val (.ref b), .val (.int (0 : Int32)), .val (.ref d), .val (.int (0 : Int32)), .val (.int (1 : Int32)), .val (.int (0 : Int32)), .val (.int c0)] [(.int (255 : Int32)), (.int c0)])) τ → Steps pP.tables e below A0 τ := by
    intro τ κ
    refine pre0 τ ?_
    refine XS.iconst X0.here hx rfl (hb hby d_rm_c5_1_0) ?_
    refine XS.istore X0.here hx rfl (hb hby d_rm_c5_1_1) rfl (l' := #[.val (.ref b), .val (.int (0 : Int32)), .val (.ref d), .val (.int (0 : Int32)), .val (.int (1 : Int32)), .val (.int (0 : Int32)), .unset]) rfl ?_
    refine XS.iload X0.here hx rfl (hb hby d_rm_c5_1_3) rfl ?_
    refine XS.iload X0.here hx rfl (hb hby d_rm_c5_1_5) rfl ?_
    refine XS.icmpNo X0.here hx rfl (hb hby d_rm_c5_1_7) rfl (tlt (by decide : ((0 : Int32) < (1 : Int32)))).2.1 ?_
    refine XS.aloadN X0.here hx rfl (hb hby d_rm_c5_1_10) rfl rfl ?_
    refine XS.iloadN X0.here hx rfl (hb hby d_rm_c5_1_11) rfl ?_
    refine X0.caload hx (j := (0 : Int32)) (v := (.int c0)) (by rw [e0]; exact Ar101.1) (State.isArrayOf_alike hZ.alike Ar101.2.1) Ar101.2.2 hin101 (Has.at Hs101 hin101 rfl) (g := (mkF m 12 #[.val (.ref b), .val (.int (0 : Int32)), .val (.ref d), .val (.int (0 : Int32)), .val (.int (1 : Int32)), .val (.int (0 : Int32)), .unset] [(.int (0 : Int32)), (.ref b)])) rfl rfl (hb hby d_rm_c5_1_12) _ ?_
    refine XS.istore X0.here hx rfl (hb hby d_rm_c5_1_13) rfl (l' := #[.val (.ref b), .val (.int (0 : Int32)), .val (.ref d), .val (.int (0 : Int32)), .val (.int (1 : Int32)), .val (.int (0 : Int32)), .val (.int c0)]) rfl ?_
    refine XS.iload X0.here hx rfl (hb hby d_rm_c5_1_15) rfl ?_
    refine XS.sipush X0.here hx rfl (hb hby d_rm_c5_1_17) ?_
    exact κ
  by_cases hc20_103 : (255 : Int32) < c0
  · skip
    obtain ⟨fs, hr, hrun, hended, hW, hsame⟩ := X0.leave (v := some (.int (0 : Int32))) (fun h => by rw [Bd.returns] at h; cases h)
    have pqE := pq102
    rw [hA0] at pqE
    refine ⟨_, _, pqE _ ?_, hrun, hended, _, _, rfl, ?_, ⟨_, rfl⟩, hW, hsame.mono (by decide) (by decide)⟩
    · refine XS.icmpNo X0.here hx rfl (hb hby d_rm_c5_1_20) rfl (tlt hc20_103).2.2.2 ?_
      refine XS.iload X0.here hx rfl (hb hby d_rm_c5_1_23) rfl ?_
      show Steps pP.tables e below (s₁.setTop (mkF m 25 #[.val (.ref b), .val (.int (0 : Int32)), .val (.ref d), .val (.int (0 : Int32)), .val (.int (1 : Int32)), .val (.int (0 : Int32)), .val (.int c0)] [(.int (0 : Int32))])) _
      exact retOut X0 hx Bd.returns rfl (Or.inl ⟨rfl, Or.inl rfl, _, rfl⟩) (hb hby d_rm_c5_1_25) hr
    · show Q_c5_1 d c0 h0 n0 _ s₁.heap _
      rw [e0]
      exact ⟨0, rfl, (by decide), hc20_103, N0, KC0⟩
  · skip
    obtain ⟨cl104, Ar104, q104, S104, M104, Hs104, G104⟩ := id V_d
    obtain ⟨T104, h104, X104, e104, W104, st104⟩ := stB X0 hx hZ e0 Ar104 (j := (0 : Int32)) (inb_of S104 ⟨by decide, by decide⟩) (g := (mkF m 31 #[.val (.ref b), .val (.int (0 : Int32)), .val (.ref d), .val (.int (0 : Int32)), .val (.int (1 : Int32)), .val (.int (0 : Int32)), .val (.int c0)] [(.int (c0.toInt8.toInt32)), (.int (0 : Int32)), (.ref d)])) rfl rfl (hb hby d_rm_c5_1_31)
    have pq105 : ∀ τ, Steps pP.tables e below (T104.setTop (mkF m 32 #[.val (.ref b), .val (.int (0 : Int32)), .val (.ref d), .val (.int (0 : Int32)), .val (.int (1 : Int32)), .val (.int (0 : Int32)), .val (.int c0)] [])) τ → Steps pP.tables e below A0 τ := by
      intro τ κ
      refine pq102 τ ?_
      refine XS.icmpYes X0.here hx rfl (pc0 := 20) (pc' := 26) rfl (hb hby d_rm_c5_1_20) rfl (flt hc20_103).2.2.2 (by decide) (by decide) ?_
      refine XS.aloadN X0.here hx rfl (hb hby d_rm_c5_1_26) rfl rfl ?_
      refine XS.iloadN X0.here hx rfl (hb hby d_rm_c5_1_27) rfl ?_
      refine XS.iload X0.here hx rfl (hb hby d_rm_c5_1_28) rfl ?_
      refine XS.i2b X0.here hx rfl (hb hby d_rm_c5_1_30) rfl ?_
      refine st104 _ ?_
      exact κ
    have KC104 : Keep h0 h104 [d] := KC0.wr W104 (Or.inl (List.mem_of_getElem? (i := 0) rfl))
    have V104 : Arv Z h104 d kd .byte (1 : Int32) [(.int (c0.toInt8.toInt32).toInt8.toInt32)] (.int (0 : Int32)) := Arv.set Ar104 q104 S104 M104 Hs104 G104 (fits_nar_byte _) W104 0 rfl (Nat.le_of_ble_eq_true rfl)
    have N104 := Fr.snoc X104 N0 gd
    refine absurd (fun c hc => ?_) hbad
    simp only [List.mem_cons, List.not_mem_nil, or_false] at hc
    rcases hc with hc
    · rw [hc]; exact hc20_103
def Q_tb (Z : State) (cs : List Int32) (h0 : Heap) (n0 : Nat) (v : Option Value) (h : Heap) (L : List Loc) : Prop := ∃ (u : Addr) (ku : ClassId) (vs : List Value), v = some (.ref u) ∧ Fr n0 L ∧ Keep h0 h [] ∧ h0.size ≤ u ∧ Arv Z h u ku .byte (Int32.ofNat (2 * (cs).length)) vs (.int 0) ∧ own_u16 vs cs
theorem d_rm_tb_1_0 : decode jdk_52_method_14_code 0 = .ok (.iload_n 2, 1) := by decide +kernel
theorem d_rm_tb_1_1 : decode jdk_52_method_14_code 1 = .ok (.invokestatic 107, 3) := by decide +kernel
theorem d_rm_tb_1_4 : decode jdk_52_method_14_code 4 = .ok (.astore_n 3, 1) := by decide +kernel
theorem d_rm_tb_1_5 : decode jdk_52_method_14_code 5 = .ok (.iconst 0, 1) := by decide +kernel
theorem d_rm_tb_1_6 : decode jdk_52_method_14_code 6 = .ok (.istore 4, 2) := by decide +kernel
theorem d_rm_tb_1_8 : decode jdk_52_method_14_code 8 = .ok (.iload 4, 2) := by decide +kernel
theorem d_rm_tb_1_10 : decode jdk_52_method_14_code 10 = .ok (.iload_n 2, 1) := by decide +kernel
theorem d_rm_tb_1_11 : decode jdk_52_method_14_code 11 = .ok (.if_icmp .ge 21, 3) := by decide +kernel
theorem d_rm_tb_1_14 : decode jdk_52_method_14_code 14 = .ok (.aload_n 3, 1) := by decide +kernel
theorem d_rm_tb_1_15 : decode jdk_52_method_14_code 15 = .ok (.iload 4, 2) := by decide +kernel
theorem d_rm_tb_1_17 : decode jdk_52_method_14_code 17 = .ok (.aload_n 0, 1) := by decide +kernel
theorem d_rm_tb_1_18 : decode jdk_52_method_14_code 18 = .ok (.iload_n 1, 1) := by decide +kernel
theorem d_rm_tb_1_19 : decode jdk_52_method_14_code 19 = .ok (.caload, 1) := by decide +kernel
theorem d_rm_tb_1_20 : decode jdk_52_method_14_code 20 = .ok (.invokestatic 111, 3) := by decide +kernel
theorem d_rm_tb_1_23 : decode jdk_52_method_14_code 23 = .ok (.iinc 1 1, 3) := by decide +kernel
theorem d_rm_tb_1_26 : decode jdk_52_method_14_code 26 = .ok (.iinc 4 1, 3) := by decide +kernel
theorem d_rm_tb_1_29 : decode jdk_52_method_14_code 29 = .ok (.goto (-21), 3) := by decide +kernel
theorem d_rm_tb_1_32 : decode jdk_52_method_14_code 32 = .ok (.aload_n 3, 1) := by decide +kernel
theorem d_rm_tb_1_33 : decode jdk_52_method_14_code 33 = .ok (.areturn, 1) := by decide +kernel
theorem ef_rm_tb_1 (m : MethodId) (x0 : Addr) (x1 : Int32) (x2 : Int32) : entryFrame m #[(.ref x0), (.int x1), (.int x2)] 5 = mkF m 0 #[.val (.ref x0), .val (.int x1), .val (.int x2), .unset, .unset] [] := by first | (simp [entryFrame, mkF, argsToLocals, Value.category]; done) | rfl
set_option maxRecDepth 65536 in
set_option maxHeartbeats 3000000 in
theorem rm_tb_1 (l : Launch) (Z : State) (a0 : Array Value) (hw : ∀ d ∈ tables_1, d.before a0 Z = true) (ws : List Jvm.Cond) (b : Addr) (kc : ClassId) (c0 : Int32) (h0 : Heap) (n0 : Nat) (Z0 : n0 ≤ h0.size) (OA : Sta Z Z.heap "java/lang/StringUTF16" "$assertionsDisabled" "Z" (.int 1)) (OH : Sta Z Z.heap "java/lang/StringUTF16" "HI_BYTE_SHIFT" "I" (.int 0)) (OL : Sta Z Z.heap "java/lang/StringUTF16" "LO_BYTE_SHIFT" "I" (.int 8)) (X00 : Old Z n0 h0) (V_b : Arv Z h0 b kc .char (1 : Int32) [(.int c0)] (.int (0 : Int32))) :
    MetFree l (⟨"java/lang/StringUTF16", "toBytes", "([CII)[B"⟩ : MethodName) (head1 (Jvm.Cond.code (⟨"java/lang/StringUTF16", "toBytes", "([CII)[B"⟩ : MethodName) jdk_52_method_14_code 5 (some (.array .byte)) :: ws) ({ frames := 2, cells := 1, slots := 6, locals := 24 } : Room)) (fun αs U => αs = #[(.ref b), (.int (0 : Int32)), (.int (1 : Int32))] ∧ Z.Warmed39 U.vm ∧ U.heap = h0) (fun _ _ _ _ _ => True) (fun _ U o U' => ∃ v L, o = .returned v ∧ Q_tb Z ([c0] : List Int32) h0 n0 v U'.heap L ∧ FrameEnd U o U' L ({ frames := 2, cells := 1, slots := 6, locals := 24 } : Room).cells ({ frames := 2, cells := 1, slots := 6, locals := 24 } : Room).slots) := by
  refine MetFree.of_bodySF (plainFor_of_name pno_5) hisR ?_
  intro pP e s m args below meth cC s₁ Bd hml0 hP hK
  obtain ⟨rfl, hZ, hh⟩ := hP
  have hx := Bd.exec
  have hby := Bd.bytes
  have hml : cC.maxLocals = 5 := hml0
  have hown : s.vm.findClass "java/lang/StringUTF16" = some m.cls := findClass_of_methodNamed Bd.named
  have hnm := (name_of_methodNamed Bd.named Bd.method).1
  have X0 : Stand pP l e ({ frames := 2, cells := 1, slots := 6, locals := 24 } : Room) s m #[(.ref b), (.int (0 : Int32)), (.int (1 : Int32))] below meth cC s₁ [] 0 0 := Stand.of_body Bd
  have e0 : s₁.heap = h0 := by rw [← hh, Bd.state]; rfl
  have N0 := Fr.nil n0
  have KC0 : Keep h0 h0 [] := Keep.refl h0 _
  obtain ⟨A0, hA0⟩ : ∃ z, z = s₁.setTop (entryFrame m #[(.ref b), (.int (0 : Int32)), (.int (1 : Int32))] 5) := ⟨_, rfl⟩
  have pre0 : ∀ τ, Steps pP.tables e below (s₁.setTop (mkF m 0 #[.val (.ref b), .val (.int (0 : Int32)), .val (.int (1 : Int32)), .unset, .unset] [])) τ → Steps pP.tables e below A0 τ := fun τ κ => by rw [hA0]; exact castTop (ef_rm_tb_1 m b (0 : Int32) (1 : Int32)) κ
  obtain ⟨_, _, ⟨T101, L101, k101, n101⟩, -, X101, ⟨Lc101, hQ101, l101, y101, z101⟩, st101⟩ := Jvm.LawKit.callS X0 hx (y := (⟨"java/lang/StringUTF16", "newBytesFor", "(I)[B"⟩ : MethodName)) hown (mvT hZ (hw _ (List.mem_of_getElem? (i := 60) rfl))) (mvT hZ (hw _ (List.mem_of_getElem? (i := 61) rfl))) (mvT hZ (hw _ (List.mem_of_getElem? (i := 49) rfl))) (mvT hZ (hw _ (List.mem_of_getElem? (i := 62) rfl))) (by decide) (backOf (W := 0) (rm_nbf l Z a0 hw [] 1 h0 n0 Z0 (by decide)) hZ (hw _ (List.mem_of_getElem? (i := 62) rfl)) (hw _ (List.mem_of_getElem? (i := 49) rfl)) (by decide) (by decide)) (g := (mkF m 1 #[.val (.ref b), .val (.int (0 : Int32)), .val (.int (1 : Int32)), .unset, .unset] [(.int (1 : Int32))])) rfl (by rw [hml]; rfl) (argsL := [(.int (1 : Int32))]) (rest := []) (lenOf pdo_11 rfl) rfl (by show 2 * 0 + _ ≤ _; exact Nat.le_of_eq rfl) (hb hby d_rm_tb_1_1) (fun _ _ => ⟨rfl, e0, (by decide : 0 + 1 ≤ _), (by decide : 0 + 6 ≤ _)⟩)
  dsimp only [Pt.U, Pt.locs, Pt.cells, Pt.slots] at X101 l101 y101 z101 st101 hQ101
  subst l101 y101 z101
  obtain ⟨b101, kb101, rfl, Nq101, K101, lb101, V101a⟩ := hQ101
  have N101 := Fr.app N0 Nq101
  have pq102 : ∀ τ, Steps pP.tables e below (T101.setTop (mkF m 4 #[.val (.ref b), .val (.int (0 : Int32)), .val (.int (1 : Int32)), .unset, .unset] [(.ref b101)])) τ → Steps pP.tables e below A0 τ := by
    intro τ κ
    refine pre0 τ ?_
    refine XS.iloadN X0.here hx rfl (hb hby d_rm_tb_1_0) rfl ?_
    refine st101 _ ?_
    exact κ
  have KC101 : Keep h0 T101.heap [] := KC0.trans K101 all0
  have V101 : Arv Z T101.heap b101 kb101 .byte (Int32.ofNat (2 * 1)) ([] ++ List.replicate 6 (Value.int 0)) (.int 0) := V101a.pad (pad_rep _ _ 6)
  have f103 := (V_b.keep K101 nin0)
  obtain ⟨cl104, Ar104, q104, S104, M104, Hs104, G104⟩ := id f103
  have hin104 := inb_of (j := (0 : Int32)) S104 ⟨by decide, by decide⟩
  have f105 := (X00.keep K101 all0)
  have f106 := (Nat.le_trans Z0 K101.1)
  obtain ⟨_, _, ⟨T107, L107, k107, n107⟩, -, X107, ⟨Lc107, hQ107, l107, y107, z107⟩, st107⟩ := Jvm.LawKit.callS X101 hx (y := (⟨"java/lang/StringUTF16", "putChar", "([BII)V"⟩ : MethodName)) hown (mvT hZ (hw _ (List.mem_of_getElem? (i := 67) rfl))) (mvT hZ (hw _ (List.mem_of_getElem? (i := 68) rfl))) (mvT hZ (hw _ (List.mem_of_getElem? (i := 49) rfl))) (mvT hZ (hw _ (List.mem_of_getElem? (i := 69) rfl))) (by decide) (backOf (W := 0) (rm_upc l Z a0 hw [] b101 kb101 1 0 ([] ++ List.replicate 6 (Value.int 0)) c0 T101.heap n0 f106 OA OH OL f105 V101 (Nat.le_trans Z0 lb101) (by decide) (by decide) (by simp)) hZ (hw _ (List.mem_of_getElem? (i := 69) rfl)) (hw _ (List.mem_of_getElem? (i := 49) rfl)) (by decide) (by decide)) (g := (mkF m 20 #[.val (.ref b), .val (.int (0 : Int32)), .val (.int (1 : Int32)), .val (.ref b101), .val (.int (0 : Int32))] [(.int c0), (.int (0 : Int32)), (.ref b101)])) rfl (by rw [hml]; rfl) (argsL := [(.ref b101), (.int (0 : Int32)), (.int c0)]) (rest := []) (lenOf pdo_12 rfl) rfl (by show 2 * 0 + _ ≤ _; exact Nat.le_of_eq rfl) (hb hby d_rm_tb_1_20) (fun _ _ => ⟨rfl, rfl, (by decide : 1 + 0 ≤ _), (by decide : 6 + 0 ≤ _)⟩)
  dsimp only [Pt.U, Pt.locs, Pt.cells, Pt.slots] at X107 l107 y107 z107 st107 hQ107
  subst l107 y107 z107
  obtain ⟨rfl, Nq107, K107, V107⟩ := hQ107
  have N107 := Fr.app N101 Nq107
  have pq108 : ∀ τ, Steps pP.tables e below (T107.setTop (mkF m 23 #[.val (.ref b), .val (.int (0 : Int32)), .val (.int (1 : Int32)), .val (.ref b101), .val (.int (0 : Int32))] [])) τ → Steps pP.tables e below A0 τ := by
    intro τ κ
    refine pq102 τ ?_
    refine XS.astoreN X101.here hx rfl (hb hby d_rm_tb_1_4) rfl rfl (l' := #[.val (.ref b), .val (.int (0 : Int32)), .val (.int (1 : Int32)), .val (.ref b101), .unset]) rfl ?_
    refine XS.iconst X101.here hx rfl (hb hby d_rm_tb_1_5) ?_
    refine XS.istore X101.here hx rfl (hb hby d_rm_tb_1_6) rfl (l' := #[.val (.ref b), .val (.int (0 : Int32)), .val (.int (1 : Int32)), .val (.ref b101), .val (.int (0 : Int32))]) rfl ?_
    refine XS.iload X101.here hx rfl (hb hby d_rm_tb_1_8) rfl ?_
    refine XS.iloadN X101.here hx rfl (hb hby d_rm_tb_1_10) rfl ?_
    refine XS.icmpNo X101.here hx rfl (hb hby d_rm_tb_1_11) rfl (tlt (by decide : ((0 : Int32) < (1 : Int32)))).2.1 ?_
    refine XS.aloadN X101.here hx rfl (hb hby d_rm_tb_1_14) rfl rfl ?_
    refine XS.iload X101.here hx rfl (hb hby d_rm_tb_1_15) rfl ?_
    refine XS.aloadN X101.here hx rfl (hb hby d_rm_tb_1_17) rfl rfl ?_
    refine XS.iloadN X101.here hx rfl (hb hby d_rm_tb_1_18) rfl ?_
    refine X101.caload hx (j := (0 : Int32)) (v := (.int c0)) Ar104.1 (State.isArrayOf_alike hZ.alike Ar104.2.1) Ar104.2.2 hin104 (Has.at Hs104 hin104 rfl) (g := (mkF m 19 #[.val (.ref b), .val (.int (0 : Int32)), .val (.int (1 : Int32)), .val (.ref b101), .val (.int (0 : Int32))] [(.int (0 : Int32)), (.ref b), (.int (0 : Int32)), (.ref b101)])) rfl rfl (hb hby d_rm_tb_1_19) _ ?_
    refine st107 _ ?_
    exact κ
  have KC107 : Keep h0 T107.heap [] := KC101.trans K107 (allS (Or.inr (Nat.le_trans (Nat.le_refl _) lb101)) all0)
  have hu109 : own_u16 ((([] ++ List.replicate 6 (Value.int 0)).set (2 * 0) (.int (own_b c0 0))).set (2 * 0 + 1) (.int (own_b c0 8))) ([c0] : List Int32) := by
    intro i hi
    have hi3 : i = 0 := by have q : i < 1 := hi; omega
    rcases hi3 with rfl <;> exact ⟨rfl, rfl⟩
  obtain ⟨fs, hr, hrun, hended, hW, hsame⟩ := X107.leave (v := some (.ref b101)) (fun h => by rw [Bd.returns] at h; cases h)
  have pqE := pq108
  rw [hA0] at pqE
  refine ⟨_, _, pqE _ ?_, hrun, hended, _, _, rfl, ?_, ⟨_, rfl⟩, hW, hsame.mono (by decide) (by decide)⟩
  · refine XS.iinc X107.here hx rfl (hb hby d_rm_tb_1_23) rfl (l' := #[.val (.ref b), .val (.int (1 : Int32)), .val (.int (1 : Int32)), .val (.ref b101), .val (.int (0 : Int32))]) rfl ?_
    refine XS.iinc X107.here hx rfl (hb hby d_rm_tb_1_26) rfl (l' := #[.val (.ref b), .val (.int (1 : Int32)), .val (.int (1 : Int32)), .val (.ref b101), .val (.int (1 : Int32))]) rfl ?_
    refine XS.goto X107.here hx rfl (pc0 := 29) (pc' := 8) rfl (hb hby d_rm_tb_1_29) (by decide) (by decide) ?_
    refine XS.iload X107.here hx rfl (hb hby d_rm_tb_1_8) rfl ?_
    refine XS.iloadN X107.here hx rfl (hb hby d_rm_tb_1_10) rfl ?_
    refine XS.icmpYes X107.here hx rfl (pc0 := 11) (pc' := 32) rfl (hb hby d_rm_tb_1_11) rfl (flt (by decide : ¬ ((1 : Int32) < (1 : Int32)))).2.1 (by decide) (by decide) ?_
    refine XS.aloadN X107.here hx rfl (hb hby d_rm_tb_1_32) rfl rfl ?_
    show Steps pP.tables e below (T107.setTop (mkF m 33 #[.val (.ref b), .val (.int (1 : Int32)), .val (.int (1 : Int32)), .val (.ref b101), .val (.int (1 : Int32))] [(.ref b101)])) _
    exact retOut X107 hx Bd.returns rfl (Or.inr (Or.inr (Or.inr (Or.inr ⟨rfl, rfl, rfl⟩)))) (hb hby d_rm_tb_1_33) hr
  · show Q_tb Z ([c0] : List Int32) h0 n0 _ T107.heap _
    exact ⟨b101, _, _, rfl, N107, KC107, (Nat.le_trans (Nat.le_refl _) lb101), V107, hu109⟩
theorem d_rm_c3_1_0 : decode jdk_52_method_16_code 0 = .ok (.iload_n 2, 1) := by decide +kernel
theorem d_rm_c3_1_1 : decode jdk_52_method_16_code 1 = .ok (.newarray .byte, 2) := by decide +kernel
theorem d_rm_c3_1_3 : decode jdk_52_method_16_code 3 = .ok (.astore_n 3, 1) := by decide +kernel
theorem d_rm_c3_1_4 : decode jdk_52_method_16_code 4 = .ok (.aload_n 0, 1) := by decide +kernel
theorem d_rm_c3_1_5 : decode jdk_52_method_16_code 5 = .ok (.iload_n 1, 1) := by decide +kernel
theorem d_rm_c3_1_6 : decode jdk_52_method_16_code 6 = .ok (.aload_n 3, 1) := by decide +kernel
theorem d_rm_c3_1_7 : decode jdk_52_method_16_code 7 = .ok (.iconst 0, 1) := by decide +kernel
theorem d_rm_c3_1_8 : decode jdk_52_method_16_code 8 = .ok (.iload_n 2, 1) := by decide +kernel
theorem d_rm_c3_1_9 : decode jdk_52_method_16_code 9 = .ok (.invokestatic 115, 3) := by decide +kernel
theorem d_rm_c3_1_12 : decode jdk_52_method_16_code 12 = .ok (.istore 4, 2) := by decide +kernel
theorem d_rm_c3_1_14 : decode jdk_52_method_16_code 14 = .ok (.iload 4, 2) := by decide +kernel
theorem d_rm_c3_1_16 : decode jdk_52_method_16_code 16 = .ok (.iload_n 2, 1) := by decide +kernel
theorem d_rm_c3_1_17 : decode jdk_52_method_16_code 17 = .ok (.if_icmp .eq 40, 3) := by decide +kernel
theorem d_rm_c3_1_20 : decode jdk_52_method_16_code 20 = .ok (.aload_n 0, 1) := by decide +kernel
theorem d_rm_c3_1_21 : decode jdk_52_method_16_code 21 = .ok (.iload_n 1, 1) := by decide +kernel
theorem d_rm_c3_1_22 : decode jdk_52_method_16_code 22 = .ok (.iload_n 2, 1) := by decide +kernel
theorem d_rm_c3_1_23 : decode jdk_52_method_16_code 23 = .ok (.invokestatic 119, 3) := by decide +kernel
theorem d_rm_c3_1_26 : decode jdk_52_method_16_code 26 = .ok (.astore 5, 2) := by decide +kernel
theorem d_rm_c3_1_28 : decode jdk_52_method_16_code 28 = .ok (.aload 5, 2) := by decide +kernel
theorem d_rm_c3_1_30 : decode jdk_52_method_16_code 30 = .ok (.iload 4, 2) := by decide +kernel
theorem d_rm_c3_1_32 : decode jdk_52_method_16_code 32 = .ok (.invokestatic 71, 3) := by decide +kernel
theorem d_rm_c3_1_35 : decode jdk_52_method_16_code 35 = .ok (.sipush 255, 3) := by decide +kernel
theorem d_rm_c3_1_38 : decode jdk_52_method_16_code 38 = .ok (.if_icmp .gt 16, 3) := by decide +kernel
theorem d_rm_c3_1_54 : decode jdk_52_method_16_code 54 = .ok (.aload 5, 2) := by decide +kernel
theorem d_rm_c3_1_56 : decode jdk_52_method_16_code 56 = .ok (.areturn, 1) := by decide +kernel
theorem ef_rm_c3_1 (m : MethodId) (x0 : Addr) (x1 : Int32) (x2 : Int32) : entryFrame m #[(.ref x0), (.int x1), (.int x2)] 6 = mkF m 0 #[.val (.ref x0), .val (.int x1), .val (.int x2), .unset, .unset, .unset] [] := by first | (simp [entryFrame, mkF, argsToLocals, Value.category]; done) | rfl
set_option maxRecDepth 65536 in
set_option maxHeartbeats 3000000 in
theorem rm_c3_1 (l : Launch) (Z : State) (a0 : Array Value) (hw : ∀ d ∈ tables_1, d.before a0 Z = true) (ws : List Jvm.Cond) (b : Addr) (kc : ClassId) (c0 : Int32) (h0 : Heap) (n0 : Nat) (Z0 : n0 ≤ h0.size) (OA : Sta Z Z.heap "java/lang/StringUTF16" "$assertionsDisabled" "Z" (.int 1)) (OH : Sta Z Z.heap "java/lang/StringUTF16" "HI_BYTE_SHIFT" "I" (.int 0)) (OL : Sta Z Z.heap "java/lang/StringUTF16" "LO_BYTE_SHIFT" "I" (.int 8)) (X00 : Old Z n0 h0) (V_b : Arv Z h0 b kc .char (1 : Int32) [(.int c0)] (.int (0 : Int32))) (hbad : ¬ ∀ c ∈ ([c0] : List Int32), ¬ (255 : Int32) < c) (hB : ∀ c ∈ ([c0] : List Int32), ¬ c < 0 ∧ ¬ (65535 : Int32) < c) :
    MetFree l (⟨"java/lang/StringUTF16", "compress", "([CII)[B"⟩ : MethodName) (head1 (Jvm.Cond.code (⟨"java/lang/StringUTF16", "compress", "([CII)[B"⟩ : MethodName) jdk_52_method_16_code 6 (some (.array .byte)) :: ws) ({ frames := 3, cells := 2, slots := 7, locals := 40 } : Room)) (fun αs U => αs = #[(.ref b), (.int (0 : Int32)), (.int (1 : Int32))] ∧ Z.Warmed39 U.vm ∧ U.heap = h0) (fun _ _ _ _ _ => True) (fun _ U o U' => ∃ v L, o = .returned v ∧ Q_tb Z ([c0] : List Int32) h0 n0 v U'.heap L ∧ FrameEnd U o U' L ({ frames := 3, cells := 2, slots := 7, locals := 40 } : Room).cells ({ frames := 3, cells := 2, slots := 7, locals := 40 } : Room).slots) := by
  refine MetFree.of_bodySF (plainFor_of_name pno_5) hisR ?_
  intro pP e s m args below meth cC s₁ Bd hml0 hP hK
  obtain ⟨rfl, hZ, hh⟩ := hP
  have hx := Bd.exec
  have hby := Bd.bytes
  have hml : cC.maxLocals = 6 := hml0
  have hown : s.vm.findClass "java/lang/StringUTF16" = some m.cls := findClass_of_methodNamed Bd.named
  have hnm := (name_of_methodNamed Bd.named Bd.method).1
  have X0 : Stand pP l e ({ frames := 3, cells := 2, slots := 7, locals := 40 } : Room) s m #[(.ref b), (.int (0 : Int32)), (.int (1 : Int32))] below meth cC s₁ [] 0 0 := Stand.of_body Bd
  have e0 : s₁.heap = h0 := by rw [← hh, Bd.state]; rfl
  have N0 := Fr.nil n0
  have KC0 : Keep h0 h0 [] := Keep.refl h0 _
  obtain ⟨A0, hA0⟩ : ∃ z, z = s₁.setTop (entryFrame m #[(.ref b), (.int (0 : Int32)), (.int (1 : Int32))] 6) := ⟨_, rfl⟩
  have pre0 : ∀ τ, Steps pP.tables e below (s₁.setTop (mkF m 0 #[.val (.ref b), .val (.int (0 : Int32)), .val (.int (1 : Int32)), .unset, .unset, .unset] [])) τ → Steps pP.tables e below A0 τ := fun τ κ => by rw [hA0]; exact castTop (ef_rm_c3_1 m b (0 : Int32) (1 : Int32)) κ
  obtain ⟨T101, h101, k101, X101, e101, E101, A101, st101⟩ := newP X0 hx hZ (hw _ (List.mem_of_getElem? (i := 25) rfl)) e0 (g := (mkF m 1 #[.val (.ref b), .val (.int (0 : Int32)), .val (.int (1 : Int32)), .unset, .unset, .unset] [(.int (1 : Int32))])) rfl (hb hby d_rm_c3_1_1) rfl (by decide) (cap := 1) (by decide) (by decide) (by decide) (by decide)
  obtain ⟨b101, g101⟩ : ∃ z, z = h0.size := ⟨_, rfl⟩
  rw [← g101] at A101 st101
  have pq102 : ∀ τ, Steps pP.tables e below (T101.setTop (mkF m 3 #[.val (.ref b), .val (.int (0 : Int32)), .val (.int (1 : Int32)), .unset, .unset, .unset] [(.ref b101)])) τ → Steps pP.tables e below A0 τ := by
    intro τ κ
    refine pre0 τ ?_
    refine XS.iloadN X0.here hx rfl (hb hby d_rm_c3_1_0) rfl ?_
    refine st101 _ ?_
    exact κ
  have KC101 : Keep h0 h101 [] := KC0.ext E101
  have V101 : Arv Z h101 b101 k101 .byte (1 : Int32) [(.int (0 : Int32))] (.int (0 : Int32)) := (Arv.new A101 (by decide)).pad (pad_rep [] (.int (0 : Int32)) 1)
  have f103 := (V_b.ext E101)
  have f104 := (Nat.le_trans Z0 E101.1)
  obtain ⟨_, _, ⟨T105, L105, k105, n105⟩, -, X105, ⟨Lc105, hQ105, l105, y105, z105⟩, st105⟩ := Jvm.LawKit.callS X101 hx (y := (⟨"java/lang/StringUTF16", "compress", "([CI[BII)I"⟩ : MethodName)) hown (mvT hZ (hw _ (List.mem_of_getElem? (i := 51) rfl))) (mvT hZ (hw _ (List.mem_of_getElem? (i := 52) rfl))) (mvT hZ (hw _ (List.mem_of_getElem? (i := 49) rfl))) (mvT hZ (hw _ (List.mem_of_getElem? (i := 53) rfl))) (by decide) (backOf (W := 0) (rm_c5_1 l Z a0 hw [] b b101 kc k101 c0 h101 n0 f104 f103 V101 (Nat.le_trans Z0 (Nat.le_of_eq g101.symm)) (Nat.ne_of_lt (Nat.lt_of_lt_of_le V_b.lt (Nat.le_of_eq g101.symm))) hbad) hZ (hw _ (List.mem_of_getElem? (i := 53) rfl)) (hw _ (List.mem_of_getElem? (i := 49) rfl)) (by decide) (by decide)) (g := (mkF m 9 #[.val (.ref b), .val (.int (0 : Int32)), .val (.int (1 : Int32)), .val (.ref b101), .unset, .unset] [(.int (1 : Int32)), (.int (0 : Int32)), (.ref b101), (.int (0 : Int32)), (.ref b)])) rfl (by rw [hml]; rfl) (argsL := [(.ref b), (.int (0 : Int32)), (.ref b101), (.int (0 : Int32)), (.int (1 : Int32))]) (rest := []) (lenOf pdo_13 rfl) rfl (by show 2 * 0 + _ ≤ _; exact Nat.le_of_eq rfl) (hb hby d_rm_c3_1_9) (fun _ _ => ⟨rfl, e101, (by decide : 1 + 0 ≤ _), (by decide : 1 + 0 ≤ _)⟩)
  dsimp only [Pt.U, Pt.locs, Pt.cells, Pt.slots] at X105 l105 y105 z105 st105 hQ105
  subst l105 y105 z105
  obtain ⟨j105, rfl, hj105, gj105, Nq105, K105⟩ := hQ105
  have N105 := Fr.app N0 Nq105
  have pq106 : ∀ τ, Steps pP.tables e below (T105.setTop (mkF m 12 #[.val (.ref b), .val (.int (0 : Int32)), .val (.int (1 : Int32)), .val (.ref b101), .unset, .unset] [(.int (Int32.ofNat j105))])) τ → Steps pP.tables e below A0 τ := by
    intro τ κ
    refine pq102 τ ?_
    refine XS.astoreN X101.here hx rfl (hb hby d_rm_c3_1_3) rfl rfl (l' := #[.val (.ref b), .val (.int (0 : Int32)), .val (.int (1 : Int32)), .val (.ref b101), .unset, .unset]) rfl ?_
    refine XS.aloadN X101.here hx rfl (hb hby d_rm_c3_1_4) rfl rfl ?_
    refine XS.iloadN X101.here hx rfl (hb hby d_rm_c3_1_5) rfl ?_
    refine XS.aloadN X101.here hx rfl (hb hby d_rm_c3_1_6) rfl rfl ?_
    refine XS.iconst X101.here hx rfl (hb hby d_rm_c3_1_7) ?_
    refine XS.iloadN X101.here hx rfl (hb hby d_rm_c3_1_8) rfl ?_
    refine st105 _ ?_
    exact κ
  have KC105 : Keep h0 T105.heap [] := KC101.trans K105 (allS (Or.inr (Nat.le_trans (Nat.le_refl _) (Nat.le_of_eq g101.symm))) all0)
  have f107 := ((X00.ext E101).keep K105 (allS (Nat.le_trans Z0 (Nat.le_of_eq g101.symm)) all0))
  have f108 := (f103.keep K105 (ninS (Nat.ne_of_lt (Nat.lt_of_lt_of_le V_b.lt (Nat.le_of_eq g101.symm))) nin0))
  have f109 := (Nat.le_trans f104 K105.1)
  obtain ⟨_, _, ⟨T110, L110, k110, n110⟩, -, X110, ⟨Lc110, hQ110, l110, y110, z110⟩, st110⟩ := Jvm.LawKit.callS X105 hx (y := (⟨"java/lang/StringUTF16", "toBytes", "([CII)[B"⟩ : MethodName)) hown (mvT hZ (hw _ (List.mem_of_getElem? (i := 57) rfl))) (mvT hZ (hw _ (List.mem_of_getElem? (i := 58) rfl))) (mvT hZ (hw _ (List.mem_of_getElem? (i := 49) rfl))) (mvT hZ (hw _ (List.mem_of_getElem? (i := 59) rfl))) (by decide) (backOf (W := 0) (rm_tb_1 l Z a0 hw [] b kc c0 T105.heap n0 f109 OA OH OL f107 f108) hZ (hw _ (List.mem_of_getElem? (i := 59) rfl)) (hw _ (List.mem_of_getElem? (i := 49) rfl)) (by decide) (by decide)) (g := (mkF m 23 #[.val (.ref b), .val (.int (0 : Int32)), .val (.int (1 : Int32)), .val (.ref b101), .val (.int (Int32.ofNat j105)), .unset] [(.int (1 : Int32)), (.int (0 : Int32)), (.ref b)])) rfl (by rw [hml]; rfl) (argsL := [(.ref b), (.int (0 : Int32)), (.int (1 : Int32))]) (rest := []) (lenOf pdo_14 rfl) rfl (by show 2 * 0 + _ ≤ _; exact Nat.le_of_eq rfl) (hb hby d_rm_c3_1_23) (fun _ _ => ⟨rfl, rfl, (by decide : 1 + 1 ≤ _), (by decide : 1 + 6 ≤ _)⟩)
  dsimp only [Pt.U, Pt.locs, Pt.cells, Pt.slots] at X110 l110 y110 z110 st110 hQ110
  subst l110 y110 z110
  obtain ⟨u110, ku110, vs110, rfl, Nq110, K110, lb110, V110, hu110⟩ := hQ110
  have N110 := Fr.app N105 Nq110
  have pq111 : ∀ τ, Steps pP.tables e below (T110.setTop (mkF m 26 #[.val (.ref b), .val (.int (0 : Int32)), .val (.int (1 : Int32)), .val (.ref b101), .val (.int (Int32.ofNat j105)), .unset] [(.ref u110)])) τ → Steps pP.tables e below A0 τ := by
    intro τ κ
    refine pq106 τ ?_
    refine XS.istore X105.here hx rfl (hb hby d_rm_c3_1_12) rfl (l' := #[.val (.ref b), .val (.int (0 : Int32)), .val (.int (1 : Int32)), .val (.ref b101), .val (.int (Int32.ofNat j105)), .unset]) rfl ?_
    refine XS.iload X105.here hx rfl (hb hby d_rm_c3_1_14) rfl ?_
    refine XS.iloadN X105.here hx rfl (hb hby d_rm_c3_1_16) rfl ?_
    refine XS.icmpNo X105.here hx rfl (hb hby d_rm_c3_1_17) rfl (feq (own_nej (n := 1) hj105 (by decide))).1 ?_
    refine XS.aloadN X105.here hx rfl (hb hby d_rm_c3_1_20) rfl rfl ?_
    refine XS.iloadN X105.here hx rfl (hb hby d_rm_c3_1_21) rfl ?_
    refine XS.iloadN X105.here hx rfl (hb hby d_rm_c3_1_22) rfl ?_
    refine st110 _ ?_
    exact κ
  have KC110 : Keep h0 T110.heap [] := KC105.trans K110 all0
  have f112 := (f107.keep K110 all0)
  have f113 := (Nat.le_trans f109 K110.1)
  obtain ⟨_, _, ⟨T114, L114, k114, n114⟩, -, X114, ⟨Lc114, hQ114, l114, y114, z114⟩, st114⟩ := Jvm.LawKit.callS X110 hx (y := (⟨"java/lang/StringUTF16", "getChar", "([BI)C"⟩ : MethodName)) hown (mvT hZ (hw _ (List.mem_of_getElem? (i := 73) rfl))) (mvT hZ (hw _ (List.mem_of_getElem? (i := 74) rfl))) (mvT hZ (hw _ (List.mem_of_getElem? (i := 49) rfl))) (mvT hZ (hw _ (List.mem_of_getElem? (i := 75) rfl))) (by decide) (backOf (W := 0) (rm_uget l Z a0 hw [] u110 ku110 ([c0] : List Int32) vs110 j105 T110.heap n0 f113 OA OH OL f112 V110 hu110 hB (by simp) hj105) hZ (hw _ (List.mem_of_getElem? (i := 75) rfl)) (hw _ (List.mem_of_getElem? (i := 49) rfl)) (by decide) (by decide)) (g := (mkF m 32 #[.val (.ref b), .val (.int (0 : Int32)), .val (.int (1 : Int32)), .val (.ref b101), .val (.int (Int32.ofNat j105)), .val (.ref u110)] [(.int (Int32.ofNat j105)), (.ref u110)])) rfl (by rw [hml]; rfl) (argsL := [(.ref u110), (.int (Int32.ofNat j105))]) (rest := []) (lenOf pdo_5 rfl) rfl (by show 2 * 0 + _ ≤ _; exact Nat.le_of_eq rfl) (hb hby d_rm_c3_1_32) (fun _ _ => ⟨rfl, rfl, (by decide : 2 + 0 ≤ _), (by decide : 7 + 0 ≤ _)⟩)
  dsimp only [Pt.U, Pt.locs, Pt.cells, Pt.slots] at X114 l114 y114 z114 st114 hQ114
  subst l114 y114 z114
  obtain ⟨rfl, Nq114, eq114⟩ := hQ114
  have N114 := Fr.app N110 Nq114
  have pq115 : ∀ τ, Steps pP.tables e below (T114.setTop (mkF m 35 #[.val (.ref b), .val (.int (0 : Int32)), .val (.int (1 : Int32)), .val (.ref b101), .val (.int (Int32.ofNat j105)), .val (.ref u110)] [(.int (([c0] : List Int32).getD j105 0))])) τ → Steps pP.tables e below A0 τ := by
    intro τ κ
    refine pq111 τ ?_
    refine XS.astore X110.here hx rfl (hb hby d_rm_c3_1_26) rfl rfl (l' := #[.val (.ref b), .val (.int (0 : Int32)), .val (.int (1 : Int32)), .val (.ref b101), .val (.int (Int32.ofNat j105)), .val (.ref u110)]) rfl ?_
    refine XS.aload X110.here hx rfl (hb hby d_rm_c3_1_28) rfl rfl ?_
    refine XS.iload X110.here hx rfl (hb hby d_rm_c3_1_30) rfl ?_
    refine st114 _ ?_
    exact κ
  obtain ⟨fs, hr, hrun, hended, hW, hsame⟩ := X114.leave (v := some (.ref u110)) (fun h => by rw [Bd.returns] at h; cases h)
  have pqE := pq115
  rw [hA0] at pqE
  refine ⟨_, _, pqE _ ?_, hrun, hended, _, _, rfl, ?_, ⟨_, rfl⟩, hW, hsame.mono (by decide) (by decide)⟩
  · refine XS.sipush X114.here hx rfl (hb hby d_rm_c3_1_35) ?_
    refine XS.icmpYes X114.here hx rfl (pc0 := 38) (pc' := 54) rfl (hb hby d_rm_c3_1_38) rfl (tlt gj105).2.2.1 (by decide) (by decide) ?_
    refine XS.aload X114.here hx rfl (hb hby d_rm_c3_1_54) rfl rfl ?_
    show Steps pP.tables e below (T114.setTop (mkF m 56 #[.val (.ref b), .val (.int (0 : Int32)), .val (.int (1 : Int32)), .val (.ref b101), .val (.int (Int32.ofNat j105)), .val (.ref u110)] [(.ref u110)])) _
    exact retOut X114 hx Bd.returns rfl (Or.inr (Or.inr (Or.inr (Or.inr ⟨rfl, rfl, rfl⟩)))) (hb hby d_rm_c3_1_56) hr
  · show Q_tb Z ([c0] : List Int32) h0 n0 _ T114.heap _
    rw [eq114]
    exact ⟨u110, _, _, rfl, N114, KC110, (Nat.le_trans (Nat.le_trans (Nat.le_trans (Nat.le_refl _) E101.1) K105.1) lb110), V110, hu110⟩
def Q_new (Z : State) (a : Addr) (cs : List Int32) (h0 : Heap) (n0 : Nat) (v : Option Value) (h : Heap) (L : List Loc) : Prop := v = none ∧ Fr n0 L ∧ Keep h0 h [a] ∧ UStr Z h a cs
theorem d_rm_i4_1_0 : decode jdk_42_method_149_code 0 = .ok (.aload_n 0, 1) := by decide +kernel
theorem d_rm_i4_1_1 : decode jdk_42_method_149_code 1 = .ok (.invokespecial 1, 3) := by decide +kernel
theorem d_rm_i4_1_4 : decode jdk_42_method_149_code 4 = .ok (.iload_n 3, 1) := by decide +kernel
theorem d_rm_i4_1_5 : decode jdk_42_method_149_code 5 = .ok (.ifCond .ne 22, 3) := by decide +kernel
theorem d_rm_i4_1_27 : decode jdk_42_method_149_code 27 = .ok (.getstatic 38, 3) := by decide +kernel
theorem d_rm_i4_1_30 : decode jdk_42_method_149_code 30 = .ok (.ifCond .eq 28, 3) := by decide +kernel
theorem d_rm_i4_1_33 : decode jdk_42_method_149_code 33 = .ok (.aload_n 1, 1) := by decide +kernel
theorem d_rm_i4_1_34 : decode jdk_42_method_149_code 34 = .ok (.iload_n 2, 1) := by decide +kernel
theorem d_rm_i4_1_35 : decode jdk_42_method_149_code 35 = .ok (.iload_n 3, 1) := by decide +kernel
theorem d_rm_i4_1_36 : decode jdk_42_method_149_code 36 = .ok (.invokestatic 177, 3) := by decide +kernel
theorem d_rm_i4_1_39 : decode jdk_42_method_149_code 39 = .ok (.astore 5, 2) := by decide +kernel
theorem d_rm_i4_1_41 : decode jdk_42_method_149_code 41 = .ok (.aload_n 0, 1) := by decide +kernel
theorem d_rm_i4_1_42 : decode jdk_42_method_149_code 42 = .ok (.aload 5, 2) := by decide +kernel
theorem d_rm_i4_1_44 : decode jdk_42_method_149_code 44 = .ok (.iload_n 3, 1) := by decide +kernel
theorem d_rm_i4_1_45 : decode jdk_42_method_149_code 45 = .ok (.invokestatic 47, 3) := by decide +kernel
theorem d_rm_i4_1_48 : decode jdk_42_method_149_code 48 = .ok (.putfield 15, 3) := by decide +kernel
theorem d_rm_i4_1_51 : decode jdk_42_method_149_code 51 = .ok (.aload_n 0, 1) := by decide +kernel
theorem d_rm_i4_1_52 : decode jdk_42_method_149_code 52 = .ok (.aload 5, 2) := by decide +kernel
theorem d_rm_i4_1_54 : decode jdk_42_method_149_code 54 = .ok (.putfield 9, 3) := by decide +kernel
theorem d_rm_i4_1_57 : decode jdk_42_method_149_code 57 = .ok (.return_, 1) := by decide +kernel
theorem ef_rm_i4_1 (m : MethodId) (x0 : Addr) (x1 : Addr) (x2 : Int32) (x3 : Int32) : entryFrame m #[(.ref x0), (.ref x1), (.int x2), (.int x3), .null] 6 = mkF m 0 #[.val (.ref x0), .val (.ref x1), .val (.int x2), .val (.int x3), .val .null, .unset] [] := by first | (simp [entryFrame, mkF, argsToLocals, Value.category]; done) | rfl
set_option maxRecDepth 65536 in
set_option maxHeartbeats 3000000 in
theorem rm_i4_1 (l : Launch) (Z : State) (a0 : Array Value) (hw : ∀ d ∈ tables_1, d.before a0 Z = true) (ws : List Jvm.Cond) (a b : Addr) (kc : ClassId) (c0 : Int32) (G1 : Int32) (h0 : Heap) (n0 : Nat) (Z0 : n0 ≤ h0.size) (O2 : Sta Z Z.heap "java/lang/String" "COMPACT_STRINGS" "Z" (.int G1)) (P5 : ¬ (G1 = (0 : Int32))) (X00 : Old Z n0 h0) (OA : Sta Z Z.heap "java/lang/StringUTF16" "$assertionsDisabled" "Z" (.int 1)) (OH : Sta Z Z.heap "java/lang/StringUTF16" "HI_BYTE_SHIFT" "I" (.int 0)) (OL : Sta Z Z.heap "java/lang/StringUTF16" "LO_BYTE_SHIFT" "I" (.int 8)) (E_a : Exa Z h0 a "java/lang/String") (ga : n0 ≤ a) (F_value : Fld Z h0 a "java/lang/String" "value" "[B" .null) (F_coder : Fld Z h0 a "java/lang/String" "coder" "B" (.int (0 : Int32))) (V_b : Arv Z h0 b kc .char (1 : Int32) [(.int c0)] (.int (0 : Int32))) (hbad : ¬ ∀ c ∈ ([c0] : List Int32), ¬ (255 : Int32) < c) (hB : ∀ c ∈ ([c0] : List Int32), ¬ c < 0 ∧ ¬ (65535 : Int32) < c) :
    MetFree l (⟨"java/lang/String", "<init>", "([CIILjava/lang/Void;)V"⟩ : MethodName) (head1 (Jvm.Cond.code (⟨"java/lang/String", "<init>", "([CIILjava/lang/Void;)V"⟩ : MethodName) jdk_42_method_149_code 6 none :: ws) ({ frames := 4, cells := 2, slots := 7, locals := 57 } : Room)) (fun αs U => αs = #[(.ref a), (.ref b), (.int (0 : Int32)), (.int (1 : Int32)), .null] ∧ Z.Warmed39 U.vm ∧ U.heap = h0) (fun _ _ _ _ _ => True) (fun _ U o U' => ∃ v L, o = .returned v ∧ Q_new Z a ([c0] : List Int32) h0 n0 v U'.heap L ∧ FrameEnd U o U' L ({ frames := 4, cells := 2, slots := 7, locals := 57 } : Room).cells ({ frames := 4, cells := 2, slots := 7, locals := 57 } : Room).slots) := by
  refine MetFree.of_bodySF (plainFor_of_name pno_2) hisR ?_
  intro pP e s m args below meth cC s₁ Bd hml0 hP hK
  obtain ⟨rfl, hZ, hh⟩ := hP
  have hx := Bd.exec
  have hby := Bd.bytes
  have hml : cC.maxLocals = 6 := hml0
  have hown : s.vm.findClass "java/lang/String" = some m.cls := findClass_of_methodNamed Bd.named
  have hnm := (name_of_methodNamed Bd.named Bd.method).1
  have X0 : Stand pP l e ({ frames := 4, cells := 2, slots := 7, locals := 57 } : Room) s m #[(.ref a), (.ref b), (.int (0 : Int32)), (.int (1 : Int32)), .null] below meth cC s₁ [] 0 0 := Stand.of_body Bd
  have e0 : s₁.heap = h0 := by rw [← hh, Bd.state]; rfl
  have N0 := Fr.nil n0
  have KC0 : Keep h0 h0 [a] := Keep.refl h0 _
  obtain ⟨A0, hA0⟩ : ∃ z, z = s₁.setTop (entryFrame m #[(.ref a), (.ref b), (.int (0 : Int32)), (.int (1 : Int32)), .null] 6) := ⟨_, rfl⟩
  have pre0 : ∀ τ, Steps pP.tables e below (s₁.setTop (mkF m 0 #[.val (.ref a), .val (.ref b), .val (.int (0 : Int32)), .val (.int (1 : Int32)), .val .null, .unset] [])) τ → Steps pP.tables e below A0 τ := fun τ κ => by rw [hA0]; exact castTop (ef_rm_i4_1 m a b (0 : Int32) (1 : Int32)) κ
  obtain ⟨T101, X101, e101, st101⟩ := initO X0 hx hZ hown (hw _ (List.mem_of_getElem? (i := 21) rfl)) (hw _ (List.mem_of_getElem? (i := 22) rfl)) (hw _ (List.mem_of_getElem? (i := 23) rfl)) e0 (g := (mkF m 1 #[.val (.ref a), .val (.ref b), .val (.int (0 : Int32)), .val (.int (1 : Int32)), .val .null, .unset] [(.ref a)])) rfl (by rw [hml]; rfl) rfl (hb hby d_rm_i4_1_1) (by decide) (W := 0) (by show 2 * 0 + _ ≤ _; exact Nat.le_of_eq rfl) (by decide)
  have pq102 : ∀ τ, Steps pP.tables e below (T101.setTop (mkF m 4 #[.val (.ref a), .val (.ref b), .val (.int (0 : Int32)), .val (.int (1 : Int32)), .val .null, .unset] [])) τ → Steps pP.tables e below A0 τ := by
    intro τ κ
    refine pre0 τ ?_
    refine XS.aloadN X0.here hx rfl (hb hby d_rm_i4_1_0) rfl rfl ?_
    refine st101 _ ?_
    exact κ
  obtain ⟨T103, X103, e103, st103⟩ := getS2 X101 hx hZ hown (host := "") (Or.inl (hw _ (List.mem_of_getElem? (i := 46) rfl))) Via.refl e101 (O2.ext X00.2) (g := (mkF m 27 #[.val (.ref a), .val (.ref b), .val (.int (0 : Int32)), .val (.int (1 : Int32)), .val .null, .unset] [])) rfl (hb hby d_rm_i4_1_27)
  have pq104 : ∀ τ, Steps pP.tables e below (T103.setTop (mkF m 30 #[.val (.ref a), .val (.ref b), .val (.int (0 : Int32)), .val (.int (1 : Int32)), .val .null, .unset] [(.int G1)])) τ → Steps pP.tables e below A0 τ := by
    intro τ κ
    refine pq102 τ ?_
    refine XS.iloadN X101.here hx rfl (hb hby d_rm_i4_1_4) rfl ?_
    refine XS.ifYes X101.here hx rfl (pc0 := 5) (pc' := 27) rfl (hb hby d_rm_i4_1_5) rfl ((if0 _ _).trans (feq (by decide : ¬ ((1 : Int32) = (0 : Int32)))).2) (by decide) (by decide) ?_
    refine st103 _ ?_
    exact κ
  obtain ⟨_, _, ⟨T105, L105, k105, n105⟩, -, X105, ⟨Lc105, hQ105, l105, y105, z105⟩, st105⟩ := Jvm.LawKit.callS X103 hx (y := (⟨"java/lang/StringUTF16", "compress", "([CII)[B"⟩ : MethodName)) hown (mvT hZ (hw _ (List.mem_of_getElem? (i := 47) rfl))) (mvT hZ (hw _ (List.mem_of_getElem? (i := 48) rfl))) (mvT hZ (hw _ (List.mem_of_getElem? (i := 49) rfl))) (mvT hZ (hw _ (List.mem_of_getElem? (i := 50) rfl))) (by decide) (backOf (W := 0) (rm_c3_1 l Z a0 hw [] b kc c0 h0 n0 Z0 OA OH OL X00 V_b hbad hB) hZ (hw _ (List.mem_of_getElem? (i := 50) rfl)) (hw _ (List.mem_of_getElem? (i := 49) rfl)) (by decide) (by decide)) (g := (mkF m 36 #[.val (.ref a), .val (.ref b), .val (.int (0 : Int32)), .val (.int (1 : Int32)), .val .null, .unset] [(.int (1 : Int32)), (.int (0 : Int32)), (.ref b)])) rfl (by rw [hml]; rfl) (argsL := [(.ref b), (.int (0 : Int32)), (.int (1 : Int32))]) (rest := []) (lenOf pdo_14 rfl) rfl (by show 2 * 0 + _ ≤ _; exact Nat.le_of_eq rfl) (hb hby d_rm_i4_1_36) (fun _ _ => ⟨rfl, e103, (by decide : 0 + 2 ≤ _), (by decide : 0 + 7 ≤ _)⟩)
  dsimp only [Pt.U, Pt.locs, Pt.cells, Pt.slots] at X105 l105 y105 z105 st105 hQ105
  subst l105 y105 z105
  obtain ⟨u105, ku105, vs105, rfl, Nq105, K105, lb105, V105, hu105⟩ := hQ105
  have N105 := Fr.app N0 Nq105
  have pq106 : ∀ τ, Steps pP.tables e below (T105.setTop (mkF m 39 #[.val (.ref a), .val (.ref b), .val (.int (0 : Int32)), .val (.int (1 : Int32)), .val .null, .unset] [(.ref u105)])) τ → Steps pP.tables e below A0 τ := by
    intro τ κ
    refine pq104 τ ?_
    refine XS.ifNo X103.here hx rfl (hb hby d_rm_i4_1_30) rfl ((if0 _ _).trans (feq P5).1) ?_
    refine XS.aloadN X103.here hx rfl (hb hby d_rm_i4_1_33) rfl rfl ?_
    refine XS.iloadN X103.here hx rfl (hb hby d_rm_i4_1_34) rfl ?_
    refine XS.iloadN X103.here hx rfl (hb hby d_rm_i4_1_35) rfl ?_
    refine st105 _ ?_
    exact κ
  have KC105 : Keep h0 T105.heap [a] := KC0.trans K105 all0
  have f107 := (Nat.le_trans Z0 K105.1)
  obtain ⟨_, _, ⟨T108, L108, k108, n108⟩, -, X108, ⟨Lc108, hQ108, l108, y108, z108⟩, st108⟩ := Jvm.LawKit.callS X105 hx (y := (⟨"java/lang/StringUTF16", "coderFromArrayLen", "([BI)B"⟩ : MethodName)) hown (mvT hZ (hw _ (List.mem_of_getElem? (i := 54) rfl))) (mvT hZ (hw _ (List.mem_of_getElem? (i := 55) rfl))) (mvT hZ (hw _ (List.mem_of_getElem? (i := 49) rfl))) (mvT hZ (hw _ (List.mem_of_getElem? (i := 56) rfl))) (by decide) (backOf (W := 1) (rm_cfl l Z a0 hw [] u105 ku105 1 vs105 T105.heap n0 f107 V105 (by decide) (by decide)) hZ (hw _ (List.mem_of_getElem? (i := 56) rfl)) (hw _ (List.mem_of_getElem? (i := 49) rfl)) (by decide) (by decide)) (g := (mkF m 45 #[.val (.ref a), .val (.ref b), .val (.int (0 : Int32)), .val (.int (1 : Int32)), .val .null, .val (.ref u105)] [(.int (1 : Int32)), (.ref u105), (.ref a)])) rfl (by rw [hml]; rfl) (argsL := [(.ref u105), (.int (1 : Int32))]) (rest := [(.ref a)]) (lenOf pdo_15 rfl) rfl (by show 2 * 0 + _ ≤ _; exact Nat.le_of_eq rfl) (hb hby d_rm_i4_1_45) (fun _ _ => ⟨rfl, rfl, (by decide : 2 + 0 ≤ _), (by decide : 7 + 0 ≤ _)⟩)
  dsimp only [Pt.U, Pt.locs, Pt.cells, Pt.slots] at X108 l108 y108 z108 st108 hQ108
  subst l108 y108 z108
  obtain ⟨rfl, Nq108, eq108⟩ := hQ108
  have N108 := Fr.app N105 Nq108
  have pq109 : ∀ τ, Steps pP.tables e below (T108.setTop (mkF m 48 #[.val (.ref a), .val (.ref b), .val (.int (0 : Int32)), .val (.int (1 : Int32)), .val .null, .val (.ref u105)] [(.int (1 : Int32)), (.ref a)])) τ → Steps pP.tables e below A0 τ := by
    intro τ κ
    refine pq106 τ ?_
    refine XS.astore X105.here hx rfl (hb hby d_rm_i4_1_39) rfl rfl (l' := #[.val (.ref a), .val (.ref b), .val (.int (0 : Int32)), .val (.int (1 : Int32)), .val .null, .val (.ref u105)]) rfl ?_
    refine XS.aloadN X105.here hx rfl (hb hby d_rm_i4_1_41) rfl rfl ?_
    refine XS.aload X105.here hx rfl (hb hby d_rm_i4_1_42) rfl rfl ?_
    refine XS.iloadN X105.here hx rfl (hb hby d_rm_i4_1_44) rfl ?_
    refine st108 _ ?_
    exact κ
  have f110 := (E_a.keep K105)
  have f111 := (F_coder.keep K105 nin0)
  obtain ⟨T112, h112, X112, e112, W112, st112⟩ := putFN X108 hx hZ hown (hw _ (List.mem_of_getElem? (i := 31) rfl)) Via.refl eq108 f111 f110 (Or.inr ⟨(hw _ (List.mem_of_getElem? (i := 27) rfl)), rfl, hnm⟩) (hw _ (List.mem_of_getElem? (i := 11) rfl)) (ty := .byte) (v' := (.int (1 : Int32))) (by decide) rfl (by decide) (g := (mkF m 48 #[.val (.ref a), .val (.ref b), .val (.int (0 : Int32)), .val (.int (1 : Int32)), .val .null, .val (.ref u105)] [(.int (1 : Int32)), (.ref a)])) rfl rfl (hb hby d_rm_i4_1_48)
  have pq113 : ∀ τ, Steps pP.tables e below (T112.setTop (mkF m 51 #[.val (.ref a), .val (.ref b), .val (.int (0 : Int32)), .val (.int (1 : Int32)), .val .null, .val (.ref u105)] [])) τ → Steps pP.tables e below A0 τ := by
    intro τ κ
    refine pq109 τ ?_
    refine st112 _ ?_
    exact κ
  have KC112 : Keep h0 h112 [a] := KC105.wr W112 (Or.inl (List.mem_of_getElem? (i := 0) rfl))
  have Fw112 := f111.same W112
  have N112 := Fr.snoc X112 N108 ga
  have f114 := (f110.wr W112)
  have f115 := ((F_value.keep K105 nin0).other W112 (Or.inr (slot_ne (Or.inr (hw _ (List.mem_of_getElem? (i := 26) rfl))) (Or.inr (hw _ (List.mem_of_getElem? (i := 27) rfl))) (by decide) (t := (.array .byte)) (t' := .byte) (by decide) (by decide))))
  obtain ⟨T116, h116, X116, e116, W116, st116⟩ := putF X112 hx hZ hown (host := "") (Or.inl (hw _ (List.mem_of_getElem? (i := 30) rfl))) Via.refl e112 f115 f114 (Or.inr ⟨(hw _ (List.mem_of_getElem? (i := 26) rfl)), rfl, hnm⟩) (hw _ (List.mem_of_getElem? (i := 11) rfl)) (ty := (.array .byte)) (by decide) rfl rfl (g := (mkF m 54 #[.val (.ref a), .val (.ref b), .val (.int (0 : Int32)), .val (.int (1 : Int32)), .val .null, .val (.ref u105)] [(.ref u105), (.ref a)])) rfl rfl (hb hby d_rm_i4_1_54)
  have pq117 : ∀ τ, Steps pP.tables e below (T116.setTop (mkF m 57 #[.val (.ref a), .val (.ref b), .val (.int (0 : Int32)), .val (.int (1 : Int32)), .val .null, .val (.ref u105)] [])) τ → Steps pP.tables e below A0 τ := by
    intro τ κ
    refine pq113 τ ?_
    refine XS.aloadN X112.here hx rfl (hb hby d_rm_i4_1_51) rfl rfl ?_
    refine XS.aload X112.here hx rfl (hb hby d_rm_i4_1_52) rfl rfl ?_
    refine st116 _ ?_
    exact κ
  have KC116 : Keep h0 h116 [a] := KC112.wr W116 (Or.inl (List.mem_of_getElem? (i := 0) rfl))
  have Fw116 := f115.same W116
  have N116 := Fr.snoc X116 N112 ga
  have f118 := (f114.wr W116)
  have f119 := (Fw112.other W116 (Or.inr (slot_ne (Or.inr (hw _ (List.mem_of_getElem? (i := 27) rfl))) (Or.inr (hw _ (List.mem_of_getElem? (i := 26) rfl))) (by decide) (t := .byte) (t' := (.array .byte)) (by decide) (by decide))))
  have f120 := ((V105.other W112 (Ne.symm (Nat.ne_of_lt (Nat.lt_of_lt_of_le E_a.lt lb105)))).other W116 (Ne.symm (Nat.ne_of_lt (Nat.lt_of_lt_of_le E_a.lt lb105))))
  obtain ⟨fs, hr, hrun, hended, hW, hsame⟩ := X116.leave (v := none) (fun _ => rfl)
  have pqE := pq117
  rw [hA0] at pqE
  refine ⟨_, _, pqE _ ?_, hrun, hended, _, _, rfl, ?_, ⟨_, rfl⟩, hW, hsame.mono (by decide) (by decide)⟩
  · show Steps pP.tables e below (T116.setTop (mkF m 57 #[.val (.ref a), .val (.ref b), .val (.int (0 : Int32)), .val (.int (1 : Int32)), .val .null, .val (.ref u105)] [])) _
    exact X116.returnOut hx Bd.returns (hb hby d_rm_i4_1_57) hr
  · show Q_new Z a ([c0] : List Int32) h0 n0 _ T116.heap _
    rw [e116]
    exact ⟨rfl, N116, KC116, u105, _, f118, Fw116, Or.inr ⟨f119, _, f120, hu105, hB⟩⟩
theorem d_rm_i1_1_0 : decode jdk_42_method_3_code 0 = .ok (.aload_n 0, 1) := by decide +kernel
theorem d_rm_i1_1_1 : decode jdk_42_method_3_code 1 = .ok (.aload_n 1, 1) := by decide +kernel
theorem d_rm_i1_1_2 : decode jdk_42_method_3_code 2 = .ok (.iconst 0, 1) := by decide +kernel
theorem d_rm_i1_1_3 : decode jdk_42_method_3_code 3 = .ok (.aload_n 1, 1) := by decide +kernel
theorem d_rm_i1_1_4 : decode jdk_42_method_3_code 4 = .ok (.arraylength, 1) := by decide +kernel
theorem d_rm_i1_1_5 : decode jdk_42_method_3_code 5 = .ok (.aconst_null, 1) := by decide +kernel
theorem d_rm_i1_1_6 : decode jdk_42_method_3_code 6 = .ok (.invokespecial 27, 3) := by decide +kernel
theorem d_rm_i1_1_9 : decode jdk_42_method_3_code 9 = .ok (.return_, 1) := by decide +kernel
theorem ef_rm_i1_1 (m : MethodId) (x0 : Addr) (x1 : Addr) : entryFrame m #[(.ref x0), (.ref x1)] 2 = mkF m 0 #[.val (.ref x0), .val (.ref x1)] [] := by first | (simp [entryFrame, mkF, argsToLocals, Value.category]; done) | rfl
set_option maxRecDepth 65536 in
set_option maxHeartbeats 3000000 in
theorem rm_i1_1 (l : Launch) (Z : State) (a0 : Array Value) (hw : ∀ d ∈ tables_1, d.before a0 Z = true) (ws : List Jvm.Cond) (a b : Addr) (kc : ClassId) (c0 : Int32) (G1 : Int32) (h0 : Heap) (n0 : Nat) (Z0 : n0 ≤ h0.size) (O2 : Sta Z Z.heap "java/lang/String" "COMPACT_STRINGS" "Z" (.int G1)) (P5 : ¬ (G1 = (0 : Int32))) (X00 : Old Z n0 h0) (OA : Sta Z Z.heap "java/lang/StringUTF16" "$assertionsDisabled" "Z" (.int 1)) (OH : Sta Z Z.heap "java/lang/StringUTF16" "HI_BYTE_SHIFT" "I" (.int 0)) (OL : Sta Z Z.heap "java/lang/StringUTF16" "LO_BYTE_SHIFT" "I" (.int 8)) (E_a : Exa Z h0 a "java/lang/String") (ga : n0 ≤ a) (F_value : Fld Z h0 a "java/lang/String" "value" "[B" .null) (F_coder : Fld Z h0 a "java/lang/String" "coder" "B" (.int (0 : Int32))) (V_b : Arv Z h0 b kc .char (1 : Int32) [(.int c0)] (.int (0 : Int32))) (hbad : ¬ ∀ c ∈ ([c0] : List Int32), ¬ (255 : Int32) < c) (hB : ∀ c ∈ ([c0] : List Int32), ¬ c < 0 ∧ ¬ (65535 : Int32) < c) :
    MetFree l (⟨"java/lang/String", "<init>", "([C)V"⟩ : MethodName) (head1 (Jvm.Cond.code (⟨"java/lang/String", "<init>", "([C)V"⟩ : MethodName) jdk_42_method_3_code 2 none :: ws) ({ frames := 5, cells := 2, slots := 7, locals := 74 } : Room)) (fun αs U => αs = #[(.ref a), (.ref b)] ∧ Z.Warmed39 U.vm ∧ U.heap = h0) (fun _ _ _ _ _ => True) (fun _ U o U' => ∃ v L, o = .returned v ∧ Q_new Z a ([c0] : List Int32) h0 n0 v U'.heap L ∧ FrameEnd U o U' L ({ frames := 5, cells := 2, slots := 7, locals := 74 } : Room).cells ({ frames := 5, cells := 2, slots := 7, locals := 74 } : Room).slots) := by
  refine MetFree.of_bodySF (plainFor_of_name pno_2) hisR ?_
  intro pP e s m args below meth cC s₁ Bd hml0 hP hK
  obtain ⟨rfl, hZ, hh⟩ := hP
  have hx := Bd.exec
  have hby := Bd.bytes
  have hml : cC.maxLocals = 2 := hml0
  have hown : s.vm.findClass "java/lang/String" = some m.cls := findClass_of_methodNamed Bd.named
  have hnm := (name_of_methodNamed Bd.named Bd.method).1
  have X0 : Stand pP l e ({ frames := 5, cells := 2, slots := 7, locals := 74 } : Room) s m #[(.ref a), (.ref b)] below meth cC s₁ [] 0 0 := Stand.of_body Bd
  have e0 : s₁.heap = h0 := by rw [← hh, Bd.state]; rfl
  have N0 := Fr.nil n0
  have KC0 : Keep h0 h0 [a] := Keep.refl h0 _
  obtain ⟨A0, hA0⟩ : ∃ z, z = s₁.setTop (entryFrame m #[(.ref a), (.ref b)] 2) := ⟨_, rfl⟩
  have pre0 : ∀ τ, Steps pP.tables e below (s₁.setTop (mkF m 0 #[.val (.ref a), .val (.ref b)] [])) τ → Steps pP.tables e below A0 τ := fun τ κ => by rw [hA0]; exact castTop (ef_rm_i1_1 m a b) κ
  obtain ⟨cl101, Ar101, q101, S101, M101, Hs101, G101⟩ := id V_b
  obtain ⟨_, _, ⟨T102, L102, k102, n102⟩, -, X102, ⟨Lc102, hQ102, l102, y102, z102⟩, st102⟩ := X0.specialBack hx (y := (⟨"java/lang/String", "<init>", "([CIILjava/lang/Void;)V"⟩ : MethodName)) rfl hown (mvT hZ (hw _ (List.mem_of_getElem? (i := 17) rfl))) (mvT hZ (hw _ (List.mem_of_getElem? (i := 18) rfl))) (mvT hZ (hw _ (List.mem_of_getElem? (i := 20) rfl))) (by decide) (backOf (W := 0) (rm_i4_1 l Z a0 hw [] a b kc c0 G1 h0 n0 Z0 O2 P5 X00 OA OH OL E_a ga F_value F_coder V_b hbad hB) hZ (hw _ (List.mem_of_getElem? (i := 20) rfl)) (hw _ (List.mem_of_getElem? (i := 12) rfl)) (by decide) (by decide)) (g := (mkF m 6 #[.val (.ref a), .val (.ref b)] [.null, (.int (1 : Int32)), (.int (0 : Int32)), (.ref b), (.ref a)])) rfl (by rw [hml]; rfl) (Steps.refl _) (a := a) (argsL := [(.ref b), (.int (0 : Int32)), (.int (1 : Int32)), .null]) (rest := []) (lenOf pdo_16 rfl) rfl (by show 2 * 0 + _ ≤ _; exact Nat.le_of_eq rfl) (hb hby d_rm_i1_1_6) (fun _ _ => ⟨rfl, e0, (by decide : 0 + 2 ≤ _), (by decide : 0 + 7 ≤ _)⟩)
  dsimp only [Pt.U, Pt.locs, Pt.cells, Pt.slots] at X102 l102 y102 z102 st102 hQ102
  subst l102 y102 z102
  obtain ⟨rfl, Nq102, K102, U102⟩ := hQ102
  have N102 := Fr.app N0 Nq102
  have pq103 : ∀ τ, Steps pP.tables e below (T102.setTop (mkF m 9 #[.val (.ref a), .val (.ref b)] [])) τ → Steps pP.tables e below A0 τ := by
    intro τ κ
    refine pre0 τ ?_
    refine XS.aloadN X0.here hx rfl (hb hby d_rm_i1_1_0) rfl rfl ?_
    refine XS.aloadN X0.here hx rfl (hb hby d_rm_i1_1_1) rfl rfl ?_
    refine XS.iconst X0.here hx rfl (hb hby d_rm_i1_1_2) ?_
    refine XS.aloadN X0.here hx rfl (hb hby d_rm_i1_1_3) rfl rfl ?_
    refine X0.arraylength hx (by rw [e0]; exact Ar101.1) (State.isArrayOf_alike hZ.alike Ar101.2.1) (g := (mkF m 4 #[.val (.ref a), .val (.ref b)] [(.ref b), (.int (0 : Int32)), (.ref b), (.ref a)])) rfl rfl (hb hby d_rm_i1_1_4) _ ?_
    rw [len_of S101 M101]
    refine XS.aconstNull X0.here hx rfl (hb hby d_rm_i1_1_5) ?_
    refine st102.trans ?_
    exact κ
  have KC102 : Keep h0 T102.heap [a] := KC0.trans K102 (allS (Or.inl (List.mem_of_getElem? (i := 0) rfl)) all0)
  obtain ⟨fs, hr, hrun, hended, hW, hsame⟩ := X102.leave (v := none) (fun _ => rfl)
  have pqE := pq103
  rw [hA0] at pqE
  refine ⟨_, _, pqE _ ?_, hrun, hended, _, _, rfl, ?_, ⟨_, rfl⟩, hW, hsame.mono (by decide) (by decide)⟩
  · show Steps pP.tables e below (T102.setTop (mkF m 9 #[.val (.ref a), .val (.ref b)] [])) _
    exact X102.returnOut hx Bd.returns (hb hby d_rm_i1_1_9) hr
  · show Q_new Z a ([c0] : List Int32) h0 n0 _ T102.heap _
    exact ⟨rfl, N102, KC102, U102⟩
def Q_c5_2 (d : Addr) (c0 c1 : Int32) (h0 : Heap) (n0 : Nat) (v : Option Value) (h : Heap) (L : List Loc) : Prop := ∃ j : Nat, v = some (.int (Int32.ofNat j)) ∧ j < 2 ∧ (255 : Int32) < ([c0, c1] : List Int32).getD j 0 ∧ Fr n0 L ∧ Keep h0 h [d]
theorem d_rm_c5_2_0 : decode jdk_52_method_21_code 0 = .ok (.iconst 0, 1) := by decide +kernel
theorem d_rm_c5_2_1 : decode jdk_52_method_21_code 1 = .ok (.istore 5, 2) := by decide +kernel
theorem d_rm_c5_2_3 : decode jdk_52_method_21_code 3 = .ok (.iload 5, 2) := by decide +kernel
theorem d_rm_c5_2_5 : decode jdk_52_method_21_code 5 = .ok (.iload 4, 2) := by decide +kernel
theorem d_rm_c5_2_7 : decode jdk_52_method_21_code 7 = .ok (.if_icmp .ge 37, 3) := by decide +kernel
theorem d_rm_c5_2_10 : decode jdk_52_method_21_code 10 = .ok (.aload_n 0, 1) := by decide +kernel
theorem d_rm_c5_2_11 : decode jdk_52_method_21_code 11 = .ok (.iload_n 1, 1) := by decide +kernel
theorem d_rm_c5_2_12 : decode jdk_52_method_21_code 12 = .ok (.caload, 1) := by decide +kernel
theorem d_rm_c5_2_13 : decode jdk_52_method_21_code 13 = .ok (.istore 6, 2) := by decide +kernel
theorem d_rm_c5_2_15 : decode jdk_52_method_21_code 15 = .ok (.iload 6, 2) := by decide +kernel
theorem d_rm_c5_2_17 : decode jdk_52_method_21_code 17 = .ok (.sipush 255, 3) := by decide +kernel
theorem d_rm_c5_2_20 : decode jdk_52_method_21_code 20 = .ok (.if_icmp .le 6, 3) := by decide +kernel
theorem d_rm_c5_2_23 : decode jdk_52_method_21_code 23 = .ok (.iload 5, 2) := by decide +kernel
theorem d_rm_c5_2_25 : decode jdk_52_method_21_code 25 = .ok (.ireturn, 1) := by decide +kernel
theorem d_rm_c5_2_26 : decode jdk_52_method_21_code 26 = .ok (.aload_n 2, 1) := by decide +kernel
theorem d_rm_c5_2_27 : decode jdk_52_method_21_code 27 = .ok (.iload_n 3, 1) := by decide +kernel
theorem d_rm_c5_2_28 : decode jdk_52_method_21_code 28 = .ok (.iload 6, 2) := by decide +kernel
theorem d_rm_c5_2_30 : decode jdk_52_method_21_code 30 = .ok (.i2b, 1) := by decide +kernel
theorem d_rm_c5_2_31 : decode jdk_52_method_21_code 31 = .ok (.bastore, 1) := by decide +kernel
theorem d_rm_c5_2_32 : decode jdk_52_method_21_code 32 = .ok (.iinc 1 1, 3) := by decide +kernel
theorem d_rm_c5_2_35 : decode jdk_52_method_21_code 35 = .ok (.iinc 3 1, 3) := by decide +kernel
theorem d_rm_c5_2_38 : decode jdk_52_method_21_code 38 = .ok (.iinc 5 1, 3) := by decide +kernel
theorem d_rm_c5_2_41 : decode jdk_52_method_21_code 41 = .ok (.goto (-38), 3) := by decide +kernel
theorem d_rm_c5_2_44 : decode jdk_52_method_21_code 44 = .ok (.iload 4, 2) := by decide +kernel
theorem ef_rm_c5_2 (m : MethodId) (x0 : Addr) (x1 : Int32) (x2 : Addr) (x3 : Int32) (x4 : Int32) : entryFrame m #[(.ref x0), (.int x1), (.ref x2), (.int x3), (.int x4)] 7 = mkF m 0 #[.val (.ref x0), .val (.int x1), .val (.ref x2), .val (.int x3), .val (.int x4), .unset, .unset] [] := by first | (simp [entryFrame, mkF, argsToLocals, Value.category]; done) | rfl
set_option maxRecDepth 65536 in
set_option maxHeartbeats 3000000 in
theorem rm_c5_2 (l : Launch) (Z : State) (a0 : Array Value) (hw : ∀ d ∈ tables_1, d.before a0 Z = true) (ws : List Jvm.Cond) (b d : Addr) (kc kd : ClassId) (c0 c1 : Int32) (h0 : Heap) (n0 : Nat) (Z0 : n0 ≤ h0.size) (V_b : Arv Z h0 b kc .char (2 : Int32) [(.int c0), (.int c1)] (.int (0 : Int32))) (V_d : Arv Z h0 d kd .byte (2 : Int32) [(.int (0 : Int32)), (.int (0 : Int32))] (.int (0 : Int32))) (gd : n0 ≤ d) (hbd : b ≠ d) (hbad : ¬ ∀ c ∈ ([c0, c1] : List Int32), ¬ (255 : Int32) < c) :
    MetFree l (⟨"java/lang/StringUTF16", "compress", "([CI[BII)I"⟩ : MethodName) (head1 (Jvm.Cond.code (⟨"java/lang/StringUTF16", "compress", "([CI[BII)I"⟩ : MethodName) jdk_52_method_21_code 7 (some .int) :: ws) ({ frames := 0, cells := 0, slots := 0, locals := 0 } : Room)) (fun αs U => αs = #[(.ref b), (.int (0 : Int32)), (.ref d), (.int (0 : Int32)), (.int (2 : Int32))] ∧ Z.Warmed39 U.vm ∧ U.heap = h0) (fun _ _ _ _ _ => True) (fun _ U o U' => ∃ v L, o = .returned v ∧ Q_c5_2 d c0 c1 h0 n0 v U'.heap L ∧ FrameEnd U o U' L ({ frames := 0, cells := 0, slots := 0, locals := 0 } : Room).cells ({ frames := 0, cells := 0, slots := 0, locals := 0 } : Room).slots) := by
  refine MetFree.of_bodySF (plainFor_of_name pno_5) hisR ?_
  intro pP e s m args below meth cC s₁ Bd hml0 hP hK
  obtain ⟨rfl, hZ, hh⟩ := hP
  have hx := Bd.exec
  have hby := Bd.bytes
  have hml : cC.maxLocals = 7 := hml0
  have hown : s.vm.findClass "java/lang/StringUTF16" = some m.cls := findClass_of_methodNamed Bd.named
  have hnm := (name_of_methodNamed Bd.named Bd.method).1
  have X0 : Stand pP l e ({ frames := 0, cells := 0, slots := 0, locals := 0 } : Room) s m #[(.ref b), (.int (0 : Int32)), (.ref d), (.int (0 : Int32)), (.int (2 : Int32))] below meth cC s₁ [] 0 0 := Stand.of_body Bd
  have e0 : s₁.heap = h0 := by rw [← hh, Bd.state]; rfl
  have N0 := Fr.nil n0
  have KC0 : Keep h0 h0 [d] := Keep.refl h0 _
  obtain ⟨A0, hA0⟩ : ∃ z, z = s₁.setTop (entryFrame m #[(.ref b), (.int (0 : Int32)), (.ref d), (.int (0 : Int32)), (.int (2 : Int32))] 7) := ⟨_, rfl⟩
  have pre0 : ∀ τ, Steps pP.tables e below (s₁.setTop (mkF m 0 #[.val (.ref b), .val (.int (0 : Int32)), .val (.ref d), .val (.int (0 : Int32)), .val (.int (2 : Int32)), .unset, .unset] [])) τ → Steps pP.tables e below A0 τ := fun τ κ => by rw [hA0]; exact castTop (ef_rm_c5_2 m b (0 : Int32) d (0 : Int32) (2 : Int32)) κ
  obtain ⟨cl101, Ar101, q101, S101, M101, Hs101, G101⟩ := id V_b
  have hin101 := inb_of (j := (0 : Int32)) S101 ⟨by decide, by decide⟩
  have pq102 : ∀ τ, Steps pP.tables e below (s₁.setTop (mkF m 20 #[.val (.ref b), .val (.int (0 : Int32)), .val (.ref d), .val (.int (0 : Int32)), .val (.int (2 : Int32)), .val (.int (0 : Int32)), .val (.int c0)] [(.int (255 : Int32)), (.int c0)])) τ → Steps pP.tables e below A0 τ := by
    intro τ κ
    refine pre0 τ ?_
    refine XS.iconst X0.here hx rfl (hb hby d_rm_c5_2_0) ?_
    refine XS.istore X0.here hx rfl (hb hby d_rm_c5_2_1) rfl (l' := #[.val (.ref b), .val (.int (0 : Int32)), .val (.ref d), .val (.int (0 : Int32)), .val (.int (2 : Int32)), .val (.int (0 : Int32)), .unset]) rfl ?_
    refine XS.iload X0.here hx rfl (hb hby d_rm_c5_2_3) rfl ?_
    refine XS.iload X0.here hx rfl (hb hby d_rm_c5_2_5) rfl ?_
    refine XS.icmpNo X0.here hx rfl (hb hby d_rm_c5_2_7) rfl (tlt (by decide : ((0 : Int32) < (2 : Int32)))).2.1 ?_
    refine XS.aloadN X0.here hx rfl (hb hby d_rm_c5_2_10) rfl rfl ?_
    refine XS.iloadN X0.here hx rfl (hb hby d_rm_c5_2_11) rfl ?_
    refine X0.caload hx (j := (0 : Int32)) (v := (.int c0)) (by rw [e0]; exact Ar101.1) (State.isArrayOf_alike hZ.alike Ar101.2.1) Ar101.2.2 hin101 (Has.at Hs101 hin101 rfl) (g := (mkF m 12 #[.val (.ref b), .val (.int (0 : Int32)), .val (.ref d), .val (.int (0 : Int32)), .val (.int (2 : Int32)), .val (.int (0 : Int32)), .unset] [(.int (0 : Int32)), (.ref b)])) rfl rfl (hb hby d_rm_c5_2_12) _ ?_
    refine XS.istore X0.here hx rfl (hb hby d_rm_c5_2_13) rfl (l' := #[.val (.ref b), .val (.int (0 : Int32)), .val (.ref d), .val (.int (0 : Int32)), .val (.int (2 : Int32)), .val (.int (0 : Int32)), .val (.int c0)]) rfl ?_
    refine XS.iload X0.here hx rfl (hb hby d_rm_c5_2_15) rfl ?_
    refine XS.sipush X0.here hx rfl (hb hby d_rm_c5_2_17) ?_
    exact κ
  by_cases hc20_103 : (255 : Int32) < c0
  · skip
    obtain ⟨fs, hr, hrun, hended, hW, hsame⟩ := X0.leave (v := some (.int (0 : Int32))) (fun h => by rw [Bd.returns] at h; cases h)
    have pqE := pq102
    rw [hA0] at pqE
    refine ⟨_, _, pqE _ ?_, hrun, hended, _, _, rfl, ?_, ⟨_, rfl⟩, hW, hsame.mono (by decide) (by decide)⟩
    · refine XS.icmpNo X0.here hx rfl (hb hby d_rm_c5_2_20) rfl (tlt hc20_103).2.2.2 ?_
      refine XS.iload X0.here hx rfl (hb hby d_rm_c5_2_23) rfl ?_
      show Steps pP.tables e below (s₁.setTop (mkF m 25 #[.val (.ref b), .val (.int (0 : Int32)), .val (.ref d), .val (.int (0 : Int32)), .val (.int (2 : Int32)), .val (.int (0 : Int32)), .val (.int c0)] [(.int (0 : Int32))])) _
      exact retOut X0 hx Bd.returns rfl (Or.inl ⟨rfl, Or.inl rfl, _, rfl⟩) (hb hby d_rm_c5_2_25) hr
    · show Q_c5_2 d c0 c1 h0 n0 _ s₁.heap _
      rw [e0]
      exact ⟨0, rfl, (by decide), hc20_103, N0, KC0⟩
  · skip
    obtain ⟨cl104, Ar104, q104, S104, M104, Hs104, G104⟩ := id V_d
    obtain ⟨T104, h104, X104, e104, W104, st104⟩ := stB X0 hx hZ e0 Ar104 (j := (0 : Int32)) (inb_of S104 ⟨by decide, by decide⟩) (g := (mkF m 31 #[.val (.ref b), .val (.int (0 : Int32)), .val (.ref d), .val (.int (0 : Int32)), .val (.int (2 : Int32)), .val (.int (0 : Int32)), .val (.int c0)] [(.int (c0.toInt8.toInt32)), (.int (0 : Int32)), (.ref d)])) rfl rfl (hb hby d_rm_c5_2_31)
    have pq105 : ∀ τ, Steps pP.tables e below (T104.setTop (mkF m 32 #[.val (.ref b), .val (.int (0 : Int32)), .val (.ref d), .val (.int (0 : Int32)), .val (.int (2 : Int32)), .val (.int (0 : Int32)), .val (.int c0)] [])) τ → Steps pP.tables e below A0 τ := by
      intro τ κ
      refine pq102 τ ?_
      refine XS.icmpYes X0.here hx rfl (pc0 := 20) (pc' := 26) rfl (hb hby d_rm_c5_2_20) rfl (flt hc20_103).2.2.2 (by decide) (by decide) ?_
      refine XS.aloadN X0.here hx rfl (hb hby d_rm_c5_2_26) rfl rfl ?_
      refine XS.iloadN X0.here hx rfl (hb hby d_rm_c5_2_27) rfl ?_
      refine XS.iload X0.here hx rfl (hb hby d_rm_c5_2_28) rfl ?_
      refine XS.i2b X0.here hx rfl (hb hby d_rm_c5_2_30) rfl ?_
      refine st104 _ ?_
      exact κ
    have KC104 : Keep h0 h104 [d] := KC0.wr W104 (Or.inl (List.mem_of_getElem? (i := 0) rfl))
    have V104 : Arv Z h104 d kd .byte (2 : Int32) [(.int (c0.toInt8.toInt32).toInt8.toInt32), (.int (0 : Int32))] (.int (0 : Int32)) := Arv.set Ar104 q104 S104 M104 Hs104 G104 (fits_nar_byte _) W104 0 rfl (Nat.le_of_ble_eq_true rfl)
    have N104 := Fr.snoc X104 N0 gd
    have f106 := (V_b.other W104 hbd)
    obtain ⟨cl107, Ar107, q107, S107, M107, Hs107, G107⟩ := id f106
    have hin107 := inb_of (j := (1 : Int32)) S107 ⟨by decide, by decide⟩
    have pq108 : ∀ τ, Steps pP.tables e below (T104.setTop (mkF m 20 #[.val (.ref b), .val (.int (1 : Int32)), .val (.ref d), .val (.int (1 : Int32)), .val (.int (2 : Int32)), .val (.int (1 : Int32)), .val (.int c1)] [(.int (255 : Int32)), (.int c1)])) τ → Steps pP.tables e below A0 τ := by
      intro τ κ
      refine pq105 τ ?_
      refine XS.iinc X104.here hx rfl (hb hby d_rm_c5_2_32) rfl (l' := #[.val (.ref b), .val (.int (1 : Int32)), .val (.ref d), .val (.int (0 : Int32)), .val (.int (2 : Int32)), .val (.int (0 : Int32)), .val (.int c0)]) rfl ?_
      refine XS.iinc X104.here hx rfl (hb hby d_rm_c5_2_35) rfl (l' := #[.val (.ref b), .val (.int (1 : Int32)), .val (.ref d), .val (.int (1 : Int32)), .val (.int (2 : Int32)), .val (.int (0 : Int32)), .val (.int c0)]) rfl ?_
      refine XS.iinc X104.here hx rfl (hb hby d_rm_c5_2_38) rfl (l' := #[.val (.ref b), .val (.int (1 : Int32)), .val (.ref d), .val (.int (1 : Int32)), .val (.int (2 : Int32)), .val (.int (1 : Int32)), .val (.int c0)]) rfl ?_
      refine XS.goto X104.here hx rfl (pc0 := 41) (pc' := 3) rfl (hb hby d_rm_c5_2_41) (by decide) (by decide) ?_
      refine XS.iload X104.here hx rfl (hb hby d_rm_c5_2_3) rfl ?_
      refine XS.iload X104.here hx rfl (hb hby d_rm_c5_2_5) rfl ?_
      refine XS.icmpNo X104.here hx rfl (hb hby d_rm_c5_2_7) rfl (tlt (by decide : ((1 : Int32) < (2 : Int32)))).2.1 ?_
      refine XS.aloadN X104.here hx rfl (hb hby d_rm_c5_2_10) rfl rfl ?_
      refine XS.iloadN X104.here hx rfl (hb hby d_rm_c5_2_11) rfl ?_
      refine X104.caload hx (j := (1 : Int32)) (v := (.int c1)) (by rw [e104]; exact Ar107.1) (State.isArrayOf_alike hZ.alike Ar107.2.1) Ar107.2.2 hin107 (Has.at Hs107 hin107 rfl) (g := (mkF m 12 #[.val (.ref b), .val (.int (1 : Int32)), .val (.ref d), .val (.int (1 : Int32)), .val (.int (2 : Int32)), .val (.int (1 : Int32)), .val (.int c0)] [(.int (1 : Int32)), (.ref b)])) rfl rfl (hb hby d_rm_c5_2_12) _ ?_
      refine XS.istore X104.here hx rfl (hb hby d_rm_c5_2_13) rfl (l' := #[.val (.ref b), .val (.int (1 : Int32)), .val (.ref d), .val (.int (1 : Int32)), .val (.int (2 : Int32)), .val (.int (1 : Int32)), .val (.int c1)]) rfl ?_
      refine XS.iload X104.here hx rfl (hb hby d_rm_c5_2_15) rfl ?_
      refine XS.sipush X104.here hx rfl (hb hby d_rm_c5_2_17) ?_
      exact κ
    by_cases hc20_109 : (255 : Int32) < c1
    · skip
      obtain ⟨fs, hr, hrun, hended, hW, hsame⟩ := X104.leave (v := some (.int (1 : Int32))) (fun h => by rw [Bd.returns] at h; cases h)
      have pqE := pq108
      rw [hA0] at pqE
      refine ⟨_, _, pqE _ ?_, hrun, hended, _, _, rfl, ?_, ⟨_, rfl⟩, hW, hsame.mono (by decide) (by decide)⟩
      · refine XS.icmpNo X104.here hx rfl (hb hby d_rm_c5_2_20) rfl (tlt hc20_109).2.2.2 ?_
        refine XS.iload X104.here hx rfl (hb hby d_rm_c5_2_23) rfl ?_
        show Steps pP.tables e below (T104.setTop (mkF m 25 #[.val (.ref b), .val (.int (1 : Int32)), .val (.ref d), .val (.int (1 : Int32)), .val (.int (2 : Int32)), .val (.int (1 : Int32)), .val (.int c1)] [(.int (1 : Int32))])) _
        exact retOut X104 hx Bd.returns rfl (Or.inl ⟨rfl, Or.inl rfl, _, rfl⟩) (hb hby d_rm_c5_2_25) hr
      · show Q_c5_2 d c0 c1 h0 n0 _ T104.heap _
        rw [e104]
        exact ⟨1, rfl, (by decide), hc20_109, N104, KC104⟩
    · skip
      obtain ⟨cl110, Ar110, q110, S110, M110, Hs110, G110⟩ := id V104
      obtain ⟨T110, h110, X110, e110, W110, st110⟩ := stB X104 hx hZ e104 Ar110 (j := (1 : Int32)) (inb_of S110 ⟨by decide, by decide⟩) (g := (mkF m 31 #[.val (.ref b), .val (.int (1 : Int32)), .val (.ref d), .val (.int (1 : Int32)), .val (.int (2 : Int32)), .val (.int (1 : Int32)), .val (.int c1)] [(.int (c1.toInt8.toInt32)), (.int (1 : Int32)), (.ref d)])) rfl rfl (hb hby d_rm_c5_2_31)
      have pq111 : ∀ τ, Steps pP.tables e below (T110.setTop (mkF m 32 #[.val (.ref b), .val (.int (1 : Int32)), .val (.ref d), .val (.int (1 : Int32)), .val (.int (2 : Int32)), .val (.int (1 : Int32)), .val (.int c1)] [])) τ → Steps pP.tables e below A0 τ := by
        intro τ κ
        refine pq108 τ ?_
        refine XS.icmpYes X104.here hx rfl (pc0 := 20) (pc' := 26) rfl (hb hby d_rm_c5_2_20) rfl (flt hc20_109).2.2.2 (by decide) (by decide) ?_
        refine XS.aloadN X104.here hx rfl (hb hby d_rm_c5_2_26) rfl rfl ?_
        refine XS.iloadN X104.here hx rfl (hb hby d_rm_c5_2_27) rfl ?_
        refine XS.iload X104.here hx rfl (hb hby d_rm_c5_2_28) rfl ?_
        refine XS.i2b X104.here hx rfl (hb hby d_rm_c5_2_30) rfl ?_
        refine st110 _ ?_
        exact κ
      have KC110 : Keep h0 h110 [d] := KC104.wr W110 (Or.inl (List.mem_of_getElem? (i := 0) rfl))
      have V110 : Arv Z h110 d kd .byte (2 : Int32) [(.int (c0.toInt8.toInt32).toInt8.toInt32), (.int (c1.toInt8.toInt32).toInt8.toInt32)] (.int (0 : Int32)) := Arv.set Ar110 q110 S110 M110 Hs110 G110 (fits_nar_byte _) W110 1 rfl (Nat.le_of_ble_eq_true rfl)
      have N110 := Fr.snoc X110 N104 gd
      refine absurd (fun c hc => ?_) hbad
      simp only [List.mem_cons, List.not_mem_nil, or_false] at hc
      rcases hc with hc | hc
      · rw [hc]; exact hc20_103
      · rw [hc]; exact hc20_109
theorem d_rm_tb_2_0 : decode jdk_52_method_14_code 0 = .ok (.iload_n 2, 1) := by decide +kernel
theorem d_rm_tb_2_1 : decode jdk_52_method_14_code 1 = .ok (.invokestatic 107, 3) := by decide +kernel
theorem d_rm_tb_2_4 : decode jdk_52_method_14_code 4 = .ok (.astore_n 3, 1) := by decide +kernel
theorem d_rm_tb_2_5 : decode jdk_52_method_14_code 5 = .ok (.iconst 0, 1) := by decide +kernel
theorem d_rm_tb_2_6 : decode jdk_52_method_14_code 6 = .ok (.istore 4, 2) := by decide +kernel
theorem d_rm_tb_2_8 : decode jdk_52_method_14_code 8 = .ok (.iload 4, 2) := by decide +kernel
theorem d_rm_tb_2_10 : decode jdk_52_method_14_code 10 = .ok (.iload_n 2, 1) := by decide +kernel
theorem d_rm_tb_2_11 : decode jdk_52_method_14_code 11 = .ok (.if_icmp .ge 21, 3) := by decide +kernel
theorem d_rm_tb_2_14 : decode jdk_52_method_14_code 14 = .ok (.aload_n 3, 1) := by decide +kernel
theorem d_rm_tb_2_15 : decode jdk_52_method_14_code 15 = .ok (.iload 4, 2) := by decide +kernel
theorem d_rm_tb_2_17 : decode jdk_52_method_14_code 17 = .ok (.aload_n 0, 1) := by decide +kernel
theorem d_rm_tb_2_18 : decode jdk_52_method_14_code 18 = .ok (.iload_n 1, 1) := by decide +kernel
theorem d_rm_tb_2_19 : decode jdk_52_method_14_code 19 = .ok (.caload, 1) := by decide +kernel
theorem d_rm_tb_2_20 : decode jdk_52_method_14_code 20 = .ok (.invokestatic 111, 3) := by decide +kernel
theorem d_rm_tb_2_23 : decode jdk_52_method_14_code 23 = .ok (.iinc 1 1, 3) := by decide +kernel
theorem d_rm_tb_2_26 : decode jdk_52_method_14_code 26 = .ok (.iinc 4 1, 3) := by decide +kernel
theorem d_rm_tb_2_29 : decode jdk_52_method_14_code 29 = .ok (.goto (-21), 3) := by decide +kernel
theorem d_rm_tb_2_32 : decode jdk_52_method_14_code 32 = .ok (.aload_n 3, 1) := by decide +kernel
theorem d_rm_tb_2_33 : decode jdk_52_method_14_code 33 = .ok (.areturn, 1) := by decide +kernel
theorem ef_rm_tb_2 (m : MethodId) (x0 : Addr) (x1 : Int32) (x2 : Int32) : entryFrame m #[(.ref x0), (.int x1), (.int x2)] 5 = mkF m 0 #[.val (.ref x0), .val (.int x1), .val (.int x2), .unset, .unset] [] := by first | (simp [entryFrame, mkF, argsToLocals, Value.category]; done) | rfl
set_option maxRecDepth 65536 in
set_option maxHeartbeats 3000000 in
theorem rm_tb_2 (l : Launch) (Z : State) (a0 : Array Value) (hw : ∀ d ∈ tables_1, d.before a0 Z = true) (ws : List Jvm.Cond) (b : Addr) (kc : ClassId) (c0 c1 : Int32) (h0 : Heap) (n0 : Nat) (Z0 : n0 ≤ h0.size) (OA : Sta Z Z.heap "java/lang/StringUTF16" "$assertionsDisabled" "Z" (.int 1)) (OH : Sta Z Z.heap "java/lang/StringUTF16" "HI_BYTE_SHIFT" "I" (.int 0)) (OL : Sta Z Z.heap "java/lang/StringUTF16" "LO_BYTE_SHIFT" "I" (.int 8)) (X00 : Old Z n0 h0) (V_b : Arv Z h0 b kc .char (2 : Int32) [(.int c0), (.int c1)] (.int (0 : Int32))) :
    MetFree l (⟨"java/lang/StringUTF16", "toBytes", "([CII)[B"⟩ : MethodName) (head1 (Jvm.Cond.code (⟨"java/lang/StringUTF16", "toBytes", "([CII)[B"⟩ : MethodName) jdk_52_method_14_code 5 (some (.array .byte)) :: ws) ({ frames := 2, cells := 1, slots := 6, locals := 24 } : Room)) (fun αs U => αs = #[(.ref b), (.int (0 : Int32)), (.int (2 : Int32))] ∧ Z.Warmed39 U.vm ∧ U.heap = h0) (fun _ _ _ _ _ => True) (fun _ U o U' => ∃ v L, o = .returned v ∧ Q_tb Z ([c0, c1] : List Int32) h0 n0 v U'.heap L ∧ FrameEnd U o U' L ({ frames := 2, cells := 1, slots := 6, locals := 24 } : Room).cells ({ frames := 2, cells := 1, slots := 6, locals := 24 } : Room).slots) := by
  refine MetFree.of_bodySF (plainFor_of_name pno_5) hisR ?_
  intro pP e s m args below meth cC s₁ Bd hml0 hP hK
  obtain ⟨rfl, hZ, hh⟩ := hP
  have hx := Bd.exec
  have hby := Bd.bytes
  have hml : cC.maxLocals = 5 := hml0
  have hown : s.vm.findClass "java/lang/StringUTF16" = some m.cls := findClass_of_methodNamed Bd.named
  have hnm := (name_of_methodNamed Bd.named Bd.method).1
  have X0 : Stand pP l e ({ frames := 2, cells := 1, slots := 6, locals := 24 } : Room) s m #[(.ref b), (.int (0 : Int32)), (.int (2 : Int32))] below meth cC s₁ [] 0 0 := Stand.of_body Bd
  have e0 : s₁.heap = h0 := by rw [← hh, Bd.state]; rfl
  have N0 := Fr.nil n0
  have KC0 : Keep h0 h0 [] := Keep.refl h0 _
  obtain ⟨A0, hA0⟩ : ∃ z, z = s₁.setTop (entryFrame m #[(.ref b), (.int (0 : Int32)), (.int (2 : Int32))] 5) := ⟨_, rfl⟩
  have pre0 : ∀ τ, Steps pP.tables e below (s₁.setTop (mkF m 0 #[.val (.ref b), .val (.int (0 : Int32)), .val (.int (2 : Int32)), .unset, .unset] [])) τ → Steps pP.tables e below A0 τ := fun τ κ => by rw [hA0]; exact castTop (ef_rm_tb_2 m b (0 : Int32) (2 : Int32)) κ
  obtain ⟨_, _, ⟨T101, L101, k101, n101⟩, -, X101, ⟨Lc101, hQ101, l101, y101, z101⟩, st101⟩ := Jvm.LawKit.callS X0 hx (y := (⟨"java/lang/StringUTF16", "newBytesFor", "(I)[B"⟩ : MethodName)) hown (mvT hZ (hw _ (List.mem_of_getElem? (i := 60) rfl))) (mvT hZ (hw _ (List.mem_of_getElem? (i := 61) rfl))) (mvT hZ (hw _ (List.mem_of_getElem? (i := 49) rfl))) (mvT hZ (hw _ (List.mem_of_getElem? (i := 62) rfl))) (by decide) (backOf (W := 0) (rm_nbf l Z a0 hw [] 2 h0 n0 Z0 (by decide)) hZ (hw _ (List.mem_of_getElem? (i := 62) rfl)) (hw _ (List.mem_of_getElem? (i := 49) rfl)) (by decide) (by decide)) (g := (mkF m 1 #[.val (.ref b), .val (.int (0 : Int32)), .val (.int (2 : Int32)), .unset, .unset] [(.int (2 : Int32))])) rfl (by rw [hml]; rfl) (argsL := [(.int (2 : Int32))]) (rest := []) (lenOf pdo_11 rfl) rfl (by show 2 * 0 + _ ≤ _; exact Nat.le_of_eq rfl) (hb hby d_rm_tb_2_1) (fun _ _ => ⟨rfl, e0, (by decide : 0 + 1 ≤ _), (by decide : 0 + 6 ≤ _)⟩)
  dsimp only [Pt.U, Pt.locs, Pt.cells, Pt.slots] at X101 l101 y101 z101 st101 hQ101
  subst l101 y101 z101
  obtain ⟨b101, kb101, rfl, Nq101, K101, lb101, V101a⟩ := hQ101
  have N101 := Fr.app N0 Nq101
  have pq102 : ∀ τ, Steps pP.tables e below (T101.setTop (mkF m 4 #[.val (.ref b), .val (.int (0 : Int32)), .val (.int (2 : Int32)), .unset, .unset] [(.ref b101)])) τ → Steps pP.tables e below A0 τ := by
    intro τ κ
    refine pre0 τ ?_
    refine XS.iloadN X0.here hx rfl (hb hby d_rm_tb_2_0) rfl ?_
    refine st101 _ ?_
    exact κ
  have KC101 : Keep h0 T101.heap [] := KC0.trans K101 all0
  have V101 : Arv Z T101.heap b101 kb101 .byte (Int32.ofNat (2 * 2)) ([] ++ List.replicate 6 (Value.int 0)) (.int 0) := V101a.pad (pad_rep _ _ 6)
  have f103 := (V_b.keep K101 nin0)
  obtain ⟨cl104, Ar104, q104, S104, M104, Hs104, G104⟩ := id f103
  have hin104 := inb_of (j := (0 : Int32)) S104 ⟨by decide, by decide⟩
  have f105 := (X00.keep K101 all0)
  have f106 := (Nat.le_trans Z0 K101.1)
  obtain ⟨_, _, ⟨T107, L107, k107, n107⟩, -, X107, ⟨Lc107, hQ107, l107, y107, z107⟩, st107⟩ := Jvm.LawKit.callS X101 hx (y := (⟨"java/lang/StringUTF16", "putChar", "([BII)V"⟩ : MethodName)) hown (mvT hZ (hw _ (List.mem_of_getElem? (i := 67) rfl))) (mvT hZ (hw _ (List.mem_of_getElem? (i := 68) rfl))) (mvT hZ (hw _ (List.mem_of_getElem? (i := 49) rfl))) (mvT hZ (hw _ (List.mem_of_getElem? (i := 69) rfl))) (by decide) (backOf (W := 0) (rm_upc l Z a0 hw [] b101 kb101 2 0 ([] ++ List.replicate 6 (Value.int 0)) c0 T101.heap n0 f106 OA OH OL f105 V101 (Nat.le_trans Z0 lb101) (by decide) (by decide) (by simp)) hZ (hw _ (List.mem_of_getElem? (i := 69) rfl)) (hw _ (List.mem_of_getElem? (i := 49) rfl)) (by decide) (by decide)) (g := (mkF m 20 #[.val (.ref b), .val (.int (0 : Int32)), .val (.int (2 : Int32)), .val (.ref b101), .val (.int (0 : Int32))] [(.int c0), (.int (0 : Int32)), (.ref b101)])) rfl (by rw [hml]; rfl) (argsL := [(.ref b101), (.int (0 : Int32)), (.int c0)]) (rest := []) (lenOf pdo_12 rfl) rfl (by show 2 * 0 + _ ≤ _; exact Nat.le_of_eq rfl) (hb hby d_rm_tb_2_20) (fun _ _ => ⟨rfl, rfl, (by decide : 1 + 0 ≤ _), (by decide : 6 + 0 ≤ _)⟩)
  dsimp only [Pt.U, Pt.locs, Pt.cells, Pt.slots] at X107 l107 y107 z107 st107 hQ107
  subst l107 y107 z107
  obtain ⟨rfl, Nq107, K107, V107⟩ := hQ107
  have N107 := Fr.app N101 Nq107
  have pq108 : ∀ τ, Steps pP.tables e below (T107.setTop (mkF m 23 #[.val (.ref b), .val (.int (0 : Int32)), .val (.int (2 : Int32)), .val (.ref b101), .val (.int (0 : Int32))] [])) τ → Steps pP.tables e below A0 τ := by
    intro τ κ
    refine pq102 τ ?_
    refine XS.astoreN X101.here hx rfl (hb hby d_rm_tb_2_4) rfl rfl (l' := #[.val (.ref b), .val (.int (0 : Int32)), .val (.int (2 : Int32)), .val (.ref b101), .unset]) rfl ?_
    refine XS.iconst X101.here hx rfl (hb hby d_rm_tb_2_5) ?_
    refine XS.istore X101.here hx rfl (hb hby d_rm_tb_2_6) rfl (l' := #[.val (.ref b), .val (.int (0 : Int32)), .val (.int (2 : Int32)), .val (.ref b101), .val (.int (0 : Int32))]) rfl ?_
    refine XS.iload X101.here hx rfl (hb hby d_rm_tb_2_8) rfl ?_
    refine XS.iloadN X101.here hx rfl (hb hby d_rm_tb_2_10) rfl ?_
    refine XS.icmpNo X101.here hx rfl (hb hby d_rm_tb_2_11) rfl (tlt (by decide : ((0 : Int32) < (2 : Int32)))).2.1 ?_
    refine XS.aloadN X101.here hx rfl (hb hby d_rm_tb_2_14) rfl rfl ?_
    refine XS.iload X101.here hx rfl (hb hby d_rm_tb_2_15) rfl ?_
    refine XS.aloadN X101.here hx rfl (hb hby d_rm_tb_2_17) rfl rfl ?_
    refine XS.iloadN X101.here hx rfl (hb hby d_rm_tb_2_18) rfl ?_
    refine X101.caload hx (j := (0 : Int32)) (v := (.int c0)) Ar104.1 (State.isArrayOf_alike hZ.alike Ar104.2.1) Ar104.2.2 hin104 (Has.at Hs104 hin104 rfl) (g := (mkF m 19 #[.val (.ref b), .val (.int (0 : Int32)), .val (.int (2 : Int32)), .val (.ref b101), .val (.int (0 : Int32))] [(.int (0 : Int32)), (.ref b), (.int (0 : Int32)), (.ref b101)])) rfl rfl (hb hby d_rm_tb_2_19) _ ?_
    refine st107 _ ?_
    exact κ
  have KC107 : Keep h0 T107.heap [] := KC101.trans K107 (allS (Or.inr (Nat.le_trans (Nat.le_refl _) lb101)) all0)
  have f109 := (f103.keep K107 (ninS (Nat.ne_of_lt (Nat.lt_of_lt_of_le V_b.lt lb101)) nin0))
  obtain ⟨cl110, Ar110, q110, S110, M110, Hs110, G110⟩ := id f109
  have hin110 := inb_of (j := (1 : Int32)) S110 ⟨by decide, by decide⟩
  have f111 := (f105.keep K107 (allS (Nat.le_trans Z0 lb101) all0))
  have f112 := (Nat.le_trans f106 K107.1)
  obtain ⟨_, _, ⟨T113, L113, k113, n113⟩, -, X113, ⟨Lc113, hQ113, l113, y113, z113⟩, st113⟩ := Jvm.LawKit.callS X107 hx (y := (⟨"java/lang/StringUTF16", "putChar", "([BII)V"⟩ : MethodName)) hown (mvT hZ (hw _ (List.mem_of_getElem? (i := 67) rfl))) (mvT hZ (hw _ (List.mem_of_getElem? (i := 68) rfl))) (mvT hZ (hw _ (List.mem_of_getElem? (i := 49) rfl))) (mvT hZ (hw _ (List.mem_of_getElem? (i := 69) rfl))) (by decide) (backOf (W := 0) (rm_upc l Z a0 hw [] b101 kb101 2 1 ((([] ++ List.replicate 6 (Value.int 0)).set (2 * 0) (.int (own_b c0 0))).set (2 * 0 + 1) (.int (own_b c0 8))) c1 T107.heap n0 f112 OA OH OL f111 V107 (Nat.le_trans Z0 lb101) (by decide) (by decide) (by simp)) hZ (hw _ (List.mem_of_getElem? (i := 69) rfl)) (hw _ (List.mem_of_getElem? (i := 49) rfl)) (by decide) (by decide)) (g := (mkF m 20 #[.val (.ref b), .val (.int (1 : Int32)), .val (.int (2 : Int32)), .val (.ref b101), .val (.int (1 : Int32))] [(.int c1), (.int (1 : Int32)), (.ref b101)])) rfl (by rw [hml]; rfl) (argsL := [(.ref b101), (.int (1 : Int32)), (.int c1)]) (rest := []) (lenOf pdo_12 rfl) rfl (by show 2 * 0 + _ ≤ _; exact Nat.le_of_eq rfl) (hb hby d_rm_tb_2_20) (fun _ _ => ⟨rfl, rfl, (by decide : 1 + 0 ≤ _), (by decide : 6 + 0 ≤ _)⟩)
  dsimp only [Pt.U, Pt.locs, Pt.cells, Pt.slots] at X113 l113 y113 z113 st113 hQ113
  subst l113 y113 z113
  obtain ⟨rfl, Nq113, K113, V113⟩ := hQ113
  have N113 := Fr.app N107 Nq113
  have pq114 : ∀ τ, Steps pP.tables e below (T113.setTop (mkF m 23 #[.val (.ref b), .val (.int (1 : Int32)), .val (.int (2 : Int32)), .val (.ref b101), .val (.int (1 : Int32))] [])) τ → Steps pP.tables e below A0 τ := by
    intro τ κ
    refine pq108 τ ?_
    refine XS.iinc X107.here hx rfl (hb hby d_rm_tb_2_23) rfl (l' := #[.val (.ref b), .val (.int (1 : Int32)), .val (.int (2 : Int32)), .val (.ref b101), .val (.int (0 : Int32))]) rfl ?_
    refine XS.iinc X107.here hx rfl (hb hby d_rm_tb_2_26) rfl (l' := #[.val (.ref b), .val (.int (1 : Int32)), .val (.int (2 : Int32)), .val (.ref b101), .val (.int (1 : Int32))]) rfl ?_
    refine XS.goto X107.here hx rfl (pc0 := 29) (pc' := 8) rfl (hb hby d_rm_tb_2_29) (by decide) (by decide) ?_
    refine XS.iload X107.here hx rfl (hb hby d_rm_tb_2_8) rfl ?_
    refine XS.iloadN X107.here hx rfl (hb hby d_rm_tb_2_10) rfl ?_
    refine XS.icmpNo X107.here hx rfl (hb hby d_rm_tb_2_11) rfl (tlt (by decide : ((1 : Int32) < (2 : Int32)))).2.1 ?_
    refine XS.aloadN X107.here hx rfl (hb hby d_rm_tb_2_14) rfl rfl ?_
    refine XS.iload X107.here hx rfl (hb hby d_rm_tb_2_15) rfl ?_
    refine XS.aloadN X107.here hx rfl (hb hby d_rm_tb_2_17) rfl rfl ?_
    refine XS.iloadN X107.here hx rfl (hb hby d_rm_tb_2_18) rfl ?_
    refine X107.caload hx (j := (1 : Int32)) (v := (.int c1)) Ar110.1 (State.isArrayOf_alike hZ.alike Ar110.2.1) Ar110.2.2 hin110 (Has.at Hs110 hin110 rfl) (g := (mkF m 19 #[.val (.ref b), .val (.int (1 : Int32)), .val (.int (2 : Int32)), .val (.ref b101), .val (.int (1 : Int32))] [(.int (1 : Int32)), (.ref b), (.int (1 : Int32)), (.ref b101)])) rfl rfl (hb hby d_rm_tb_2_19) _ ?_
    refine st113 _ ?_
    exact κ
  have KC113 : Keep h0 T113.heap [] := KC107.trans K113 (allS (Or.inr (Nat.le_trans (Nat.le_refl _) lb101)) all0)
  have hu115 : own_u16 ((((([] ++ List.replicate 6 (Value.int 0)).set (2 * 0) (.int (own_b c0 0))).set (2 * 0 + 1) (.int (own_b c0 8))).set (2 * 1) (.int (own_b c1 0))).set (2 * 1 + 1) (.int (own_b c1 8))) ([c0, c1] : List Int32) := by
    intro i hi
    have hi3 : i = 0 ∨ i = 1 := by have q : i < 2 := hi; omega
    rcases hi3 with rfl | rfl <;> exact ⟨rfl, rfl⟩
  obtain ⟨fs, hr, hrun, hended, hW, hsame⟩ := X113.leave (v := some (.ref b101)) (fun h => by rw [Bd.returns] at h; cases h)
  have pqE := pq114
  rw [hA0] at pqE
  refine ⟨_, _, pqE _ ?_, hrun, hended, _, _, rfl, ?_, ⟨_, rfl⟩, hW, hsame.mono (by decide) (by decide)⟩
  · refine XS.iinc X113.here hx rfl (hb hby d_rm_tb_2_23) rfl (l' := #[.val (.ref b), .val (.int (2 : Int32)), .val (.int (2 : Int32)), .val (.ref b101), .val (.int (1 : Int32))]) rfl ?_
    refine XS.iinc X113.here hx rfl (hb hby d_rm_tb_2_26) rfl (l' := #[.val (.ref b), .val (.int (2 : Int32)), .val (.int (2 : Int32)), .val (.ref b101), .val (.int (2 : Int32))]) rfl ?_
    refine XS.goto X113.here hx rfl (pc0 := 29) (pc' := 8) rfl (hb hby d_rm_tb_2_29) (by decide) (by decide) ?_
    refine XS.iload X113.here hx rfl (hb hby d_rm_tb_2_8) rfl ?_
    refine XS.iloadN X113.here hx rfl (hb hby d_rm_tb_2_10) rfl ?_
    refine XS.icmpYes X113.here hx rfl (pc0 := 11) (pc' := 32) rfl (hb hby d_rm_tb_2_11) rfl (flt (by decide : ¬ ((2 : Int32) < (2 : Int32)))).2.1 (by decide) (by decide) ?_
    refine XS.aloadN X113.here hx rfl (hb hby d_rm_tb_2_32) rfl rfl ?_
    show Steps pP.tables e below (T113.setTop (mkF m 33 #[.val (.ref b), .val (.int (2 : Int32)), .val (.int (2 : Int32)), .val (.ref b101), .val (.int (2 : Int32))] [(.ref b101)])) _
    exact retOut X113 hx Bd.returns rfl (Or.inr (Or.inr (Or.inr (Or.inr ⟨rfl, rfl, rfl⟩)))) (hb hby d_rm_tb_2_33) hr
  · show Q_tb Z ([c0, c1] : List Int32) h0 n0 _ T113.heap _
    exact ⟨b101, _, _, rfl, N113, KC113, (Nat.le_trans (Nat.le_refl _) lb101), V113, hu115⟩
theorem d_rm_c3_2_0 : decode jdk_52_method_16_code 0 = .ok (.iload_n 2, 1) := by decide +kernel
theorem d_rm_c3_2_1 : decode jdk_52_method_16_code 1 = .ok (.newarray .byte, 2) := by decide +kernel
theorem d_rm_c3_2_3 : decode jdk_52_method_16_code 3 = .ok (.astore_n 3, 1) := by decide +kernel
theorem d_rm_c3_2_4 : decode jdk_52_method_16_code 4 = .ok (.aload_n 0, 1) := by decide +kernel
theorem d_rm_c3_2_5 : decode jdk_52_method_16_code 5 = .ok (.iload_n 1, 1) := by decide +kernel
theorem d_rm_c3_2_6 : decode jdk_52_method_16_code 6 = .ok (.aload_n 3, 1) := by decide +kernel
theorem d_rm_c3_2_7 : decode jdk_52_method_16_code 7 = .ok (.iconst 0, 1) := by decide +kernel
theorem d_rm_c3_2_8 : decode jdk_52_method_16_code 8 = .ok (.iload_n 2, 1) := by decide +kernel
theorem d_rm_c3_2_9 : decode jdk_52_method_16_code 9 = .ok (.invokestatic 115, 3) := by decide +kernel
theorem d_rm_c3_2_12 : decode jdk_52_method_16_code 12 = .ok (.istore 4, 2) := by decide +kernel
theorem d_rm_c3_2_14 : decode jdk_52_method_16_code 14 = .ok (.iload 4, 2) := by decide +kernel
theorem d_rm_c3_2_16 : decode jdk_52_method_16_code 16 = .ok (.iload_n 2, 1) := by decide +kernel
theorem d_rm_c3_2_17 : decode jdk_52_method_16_code 17 = .ok (.if_icmp .eq 40, 3) := by decide +kernel
theorem d_rm_c3_2_20 : decode jdk_52_method_16_code 20 = .ok (.aload_n 0, 1) := by decide +kernel
theorem d_rm_c3_2_21 : decode jdk_52_method_16_code 21 = .ok (.iload_n 1, 1) := by decide +kernel
theorem d_rm_c3_2_22 : decode jdk_52_method_16_code 22 = .ok (.iload_n 2, 1) := by decide +kernel
theorem d_rm_c3_2_23 : decode jdk_52_method_16_code 23 = .ok (.invokestatic 119, 3) := by decide +kernel
theorem d_rm_c3_2_26 : decode jdk_52_method_16_code 26 = .ok (.astore 5, 2) := by decide +kernel
theorem d_rm_c3_2_28 : decode jdk_52_method_16_code 28 = .ok (.aload 5, 2) := by decide +kernel
theorem d_rm_c3_2_30 : decode jdk_52_method_16_code 30 = .ok (.iload 4, 2) := by decide +kernel
theorem d_rm_c3_2_32 : decode jdk_52_method_16_code 32 = .ok (.invokestatic 71, 3) := by decide +kernel
theorem d_rm_c3_2_35 : decode jdk_52_method_16_code 35 = .ok (.sipush 255, 3) := by decide +kernel
theorem d_rm_c3_2_38 : decode jdk_52_method_16_code 38 = .ok (.if_icmp .gt 16, 3) := by decide +kernel
theorem d_rm_c3_2_54 : decode jdk_52_method_16_code 54 = .ok (.aload 5, 2) := by decide +kernel
theorem d_rm_c3_2_56 : decode jdk_52_method_16_code 56 = .ok (.areturn, 1) := by decide +kernel
theorem ef_rm_c3_2 (m : MethodId) (x0 : Addr) (x1 : Int32) (x2 : Int32) : entryFrame m #[(.ref x0), (.int x1), (.int x2)] 6 = mkF m 0 #[.val (.ref x0), .val (.int x1), .val (.int x2), .unset, .unset, .unset] [] := by first | (simp [entryFrame, mkF, argsToLocals, Value.category]; done) | rfl
set_option maxRecDepth 65536 in
set_option maxHeartbeats 3000000 in
theorem rm_c3_2 (l : Launch) (Z : State) (a0 : Array Value) (hw : ∀ d ∈ tables_1, d.before a0 Z = true) (ws : List Jvm.Cond) (b : Addr) (kc : ClassId) (c0 c1 : Int32) (h0 : Heap) (n0 : Nat) (Z0 : n0 ≤ h0.size) (OA : Sta Z Z.heap "java/lang/StringUTF16" "$assertionsDisabled" "Z" (.int 1)) (OH : Sta Z Z.heap "java/lang/StringUTF16" "HI_BYTE_SHIFT" "I" (.int 0)) (OL : Sta Z Z.heap "java/lang/StringUTF16" "LO_BYTE_SHIFT" "I" (.int 8)) (X00 : Old Z n0 h0) (V_b : Arv Z h0 b kc .char (2 : Int32) [(.int c0), (.int c1)] (.int (0 : Int32))) (hbad : ¬ ∀ c ∈ ([c0, c1] : List Int32), ¬ (255 : Int32) < c) (hB : ∀ c ∈ ([c0, c1] : List Int32), ¬ c < 0 ∧ ¬ (65535 : Int32) < c) :
    MetFree l (⟨"java/lang/StringUTF16", "compress", "([CII)[B"⟩ : MethodName) (head1 (Jvm.Cond.code (⟨"java/lang/StringUTF16", "compress", "([CII)[B"⟩ : MethodName) jdk_52_method_16_code 6 (some (.array .byte)) :: ws) ({ frames := 3, cells := 2, slots := 8, locals := 40 } : Room)) (fun αs U => αs = #[(.ref b), (.int (0 : Int32)), (.int (2 : Int32))] ∧ Z.Warmed39 U.vm ∧ U.heap = h0) (fun _ _ _ _ _ => True) (fun _ U o U' => ∃ v L, o = .returned v ∧ Q_tb Z ([c0, c1] : List Int32) h0 n0 v U'.heap L ∧ FrameEnd U o U' L ({ frames := 3, cells := 2, slots := 8, locals := 40 } : Room).cells ({ frames := 3, cells := 2, slots := 8, locals := 40 } : Room).slots) := by
  refine MetFree.of_bodySF (plainFor_of_name pno_5) hisR ?_
  intro pP e s m args below meth cC s₁ Bd hml0 hP hK
  obtain ⟨rfl, hZ, hh⟩ := hP
  have hx := Bd.exec
  have hby := Bd.bytes
  have hml : cC.maxLocals = 6 := hml0
  have hown : s.vm.findClass "java/lang/StringUTF16" = some m.cls := findClass_of_methodNamed Bd.named
  have hnm := (name_of_methodNamed Bd.named Bd.method).1
  have X0 : Stand pP l e ({ frames := 3, cells := 2, slots := 8, locals := 40 } : Room) s m #[(.ref b), (.int (0 : Int32)), (.int (2 : Int32))] below meth cC s₁ [] 0 0 := Stand.of_body Bd
  have e0 : s₁.heap = h0 := by rw [← hh, Bd.state]; rfl
  have N0 := Fr.nil n0
  have KC0 : Keep h0 h0 [] := Keep.refl h0 _
  obtain ⟨A0, hA0⟩ : ∃ z, z = s₁.setTop (entryFrame m #[(.ref b), (.int (0 : Int32)), (.int (2 : Int32))] 6) := ⟨_, rfl⟩
  have pre0 : ∀ τ, Steps pP.tables e below (s₁.setTop (mkF m 0 #[.val (.ref b), .val (.int (0 : Int32)), .val (.int (2 : Int32)), .unset, .unset, .unset] [])) τ → Steps pP.tables e below A0 τ := fun τ κ => by rw [hA0]; exact castTop (ef_rm_c3_2 m b (0 : Int32) (2 : Int32)) κ
  obtain ⟨T101, h101, k101, X101, e101, E101, A101, st101⟩ := newP X0 hx hZ (hw _ (List.mem_of_getElem? (i := 25) rfl)) e0 (g := (mkF m 1 #[.val (.ref b), .val (.int (0 : Int32)), .val (.int (2 : Int32)), .unset, .unset, .unset] [(.int (2 : Int32))])) rfl (hb hby d_rm_c3_2_1) rfl (by decide) (cap := 2) (by decide) (by decide) (by decide) (by decide)
  obtain ⟨b101, g101⟩ : ∃ z, z = h0.size := ⟨_, rfl⟩
  rw [← g101] at A101 st101
  have pq102 : ∀ τ, Steps pP.tables e below (T101.setTop (mkF m 3 #[.val (.ref b), .val (.int (0 : Int32)), .val (.int (2 : Int32)), .unset, .unset, .unset] [(.ref b101)])) τ → Steps pP.tables e below A0 τ := by
    intro τ κ
    refine pre0 τ ?_
    refine XS.iloadN X0.here hx rfl (hb hby d_rm_c3_2_0) rfl ?_
    refine st101 _ ?_
    exact κ
  have KC101 : Keep h0 h101 [] := KC0.ext E101
  have V101 : Arv Z h101 b101 k101 .byte (2 : Int32) [(.int (0 : Int32)), (.int (0 : Int32))] (.int (0 : Int32)) := (Arv.new A101 (by decide)).pad (pad_rep [] (.int (0 : Int32)) 2)
  have f103 := (V_b.ext E101)
  have f104 := (Nat.le_trans Z0 E101.1)
  obtain ⟨_, _, ⟨T105, L105, k105, n105⟩, -, X105, ⟨Lc105, hQ105, l105, y105, z105⟩, st105⟩ := Jvm.LawKit.callS X101 hx (y := (⟨"java/lang/StringUTF16", "compress", "([CI[BII)I"⟩ : MethodName)) hown (mvT hZ (hw _ (List.mem_of_getElem? (i := 51) rfl))) (mvT hZ (hw _ (List.mem_of_getElem? (i := 52) rfl))) (mvT hZ (hw _ (List.mem_of_getElem? (i := 49) rfl))) (mvT hZ (hw _ (List.mem_of_getElem? (i := 53) rfl))) (by decide) (backOf (W := 0) (rm_c5_2 l Z a0 hw [] b b101 kc k101 c0 c1 h101 n0 f104 f103 V101 (Nat.le_trans Z0 (Nat.le_of_eq g101.symm)) (Nat.ne_of_lt (Nat.lt_of_lt_of_le V_b.lt (Nat.le_of_eq g101.symm))) hbad) hZ (hw _ (List.mem_of_getElem? (i := 53) rfl)) (hw _ (List.mem_of_getElem? (i := 49) rfl)) (by decide) (by decide)) (g := (mkF m 9 #[.val (.ref b), .val (.int (0 : Int32)), .val (.int (2 : Int32)), .val (.ref b101), .unset, .unset] [(.int (2 : Int32)), (.int (0 : Int32)), (.ref b101), (.int (0 : Int32)), (.ref b)])) rfl (by rw [hml]; rfl) (argsL := [(.ref b), (.int (0 : Int32)), (.ref b101), (.int (0 : Int32)), (.int (2 : Int32))]) (rest := []) (lenOf pdo_13 rfl) rfl (by show 2 * 0 + _ ≤ _; exact Nat.le_of_eq rfl) (hb hby d_rm_c3_2_9) (fun _ _ => ⟨rfl, e101, (by decide : 1 + 0 ≤ _), (by decide : 2 + 0 ≤ _)⟩)
  dsimp only [Pt.U, Pt.locs, Pt.cells, Pt.slots] at X105 l105 y105 z105 st105 hQ105
  subst l105 y105 z105
  obtain ⟨j105, rfl, hj105, gj105, Nq105, K105⟩ := hQ105
  have N105 := Fr.app N0 Nq105
  have pq106 : ∀ τ, Steps pP.tables e below (T105.setTop (mkF m 12 #[.val (.ref b), .val (.int (0 : Int32)), .val (.int (2 : Int32)), .val (.ref b101), .unset, .unset] [(.int (Int32.ofNat j105))])) τ → Steps pP.tables e below A0 τ := by
    intro τ κ
    refine pq102 τ ?_
    refine XS.astoreN X101.here hx rfl (hb hby d_rm_c3_2_3) rfl rfl (l' := #[.val (.ref b), .val (.int (0 : Int32)), .val (.int (2 : Int32)), .val (.ref b101), .unset, .unset]) rfl ?_
    refine XS.aloadN X101.here hx rfl (hb hby d_rm_c3_2_4) rfl rfl ?_
    refine XS.iloadN X101.here hx rfl (hb hby d_rm_c3_2_5) rfl ?_
    refine XS.aloadN X101.here hx rfl (hb hby d_rm_c3_2_6) rfl rfl ?_
    refine XS.iconst X101.here hx rfl (hb hby d_rm_c3_2_7) ?_
    refine XS.iloadN X101.here hx rfl (hb hby d_rm_c3_2_8) rfl ?_
    refine st105 _ ?_
    exact κ
  have KC105 : Keep h0 T105.heap [] := KC101.trans K105 (allS (Or.inr (Nat.le_trans (Nat.le_refl _) (Nat.le_of_eq g101.symm))) all0)
  have f107 := ((X00.ext E101).keep K105 (allS (Nat.le_trans Z0 (Nat.le_of_eq g101.symm)) all0))
  have f108 := (f103.keep K105 (ninS (Nat.ne_of_lt (Nat.lt_of_lt_of_le V_b.lt (Nat.le_of_eq g101.symm))) nin0))
  have f109 := (Nat.le_trans f104 K105.1)
  obtain ⟨_, _, ⟨T110, L110, k110, n110⟩, -, X110, ⟨Lc110, hQ110, l110, y110, z110⟩, st110⟩ := Jvm.LawKit.callS X105 hx (y := (⟨"java/lang/StringUTF16", "toBytes", "([CII)[B"⟩ : MethodName)) hown (mvT hZ (hw _ (List.mem_of_getElem? (i := 57) rfl))) (mvT hZ (hw _ (List.mem_of_getElem? (i := 58) rfl))) (mvT hZ (hw _ (List.mem_of_getElem? (i := 49) rfl))) (mvT hZ (hw _ (List.mem_of_getElem? (i := 59) rfl))) (by decide) (backOf (W := 0) (rm_tb_2 l Z a0 hw [] b kc c0 c1 T105.heap n0 f109 OA OH OL f107 f108) hZ (hw _ (List.mem_of_getElem? (i := 59) rfl)) (hw _ (List.mem_of_getElem? (i := 49) rfl)) (by decide) (by decide)) (g := (mkF m 23 #[.val (.ref b), .val (.int (0 : Int32)), .val (.int (2 : Int32)), .val (.ref b101), .val (.int (Int32.ofNat j105)), .unset] [(.int (2 : Int32)), (.int (0 : Int32)), (.ref b)])) rfl (by rw [hml]; rfl) (argsL := [(.ref b), (.int (0 : Int32)), (.int (2 : Int32))]) (rest := []) (lenOf pdo_14 rfl) rfl (by show 2 * 0 + _ ≤ _; exact Nat.le_of_eq rfl) (hb hby d_rm_c3_2_23) (fun _ _ => ⟨rfl, rfl, (by decide : 1 + 1 ≤ _), (by decide : 2 + 6 ≤ _)⟩)
  dsimp only [Pt.U, Pt.locs, Pt.cells, Pt.slots] at X110 l110 y110 z110 st110 hQ110
  subst l110 y110 z110
  obtain ⟨u110, ku110, vs110, rfl, Nq110, K110, lb110, V110, hu110⟩ := hQ110
  have N110 := Fr.app N105 Nq110
  have pq111 : ∀ τ, Steps pP.tables e below (T110.setTop (mkF m 26 #[.val (.ref b), .val (.int (0 : Int32)), .val (.int (2 : Int32)), .val (.ref b101), .val (.int (Int32.ofNat j105)), .unset] [(.ref u110)])) τ → Steps pP.tables e below A0 τ := by
    intro τ κ
    refine pq106 τ ?_
    refine XS.istore X105.here hx rfl (hb hby d_rm_c3_2_12) rfl (l' := #[.val (.ref b), .val (.int (0 : Int32)), .val (.int (2 : Int32)), .val (.ref b101), .val (.int (Int32.ofNat j105)), .unset]) rfl ?_
    refine XS.iload X105.here hx rfl (hb hby d_rm_c3_2_14) rfl ?_
    refine XS.iloadN X105.here hx rfl (hb hby d_rm_c3_2_16) rfl ?_
    refine XS.icmpNo X105.here hx rfl (hb hby d_rm_c3_2_17) rfl (feq (own_nej (n := 2) hj105 (by decide))).1 ?_
    refine XS.aloadN X105.here hx rfl (hb hby d_rm_c3_2_20) rfl rfl ?_
    refine XS.iloadN X105.here hx rfl (hb hby d_rm_c3_2_21) rfl ?_
    refine XS.iloadN X105.here hx rfl (hb hby d_rm_c3_2_22) rfl ?_
    refine st110 _ ?_
    exact κ
  have KC110 : Keep h0 T110.heap [] := KC105.trans K110 all0
  have f112 := (f107.keep K110 all0)
  have f113 := (Nat.le_trans f109 K110.1)
  obtain ⟨_, _, ⟨T114, L114, k114, n114⟩, -, X114, ⟨Lc114, hQ114, l114, y114, z114⟩, st114⟩ := Jvm.LawKit.callS X110 hx (y := (⟨"java/lang/StringUTF16", "getChar", "([BI)C"⟩ : MethodName)) hown (mvT hZ (hw _ (List.mem_of_getElem? (i := 73) rfl))) (mvT hZ (hw _ (List.mem_of_getElem? (i := 74) rfl))) (mvT hZ (hw _ (List.mem_of_getElem? (i := 49) rfl))) (mvT hZ (hw _ (List.mem_of_getElem? (i := 75) rfl))) (by decide) (backOf (W := 0) (rm_uget l Z a0 hw [] u110 ku110 ([c0, c1] : List Int32) vs110 j105 T110.heap n0 f113 OA OH OL f112 V110 hu110 hB (by simp) hj105) hZ (hw _ (List.mem_of_getElem? (i := 75) rfl)) (hw _ (List.mem_of_getElem? (i := 49) rfl)) (by decide) (by decide)) (g := (mkF m 32 #[.val (.ref b), .val (.int (0 : Int32)), .val (.int (2 : Int32)), .val (.ref b101), .val (.int (Int32.ofNat j105)), .val (.ref u110)] [(.int (Int32.ofNat j105)), (.ref u110)])) rfl (by rw [hml]; rfl) (argsL := [(.ref u110), (.int (Int32.ofNat j105))]) (rest := []) (lenOf pdo_5 rfl) rfl (by show 2 * 0 + _ ≤ _; exact Nat.le_of_eq rfl) (hb hby d_rm_c3_2_32) (fun _ _ => ⟨rfl, rfl, (by decide : 2 + 0 ≤ _), (by decide : 8 + 0 ≤ _)⟩)
  dsimp only [Pt.U, Pt.locs, Pt.cells, Pt.slots] at X114 l114 y114 z114 st114 hQ114
  subst l114 y114 z114
  obtain ⟨rfl, Nq114, eq114⟩ := hQ114
  have N114 := Fr.app N110 Nq114
  have pq115 : ∀ τ, Steps pP.tables e below (T114.setTop (mkF m 35 #[.val (.ref b), .val (.int (0 : Int32)), .val (.int (2 : Int32)), .val (.ref b101), .val (.int (Int32.ofNat j105)), .val (.ref u110)] [(.int (([c0, c1] : List Int32).getD j105 0))])) τ → Steps pP.tables e below A0 τ := by
    intro τ κ
    refine pq111 τ ?_
    refine XS.astore X110.here hx rfl (hb hby d_rm_c3_2_26) rfl rfl (l' := #[.val (.ref b), .val (.int (0 : Int32)), .val (.int (2 : Int32)), .val (.ref b101), .val (.int (Int32.ofNat j105)), .val (.ref u110)]) rfl ?_
    refine XS.aload X110.here hx rfl (hb hby d_rm_c3_2_28) rfl rfl ?_
    refine XS.iload X110.here hx rfl (hb hby d_rm_c3_2_30) rfl ?_
    refine st114 _ ?_
    exact κ
  obtain ⟨fs, hr, hrun, hended, hW, hsame⟩ := X114.leave (v := some (.ref u110)) (fun h => by rw [Bd.returns] at h; cases h)
  have pqE := pq115
  rw [hA0] at pqE
  refine ⟨_, _, pqE _ ?_, hrun, hended, _, _, rfl, ?_, ⟨_, rfl⟩, hW, hsame.mono (by decide) (by decide)⟩
  · refine XS.sipush X114.here hx rfl (hb hby d_rm_c3_2_35) ?_
    refine XS.icmpYes X114.here hx rfl (pc0 := 38) (pc' := 54) rfl (hb hby d_rm_c3_2_38) rfl (tlt gj105).2.2.1 (by decide) (by decide) ?_
    refine XS.aload X114.here hx rfl (hb hby d_rm_c3_2_54) rfl rfl ?_
    show Steps pP.tables e below (T114.setTop (mkF m 56 #[.val (.ref b), .val (.int (0 : Int32)), .val (.int (2 : Int32)), .val (.ref b101), .val (.int (Int32.ofNat j105)), .val (.ref u110)] [(.ref u110)])) _
    exact retOut X114 hx Bd.returns rfl (Or.inr (Or.inr (Or.inr (Or.inr ⟨rfl, rfl, rfl⟩)))) (hb hby d_rm_c3_2_56) hr
  · show Q_tb Z ([c0, c1] : List Int32) h0 n0 _ T114.heap _
    rw [eq114]
    exact ⟨u110, _, _, rfl, N114, KC110, (Nat.le_trans (Nat.le_trans (Nat.le_trans (Nat.le_refl _) E101.1) K105.1) lb110), V110, hu110⟩
theorem d_rm_i4_2_0 : decode jdk_42_method_149_code 0 = .ok (.aload_n 0, 1) := by decide +kernel
theorem d_rm_i4_2_1 : decode jdk_42_method_149_code 1 = .ok (.invokespecial 1, 3) := by decide +kernel
theorem d_rm_i4_2_4 : decode jdk_42_method_149_code 4 = .ok (.iload_n 3, 1) := by decide +kernel
theorem d_rm_i4_2_5 : decode jdk_42_method_149_code 5 = .ok (.ifCond .ne 22, 3) := by decide +kernel
theorem d_rm_i4_2_27 : decode jdk_42_method_149_code 27 = .ok (.getstatic 38, 3) := by decide +kernel
theorem d_rm_i4_2_30 : decode jdk_42_method_149_code 30 = .ok (.ifCond .eq 28, 3) := by decide +kernel
theorem d_rm_i4_2_33 : decode jdk_42_method_149_code 33 = .ok (.aload_n 1, 1) := by decide +kernel
theorem d_rm_i4_2_34 : decode jdk_42_method_149_code 34 = .ok (.iload_n 2, 1) := by decide +kernel
theorem d_rm_i4_2_35 : decode jdk_42_method_149_code 35 = .ok (.iload_n 3, 1) := by decide +kernel
theorem d_rm_i4_2_36 : decode jdk_42_method_149_code 36 = .ok (.invokestatic 177, 3) := by decide +kernel
theorem d_rm_i4_2_39 : decode jdk_42_method_149_code 39 = .ok (.astore 5, 2) := by decide +kernel
theorem d_rm_i4_2_41 : decode jdk_42_method_149_code 41 = .ok (.aload_n 0, 1) := by decide +kernel
theorem d_rm_i4_2_42 : decode jdk_42_method_149_code 42 = .ok (.aload 5, 2) := by decide +kernel
theorem d_rm_i4_2_44 : decode jdk_42_method_149_code 44 = .ok (.iload_n 3, 1) := by decide +kernel
theorem d_rm_i4_2_45 : decode jdk_42_method_149_code 45 = .ok (.invokestatic 47, 3) := by decide +kernel
theorem d_rm_i4_2_48 : decode jdk_42_method_149_code 48 = .ok (.putfield 15, 3) := by decide +kernel
theorem d_rm_i4_2_51 : decode jdk_42_method_149_code 51 = .ok (.aload_n 0, 1) := by decide +kernel
theorem d_rm_i4_2_52 : decode jdk_42_method_149_code 52 = .ok (.aload 5, 2) := by decide +kernel
theorem d_rm_i4_2_54 : decode jdk_42_method_149_code 54 = .ok (.putfield 9, 3) := by decide +kernel
theorem d_rm_i4_2_57 : decode jdk_42_method_149_code 57 = .ok (.return_, 1) := by decide +kernel
theorem ef_rm_i4_2 (m : MethodId) (x0 : Addr) (x1 : Addr) (x2 : Int32) (x3 : Int32) : entryFrame m #[(.ref x0), (.ref x1), (.int x2), (.int x3), .null] 6 = mkF m 0 #[.val (.ref x0), .val (.ref x1), .val (.int x2), .val (.int x3), .val .null, .unset] [] := by first | (simp [entryFrame, mkF, argsToLocals, Value.category]; done) | rfl
set_option maxRecDepth 65536 in
set_option maxHeartbeats 3000000 in
theorem rm_i4_2 (l : Launch) (Z : State) (a0 : Array Value) (hw : ∀ d ∈ tables_1, d.before a0 Z = true) (ws : List Jvm.Cond) (a b : Addr) (kc : ClassId) (c0 c1 : Int32) (G1 : Int32) (h0 : Heap) (n0 : Nat) (Z0 : n0 ≤ h0.size) (O2 : Sta Z Z.heap "java/lang/String" "COMPACT_STRINGS" "Z" (.int G1)) (P5 : ¬ (G1 = (0 : Int32))) (X00 : Old Z n0 h0) (OA : Sta Z Z.heap "java/lang/StringUTF16" "$assertionsDisabled" "Z" (.int 1)) (OH : Sta Z Z.heap "java/lang/StringUTF16" "HI_BYTE_SHIFT" "I" (.int 0)) (OL : Sta Z Z.heap "java/lang/StringUTF16" "LO_BYTE_SHIFT" "I" (.int 8)) (E_a : Exa Z h0 a "java/lang/String") (ga : n0 ≤ a) (F_value : Fld Z h0 a "java/lang/String" "value" "[B" .null) (F_coder : Fld Z h0 a "java/lang/String" "coder" "B" (.int (0 : Int32))) (V_b : Arv Z h0 b kc .char (2 : Int32) [(.int c0), (.int c1)] (.int (0 : Int32))) (hbad : ¬ ∀ c ∈ ([c0, c1] : List Int32), ¬ (255 : Int32) < c) (hB : ∀ c ∈ ([c0, c1] : List Int32), ¬ c < 0 ∧ ¬ (65535 : Int32) < c) :
    MetFree l (⟨"java/lang/String", "<init>", "([CIILjava/lang/Void;)V"⟩ : MethodName) (head1 (Jvm.Cond.code (⟨"java/lang/String", "<init>", "([CIILjava/lang/Void;)V"⟩ : MethodName) jdk_42_method_149_code 6 none :: ws) ({ frames := 4, cells := 2, slots := 8, locals := 57 } : Room)) (fun αs U => αs = #[(.ref a), (.ref b), (.int (0 : Int32)), (.int (2 : Int32)), .null] ∧ Z.Warmed39 U.vm ∧ U.heap = h0) (fun _ _ _ _ _ => True) (fun _ U o U' => ∃ v L, o = .returned v ∧ Q_new Z a ([c0, c1] : List Int32) h0 n0 v U'.heap L ∧ FrameEnd U o U' L ({ frames := 4, cells := 2, slots := 8, locals := 57 } : Room).cells ({ frames := 4, cells := 2, slots := 8, locals := 57 } : Room).slots) := by
  refine MetFree.of_bodySF (plainFor_of_name pno_2) hisR ?_
  intro pP e s m args below meth cC s₁ Bd hml0 hP hK
  obtain ⟨rfl, hZ, hh⟩ := hP
  have hx := Bd.exec
  have hby := Bd.bytes
  have hml : cC.maxLocals = 6 := hml0
  have hown : s.vm.findClass "java/lang/String" = some m.cls := findClass_of_methodNamed Bd.named
  have hnm := (name_of_methodNamed Bd.named Bd.method).1
  have X0 : Stand pP l e ({ frames := 4, cells := 2, slots := 8, locals := 57 } : Room) s m #[(.ref a), (.ref b), (.int (0 : Int32)), (.int (2 : Int32)), .null] below meth cC s₁ [] 0 0 := Stand.of_body Bd
  have e0 : s₁.heap = h0 := by rw [← hh, Bd.state]; rfl
  have N0 := Fr.nil n0
  have KC0 : Keep h0 h0 [a] := Keep.refl h0 _
  obtain ⟨A0, hA0⟩ : ∃ z, z = s₁.setTop (entryFrame m #[(.ref a), (.ref b), (.int (0 : Int32)), (.int (2 : Int32)), .null] 6) := ⟨_, rfl⟩
  have pre0 : ∀ τ, Steps pP.tables e below (s₁.setTop (mkF m 0 #[.val (.ref a), .val (.ref b), .val (.int (0 : Int32)), .val (.int (2 : Int32)), .val .null, .unset] [])) τ → Steps pP.tables e below A0 τ := fun τ κ => by rw [hA0]; exact castTop (ef_rm_i4_2 m a b (0 : Int32) (2 : Int32)) κ
  obtain ⟨T101, X101, e101, st101⟩ := initO X0 hx hZ hown (hw _ (List.mem_of_getElem? (i := 21) rfl)) (hw _ (List.mem_of_getElem? (i := 22) rfl)) (hw _ (List.mem_of_getElem? (i := 23) rfl)) e0 (g := (mkF m 1 #[.val (.ref a), .val (.ref b), .val (.int (0 : Int32)), .val (.int (2 : Int32)), .val .null, .unset] [(.ref a)])) rfl (by rw [hml]; rfl) rfl (hb hby d_rm_i4_2_1) (by decide) (W := 0) (by show 2 * 0 + _ ≤ _; exact Nat.le_of_eq rfl) (by decide)
  have pq102 : ∀ τ, Steps pP.tables e below (T101.setTop (mkF m 4 #[.val (.ref a), .val (.ref b), .val (.int (0 : Int32)), .val (.int (2 : Int32)), .val .null, .unset] [])) τ → Steps pP.tables e below A0 τ := by
    intro τ κ
    refine pre0 τ ?_
    refine XS.aloadN X0.here hx rfl (hb hby d_rm_i4_2_0) rfl rfl ?_
    refine st101 _ ?_
    exact κ
  obtain ⟨T103, X103, e103, st103⟩ := getS2 X101 hx hZ hown (host := "") (Or.inl (hw _ (List.mem_of_getElem? (i := 46) rfl))) Via.refl e101 (O2.ext X00.2) (g := (mkF m 27 #[.val (.ref a), .val (.ref b), .val (.int (0 : Int32)), .val (.int (2 : Int32)), .val .null, .unset] [])) rfl (hb hby d_rm_i4_2_27)
  have pq104 : ∀ τ, Steps pP.tables e below (T103.setTop (mkF m 30 #[.val (.ref a), .val (.ref b), .val (.int (0 : Int32)), .val (.int (2 : Int32)), .val .null, .unset] [(.int G1)])) τ → Steps pP.tables e below A0 τ := by
    intro τ κ
    refine pq102 τ ?_
    refine XS.iloadN X101.here hx rfl (hb hby d_rm_i4_2_4) rfl ?_
    refine XS.ifYes X101.here hx rfl (pc0 := 5) (pc' := 27) rfl (hb hby d_rm_i4_2_5) rfl ((if0 _ _).trans (feq (by decide : ¬ ((2 : Int32) = (0 : Int32)))).2) (by decide) (by decide) ?_
    refine st103 _ ?_
    exact κ
  obtain ⟨_, _, ⟨T105, L105, k105, n105⟩, -, X105, ⟨Lc105, hQ105, l105, y105, z105⟩, st105⟩ := Jvm.LawKit.callS X103 hx (y := (⟨"java/lang/StringUTF16", "compress", "([CII)[B"⟩ : MethodName)) hown (mvT hZ (hw _ (List.mem_of_getElem? (i := 47) rfl))) (mvT hZ (hw _ (List.mem_of_getElem? (i := 48) rfl))) (mvT hZ (hw _ (List.mem_of_getElem? (i := 49) rfl))) (mvT hZ (hw _ (List.mem_of_getElem? (i := 50) rfl))) (by decide) (backOf (W := 0) (rm_c3_2 l Z a0 hw [] b kc c0 c1 h0 n0 Z0 OA OH OL X00 V_b hbad hB) hZ (hw _ (List.mem_of_getElem? (i := 50) rfl)) (hw _ (List.mem_of_getElem? (i := 49) rfl)) (by decide) (by decide)) (g := (mkF m 36 #[.val (.ref a), .val (.ref b), .val (.int (0 : Int32)), .val (.int (2 : Int32)), .val .null, .unset] [(.int (2 : Int32)), (.int (0 : Int32)), (.ref b)])) rfl (by rw [hml]; rfl) (argsL := [(.ref b), (.int (0 : Int32)), (.int (2 : Int32))]) (rest := []) (lenOf pdo_14 rfl) rfl (by show 2 * 0 + _ ≤ _; exact Nat.le_of_eq rfl) (hb hby d_rm_i4_2_36) (fun _ _ => ⟨rfl, e103, (by decide : 0 + 2 ≤ _), (by decide : 0 + 8 ≤ _)⟩)
  dsimp only [Pt.U, Pt.locs, Pt.cells, Pt.slots] at X105 l105 y105 z105 st105 hQ105
  subst l105 y105 z105
  obtain ⟨u105, ku105, vs105, rfl, Nq105, K105, lb105, V105, hu105⟩ := hQ105
  have N105 := Fr.app N0 Nq105
  have pq106 : ∀ τ, Steps pP.tables e below (T105.setTop (mkF m 39 #[.val (.ref a), .val (.ref b), .val (.int (0 : Int32)), .val (.int (2 : Int32)), .val .null, .unset] [(.ref u105)])) τ → Steps pP.tables e below A0 τ := by
    intro τ κ
    refine pq104 τ ?_
    refine XS.ifNo X103.here hx rfl (hb hby d_rm_i4_2_30) rfl ((if0 _ _).trans (feq P5).1) ?_
    refine XS.aloadN X103.here hx rfl (hb hby d_rm_i4_2_33) rfl rfl ?_
    refine XS.iloadN X103.here hx rfl (hb hby d_rm_i4_2_34) rfl ?_
    refine XS.iloadN X103.here hx rfl (hb hby d_rm_i4_2_35) rfl ?_
    refine st105 _ ?_
    exact κ
  have KC105 : Keep h0 T105.heap [a] := KC0.trans K105 all0
  have f107 := (Nat.le_trans Z0 K105.1)
  obtain ⟨_, _, ⟨T108, L108, k108, n108⟩, -, X108, ⟨Lc108, hQ108, l108, y108, z108⟩, st108⟩ := Jvm.LawKit.callS X105 hx (y := (⟨"java/lang/StringUTF16", "coderFromArrayLen", "([BI)B"⟩ : MethodName)) hown (mvT hZ (hw _ (List.mem_of_getElem? (i := 54) rfl))) (mvT hZ (hw _ (List.mem_of_getElem? (i := 55) rfl))) (mvT hZ (hw _ (List.mem_of_getElem? (i := 49) rfl))) (mvT hZ (hw _ (List.mem_of_getElem? (i := 56) rfl))) (by decide) (backOf (W := 1) (rm_cfl l Z a0 hw [] u105 ku105 2 vs105 T105.heap n0 f107 V105 (by decide) (by decide)) hZ (hw _ (List.mem_of_getElem? (i := 56) rfl)) (hw _ (List.mem_of_getElem? (i := 49) rfl)) (by decide) (by decide)) (g := (mkF m 45 #[.val (.ref a), .val (.ref b), .val (.int (0 : Int32)), .val (.int (2 : Int32)), .val .null, .val (.ref u105)] [(.int (2 : Int32)), (.ref u105), (.ref a)])) rfl (by rw [hml]; rfl) (argsL := [(.ref u105), (.int (2 : Int32))]) (rest := [(.ref a)]) (lenOf pdo_15 rfl) rfl (by show 2 * 0 + _ ≤ _; exact Nat.le_of_eq rfl) (hb hby d_rm_i4_2_45) (fun _ _ => ⟨rfl, rfl, (by decide : 2 + 0 ≤ _), (by decide : 8 + 0 ≤ _)⟩)
  dsimp only [Pt.U, Pt.locs, Pt.cells, Pt.slots] at X108 l108 y108 z108 st108 hQ108
  subst l108 y108 z108
  obtain ⟨rfl, Nq108, eq108⟩ := hQ108
  have N108 := Fr.app N105 Nq108
  have pq109 : ∀ τ, Steps pP.tables e below (T108.setTop (mkF m 48 #[.val (.ref a), .val (.ref b), .val (.int (0 : Int32)), .val (.int (2 : Int32)), .val .null, .val (.ref u105)] [(.int (1 : Int32)), (.ref a)])) τ → Steps pP.tables e below A0 τ := by
    intro τ κ
    refine pq106 τ ?_
    refine XS.astore X105.here hx rfl (hb hby d_rm_i4_2_39) rfl rfl (l' := #[.val (.ref a), .val (.ref b), .val (.int (0 : Int32)), .val (.int (2 : Int32)), .val .null, .val (.ref u105)]) rfl ?_
    refine XS.aloadN X105.here hx rfl (hb hby d_rm_i4_2_41) rfl rfl ?_
    refine XS.aload X105.here hx rfl (hb hby d_rm_i4_2_42) rfl rfl ?_
    refine XS.iloadN X105.here hx rfl (hb hby d_rm_i4_2_44) rfl ?_
    refine st108 _ ?_
    exact κ
  have f110 := (E_a.keep K105)
  have f111 := (F_coder.keep K105 nin0)
  obtain ⟨T112, h112, X112, e112, W112, st112⟩ := putFN X108 hx hZ hown (hw _ (List.mem_of_getElem? (i := 31) rfl)) Via.refl eq108 f111 f110 (Or.inr ⟨(hw _ (List.mem_of_getElem? (i := 27) rfl)), rfl, hnm⟩) (hw _ (List.mem_of_getElem? (i := 11) rfl)) (ty := .byte) (v' := (.int (1 : Int32))) (by decide) rfl (by decide) (g := (mkF m 48 #[.val (.ref a), .val (.ref b), .val (.int (0 : Int32)), .val (.int (2 : Int32)), .val .null, .val (.ref u105)] [(.int (1 : Int32)), (.ref a)])) rfl rfl (hb hby d_rm_i4_2_48)
  have pq113 : ∀ τ, Steps pP.tables e below (T112.setTop (mkF m 51 #[.val (.ref a), .val (.ref b), .val (.int (0 : Int32)), .val (.int (2 : Int32)), .val .null, .val (.ref u105)] [])) τ → Steps pP.tables e below A0 τ := by
    intro τ κ
    refine pq109 τ ?_
    refine st112 _ ?_
    exact κ
  have KC112 : Keep h0 h112 [a] := KC105.wr W112 (Or.inl (List.mem_of_getElem? (i := 0) rfl))
  have Fw112 := f111.same W112
  have N112 := Fr.snoc X112 N108 ga
  have f114 := (f110.wr W112)
  have f115 := ((F_value.keep K105 nin0).other W112 (Or.inr (slot_ne (Or.inr (hw _ (List.mem_of_getElem? (i := 26) rfl))) (Or.inr (hw _ (List.mem_of_getElem? (i := 27) rfl))) (by decide) (t := (.array .byte)) (t' := .byte) (by decide) (by decide))))
  obtain ⟨T116, h116, X116, e116, W116, st116⟩ := putF X112 hx hZ hown (host := "") (Or.inl (hw _ (List.mem_of_getElem? (i := 30) rfl))) Via.refl e112 f115 f114 (Or.inr ⟨(hw _ (List.mem_of_getElem? (i := 26) rfl)), rfl, hnm⟩) (hw _ (List.mem_of_getElem? (i := 11) rfl)) (ty := (.array .byte)) (by decide) rfl rfl (g := (mkF m 54 #[.val (.ref a), .val (.ref b), .val (.int (0 : Int32)), .val (.int (2 : Int32)), .val .null, .val (.ref u105)] [(.ref u105), (.ref a)])) rfl rfl (hb hby d_rm_i4_2_54)
  have pq117 : ∀ τ, Steps pP.tables e below (T116.setTop (mkF m 57 #[.val (.ref a), .val (.ref b), .val (.int (0 : Int32)), .val (.int (2 : Int32)), .val .null, .val (.ref u105)] [])) τ → Steps pP.tables e below A0 τ := by
    intro τ κ
    refine pq113 τ ?_
    refine XS.aloadN X112.here hx rfl (hb hby d_rm_i4_2_51) rfl rfl ?_
    refine XS.aload X112.here hx rfl (hb hby d_rm_i4_2_52) rfl rfl ?_
    refine st116 _ ?_
    exact κ
  have KC116 : Keep h0 h116 [a] := KC112.wr W116 (Or.inl (List.mem_of_getElem? (i := 0) rfl))
  have Fw116 := f115.same W116
  have N116 := Fr.snoc X116 N112 ga
  have f118 := (f114.wr W116)
  have f119 := (Fw112.other W116 (Or.inr (slot_ne (Or.inr (hw _ (List.mem_of_getElem? (i := 27) rfl))) (Or.inr (hw _ (List.mem_of_getElem? (i := 26) rfl))) (by decide) (t := .byte) (t' := (.array .byte)) (by decide) (by decide))))
  have f120 := ((V105.other W112 (Ne.symm (Nat.ne_of_lt (Nat.lt_of_lt_of_le E_a.lt lb105)))).other W116 (Ne.symm (Nat.ne_of_lt (Nat.lt_of_lt_of_le E_a.lt lb105))))
  obtain ⟨fs, hr, hrun, hended, hW, hsame⟩ := X116.leave (v := none) (fun _ => rfl)
  have pqE := pq117
  rw [hA0] at pqE
  refine ⟨_, _, pqE _ ?_, hrun, hended, _, _, rfl, ?_, ⟨_, rfl⟩, hW, hsame.mono (by decide) (by decide)⟩
  · show Steps pP.tables e below (T116.setTop (mkF m 57 #[.val (.ref a), .val (.ref b), .val (.int (0 : Int32)), .val (.int (2 : Int32)), .val .null, .val (.ref u105)] [])) _
    exact X116.returnOut hx Bd.returns (hb hby d_rm_i4_2_57) hr
  · show Q_new Z a ([c0, c1] : List Int32) h0 n0 _ T116.heap _
    rw [e116]
    exact ⟨rfl, N116, KC116, u105, _, f118, Fw116, Or.inr ⟨f119, _, f120, hu105, hB⟩⟩
theorem d_rm_i1_2_0 : decode jdk_42_method_3_code 0 = .ok (.aload_n 0, 1) := by decide +kernel
theorem d_rm_i1_2_1 : decode jdk_42_method_3_code 1 = .ok (.aload_n 1, 1) := by decide +kernel
theorem d_rm_i1_2_2 : decode jdk_42_method_3_code 2 = .ok (.iconst 0, 1) := by decide +kernel
theorem d_rm_i1_2_3 : decode jdk_42_method_3_code 3 = .ok (.aload_n 1, 1) := by decide +kernel
theorem d_rm_i1_2_4 : decode jdk_42_method_3_code 4 = .ok (.arraylength, 1) := by decide +kernel
theorem d_rm_i1_2_5 : decode jdk_42_method_3_code 5 = .ok (.aconst_null, 1) := by decide +kernel
theorem d_rm_i1_2_6 : decode jdk_42_method_3_code 6 = .ok (.invokespecial 27, 3) := by decide +kernel
theorem d_rm_i1_2_9 : decode jdk_42_method_3_code 9 = .ok (.return_, 1) := by decide +kernel
theorem ef_rm_i1_2 (m : MethodId) (x0 : Addr) (x1 : Addr) : entryFrame m #[(.ref x0), (.ref x1)] 2 = mkF m 0 #[.val (.ref x0), .val (.ref x1)] [] := by first | (simp [entryFrame, mkF, argsToLocals, Value.category]; done) | rfl
set_option maxRecDepth 65536 in
set_option maxHeartbeats 3000000 in
theorem rm_i1_2 (l : Launch) (Z : State) (a0 : Array Value) (hw : ∀ d ∈ tables_1, d.before a0 Z = true) (ws : List Jvm.Cond) (a b : Addr) (kc : ClassId) (c0 c1 : Int32) (G1 : Int32) (h0 : Heap) (n0 : Nat) (Z0 : n0 ≤ h0.size) (O2 : Sta Z Z.heap "java/lang/String" "COMPACT_STRINGS" "Z" (.int G1)) (P5 : ¬ (G1 = (0 : Int32))) (X00 : Old Z n0 h0) (OA : Sta Z Z.heap "java/lang/StringUTF16" "$assertionsDisabled" "Z" (.int 1)) (OH : Sta Z Z.heap "java/lang/StringUTF16" "HI_BYTE_SHIFT" "I" (.int 0)) (OL : Sta Z Z.heap "java/lang/StringUTF16" "LO_BYTE_SHIFT" "I" (.int 8)) (E_a : Exa Z h0 a "java/lang/String") (ga : n0 ≤ a) (F_value : Fld Z h0 a "java/lang/String" "value" "[B" .null) (F_coder : Fld Z h0 a "java/lang/String" "coder" "B" (.int (0 : Int32))) (V_b : Arv Z h0 b kc .char (2 : Int32) [(.int c0), (.int c1)] (.int (0 : Int32))) (hbad : ¬ ∀ c ∈ ([c0, c1] : List Int32), ¬ (255 : Int32) < c) (hB : ∀ c ∈ ([c0, c1] : List Int32), ¬ c < 0 ∧ ¬ (65535 : Int32) < c) :
    MetFree l (⟨"java/lang/String", "<init>", "([C)V"⟩ : MethodName) (head1 (Jvm.Cond.code (⟨"java/lang/String", "<init>", "([C)V"⟩ : MethodName) jdk_42_method_3_code 2 none :: ws) ({ frames := 5, cells := 2, slots := 8, locals := 74 } : Room)) (fun αs U => αs = #[(.ref a), (.ref b)] ∧ Z.Warmed39 U.vm ∧ U.heap = h0) (fun _ _ _ _ _ => True) (fun _ U o U' => ∃ v L, o = .returned v ∧ Q_new Z a ([c0, c1] : List Int32) h0 n0 v U'.heap L ∧ FrameEnd U o U' L ({ frames := 5, cells := 2, slots := 8, locals := 74 } : Room).cells ({ frames := 5, cells := 2, slots := 8, locals := 74 } : Room).slots) := by
  refine MetFree.of_bodySF (plainFor_of_name pno_2) hisR ?_
  intro pP e s m args below meth cC s₁ Bd hml0 hP hK
  obtain ⟨rfl, hZ, hh⟩ := hP
  have hx := Bd.exec
  have hby := Bd.bytes
  have hml : cC.maxLocals = 2 := hml0
  have hown : s.vm.findClass "java/lang/String" = some m.cls := findClass_of_methodNamed Bd.named
  have hnm := (name_of_methodNamed Bd.named Bd.method).1
  have X0 : Stand pP l e ({ frames := 5, cells := 2, slots := 8, locals := 74 } : Room) s m #[(.ref a), (.ref b)] below meth cC s₁ [] 0 0 := Stand.of_body Bd
  have e0 : s₁.heap = h0 := by rw [← hh, Bd.state]; rfl
  have N0 := Fr.nil n0
  have KC0 : Keep h0 h0 [a] := Keep.refl h0 _
  obtain ⟨A0, hA0⟩ : ∃ z, z = s₁.setTop (entryFrame m #[(.ref a), (.ref b)] 2) := ⟨_, rfl⟩
  have pre0 : ∀ τ, Steps pP.tables e below (s₁.setTop (mkF m 0 #[.val (.ref a), .val (.ref b)] [])) τ → Steps pP.tables e below A0 τ := fun τ κ => by rw [hA0]; exact castTop (ef_rm_i1_2 m a b) κ
  obtain ⟨cl101, Ar101, q101, S101, M101, Hs101, G101⟩ := id V_b
  obtain ⟨_, _, ⟨T102, L102, k102, n102⟩, -, X102, ⟨Lc102, hQ102, l102, y102, z102⟩, st102⟩ := X0.specialBack hx (y := (⟨"java/lang/String", "<init>", "([CIILjava/lang/Void;)V"⟩ : MethodName)) rfl hown (mvT hZ (hw _ (List.mem_of_getElem? (i := 17) rfl))) (mvT hZ (hw _ (List.mem_of_getElem? (i := 18) rfl))) (mvT hZ (hw _ (List.mem_of_getElem? (i := 20) rfl))) (by decide) (backOf (W := 0) (rm_i4_2 l Z a0 hw [] a b kc c0 c1 G1 h0 n0 Z0 O2 P5 X00 OA OH OL E_a ga F_value F_coder V_b hbad hB) hZ (hw _ (List.mem_of_getElem? (i := 20) rfl)) (hw _ (List.mem_of_getElem? (i := 12) rfl)) (by decide) (by decide)) (g := (mkF m 6 #[.val (.ref a), .val (.ref b)] [.null, (.int (2 : Int32)), (.int (0 : Int32)), (.ref b), (.ref a)])) rfl (by rw [hml]; rfl) (Steps.refl _) (a := a) (argsL := [(.ref b), (.int (0 : Int32)), (.int (2 : Int32)), .null]) (rest := []) (lenOf pdo_16 rfl) rfl (by show 2 * 0 + _ ≤ _; exact Nat.le_of_eq rfl) (hb hby d_rm_i1_2_6) (fun _ _ => ⟨rfl, e0, (by decide : 0 + 2 ≤ _), (by decide : 0 + 8 ≤ _)⟩)
  dsimp only [Pt.U, Pt.locs, Pt.cells, Pt.slots] at X102 l102 y102 z102 st102 hQ102
  subst l102 y102 z102
  obtain ⟨rfl, Nq102, K102, U102⟩ := hQ102
  have N102 := Fr.app N0 Nq102
  have pq103 : ∀ τ, Steps pP.tables e below (T102.setTop (mkF m 9 #[.val (.ref a), .val (.ref b)] [])) τ → Steps pP.tables e below A0 τ := by
    intro τ κ
    refine pre0 τ ?_
    refine XS.aloadN X0.here hx rfl (hb hby d_rm_i1_2_0) rfl rfl ?_
    refine XS.aloadN X0.here hx rfl (hb hby d_rm_i1_2_1) rfl rfl ?_
    refine XS.iconst X0.here hx rfl (hb hby d_rm_i1_2_2) ?_
    refine XS.aloadN X0.here hx rfl (hb hby d_rm_i1_2_3) rfl rfl ?_
    refine X0.arraylength hx (by rw [e0]; exact Ar101.1) (State.isArrayOf_alike hZ.alike Ar101.2.1) (g := (mkF m 4 #[.val (.ref a), .val (.ref b)] [(.ref b), (.int (0 : Int32)), (.ref b), (.ref a)])) rfl rfl (hb hby d_rm_i1_2_4) _ ?_
    rw [len_of S101 M101]
    refine XS.aconstNull X0.here hx rfl (hb hby d_rm_i1_2_5) ?_
    refine st102.trans ?_
    exact κ
  have KC102 : Keep h0 T102.heap [a] := KC0.trans K102 (allS (Or.inl (List.mem_of_getElem? (i := 0) rfl)) all0)
  obtain ⟨fs, hr, hrun, hended, hW, hsame⟩ := X102.leave (v := none) (fun _ => rfl)
  have pqE := pq103
  rw [hA0] at pqE
  refine ⟨_, _, pqE _ ?_, hrun, hended, _, _, rfl, ?_, ⟨_, rfl⟩, hW, hsame.mono (by decide) (by decide)⟩
  · show Steps pP.tables e below (T102.setTop (mkF m 9 #[.val (.ref a), .val (.ref b)] [])) _
    exact X102.returnOut hx Bd.returns (hb hby d_rm_i1_2_9) hr
  · show Q_new Z a ([c0, c1] : List Int32) h0 n0 _ T102.heap _
    exact ⟨rfl, N102, KC102, U102⟩
def Q_c5_3 (d : Addr) (c0 c1 c2 : Int32) (h0 : Heap) (n0 : Nat) (v : Option Value) (h : Heap) (L : List Loc) : Prop := ∃ j : Nat, v = some (.int (Int32.ofNat j)) ∧ j < 3 ∧ (255 : Int32) < ([c0, c1, c2] : List Int32).getD j 0 ∧ Fr n0 L ∧ Keep h0 h [d]
theorem d_rm_c5_3_0 : decode jdk_52_method_21_code 0 = .ok (.iconst 0, 1) := by decide +kernel
theorem d_rm_c5_3_1 : decode jdk_52_method_21_code 1 = .ok (.istore 5, 2) := by decide +kernel
theorem d_rm_c5_3_3 : decode jdk_52_method_21_code 3 = .ok (.iload 5, 2) := by decide +kernel
theorem d_rm_c5_3_5 : decode jdk_52_method_21_code 5 = .ok (.iload 4, 2) := by decide +kernel
theorem d_rm_c5_3_7 : decode jdk_52_method_21_code 7 = .ok (.if_icmp .ge 37, 3) := by decide +kernel
theorem d_rm_c5_3_10 : decode jdk_52_method_21_code 10 = .ok (.aload_n 0, 1) := by decide +kernel
theorem d_rm_c5_3_11 : decode jdk_52_method_21_code 11 = .ok (.iload_n 1, 1) := by decide +kernel
theorem d_rm_c5_3_12 : decode jdk_52_method_21_code 12 = .ok (.caload, 1) := by decide +kernel
theorem d_rm_c5_3_13 : decode jdk_52_method_21_code 13 = .ok (.istore 6, 2) := by decide +kernel
theorem d_rm_c5_3_15 : decode jdk_52_method_21_code 15 = .ok (.iload 6, 2) := by decide +kernel
theorem d_rm_c5_3_17 : decode jdk_52_method_21_code 17 = .ok (.sipush 255, 3) := by decide +kernel
theorem d_rm_c5_3_20 : decode jdk_52_method_21_code 20 = .ok (.if_icmp .le 6, 3) := by decide +kernel
theorem d_rm_c5_3_23 : decode jdk_52_method_21_code 23 = .ok (.iload 5, 2) := by decide +kernel
theorem d_rm_c5_3_25 : decode jdk_52_method_21_code 25 = .ok (.ireturn, 1) := by decide +kernel
theorem d_rm_c5_3_26 : decode jdk_52_method_21_code 26 = .ok (.aload_n 2, 1) := by decide +kernel
theorem d_rm_c5_3_27 : decode jdk_52_method_21_code 27 = .ok (.iload_n 3, 1) := by decide +kernel
theorem d_rm_c5_3_28 : decode jdk_52_method_21_code 28 = .ok (.iload 6, 2) := by decide +kernel
theorem d_rm_c5_3_30 : decode jdk_52_method_21_code 30 = .ok (.i2b, 1) := by decide +kernel
theorem d_rm_c5_3_31 : decode jdk_52_method_21_code 31 = .ok (.bastore, 1) := by decide +kernel
theorem d_rm_c5_3_32 : decode jdk_52_method_21_code 32 = .ok (.iinc 1 1, 3) := by decide +kernel
theorem d_rm_c5_3_35 : decode jdk_52_method_21_code 35 = .ok (.iinc 3 1, 3) := by decide +kernel
theorem d_rm_c5_3_38 : decode jdk_52_method_21_code 38 = .ok (.iinc 5 1, 3) := by decide +kernel
theorem d_rm_c5_3_41 : decode jdk_52_method_21_code 41 = .ok (.goto (-38), 3) := by decide +kernel
theorem d_rm_c5_3_44 : decode jdk_52_method_21_code 44 = .ok (.iload 4, 2) := by decide +kernel
theorem ef_rm_c5_3 (m : MethodId) (x0 : Addr) (x1 : Int32) (x2 : Addr) (x3 : Int32) (x4 : Int32) : entryFrame m #[(.ref x0), (.int x1), (.ref x2), (.int x3), (.int x4)] 7 = mkF m 0 #[.val (.ref x0), .val (.int x1), .val (.ref x2), .val (.int x3), .val (.int x4), .unset, .unset] [] := by first | (simp [entryFrame, mkF, argsToLocals, Value.category]; done) | rfl
set_option maxRecDepth 65536 in
set_option maxHeartbeats 3000000 in
theorem rm_c5_3 (l : Launch) (Z : State) (a0 : Array Value) (hw : ∀ d ∈ tables_1, d.before a0 Z = true) (ws : List Jvm.Cond) (b d : Addr) (kc kd : ClassId) (c0 c1 c2 : Int32) (h0 : Heap) (n0 : Nat) (Z0 : n0 ≤ h0.size) (V_b : Arv Z h0 b kc .char (3 : Int32) [(.int c0), (.int c1), (.int c2)] (.int (0 : Int32))) (V_d : Arv Z h0 d kd .byte (3 : Int32) [(.int (0 : Int32)), (.int (0 : Int32)), (.int (0 : Int32))] (.int (0 : Int32))) (gd : n0 ≤ d) (hbd : b ≠ d) (hbad : ¬ ∀ c ∈ ([c0, c1, c2] : List Int32), ¬ (255 : Int32) < c) :
    MetFree l (⟨"java/lang/StringUTF16", "compress", "([CI[BII)I"⟩ : MethodName) (head1 (Jvm.Cond.code (⟨"java/lang/StringUTF16", "compress", "([CI[BII)I"⟩ : MethodName) jdk_52_method_21_code 7 (some .int) :: ws) ({ frames := 0, cells := 0, slots := 0, locals := 0 } : Room)) (fun αs U => αs = #[(.ref b), (.int (0 : Int32)), (.ref d), (.int (0 : Int32)), (.int (3 : Int32))] ∧ Z.Warmed39 U.vm ∧ U.heap = h0) (fun _ _ _ _ _ => True) (fun _ U o U' => ∃ v L, o = .returned v ∧ Q_c5_3 d c0 c1 c2 h0 n0 v U'.heap L ∧ FrameEnd U o U' L ({ frames := 0, cells := 0, slots := 0, locals := 0 } : Room).cells ({ frames := 0, cells := 0, slots := 0, locals := 0 } : Room).slots) := by
  refine MetFree.of_bodySF (plainFor_of_name pno_5) hisR ?_
  intro pP e s m args below meth cC s₁ Bd hml0 hP hK
  obtain ⟨rfl, hZ, hh⟩ := hP
  have hx := Bd.exec
  have hby := Bd.bytes
  have hml : cC.maxLocals = 7 := hml0
  have hown : s.vm.findClass "java/lang/StringUTF16" = some m.cls := findClass_of_methodNamed Bd.named
  have hnm := (name_of_methodNamed Bd.named Bd.method).1
  have X0 : Stand pP l e ({ frames := 0, cells := 0, slots := 0, locals := 0 } : Room) s m #[(.ref b), (.int (0 : Int32)), (.ref d), (.int (0 : Int32)), (.int (3 : Int32))] below meth cC s₁ [] 0 0 := Stand.of_body Bd
  have e0 : s₁.heap = h0 := by rw [← hh, Bd.state]; rfl
  have N0 := Fr.nil n0
  have KC0 : Keep h0 h0 [d] := Keep.refl h0 _
  obtain ⟨A0, hA0⟩ : ∃ z, z = s₁.setTop (entryFrame m #[(.ref b), (.int (0 : Int32)), (.ref d), (.int (0 : Int32)), (.int (3 : Int32))] 7) := ⟨_, rfl⟩
  have pre0 : ∀ τ, Steps pP.tables e below (s₁.setTop (mkF m 0 #[.val (.ref b), .val (.int (0 : Int32)), .val (.ref d), .val (.int (0 : Int32)), .val (.int (3 : Int32)), .unset, .unset] [])) τ → Steps pP.tables e below A0 τ := fun τ κ => by rw [hA0]; exact castTop (ef_rm_c5_3 m b (0 : Int32) d (0 : Int32) (3 : Int32)) κ
  obtain ⟨cl101, Ar101, q101, S101, M101, Hs101, G101⟩ := id V_b
  have hin101 := inb_of (j := (0 : Int32)) S101 ⟨by decide, by decide⟩
  have pq102 : ∀ τ, Steps pP.tables e below (s₁.setTop (mkF m 20 #[.val (.ref b), .val (.int (0 : Int32)), .val (.ref d), .val (.int (0 : Int32)), .val (.int (3 : Int32)), .val (.int (0 : Int32)), .val (.int c0)] [(.int (255 : Int32)), (.int c0)])) τ → Steps pP.tables e below A0 τ := by
    intro τ κ
    refine pre0 τ ?_
    refine XS.iconst X0.here hx rfl (hb hby d_rm_c5_3_0) ?_
    refine XS.istore X0.here hx rfl (hb hby d_rm_c5_3_1) rfl (l' := #[.val (.ref b), .val (.int (0 : Int32)), .val (.ref d), .val (.int (0 : Int32)), .val (.int (3 : Int32)), .val (.int (0 : Int32)), .unset]) rfl ?_
    refine XS.iload X0.here hx rfl (hb hby d_rm_c5_3_3) rfl ?_
    refine XS.iload X0.here hx rfl (hb hby d_rm_c5_3_5) rfl ?_
    refine XS.icmpNo X0.here hx rfl (hb hby d_rm_c5_3_7) rfl (tlt (by decide : ((0 : Int32) < (3 : Int32)))).2.1 ?_
    refine XS.aloadN X0.here hx rfl (hb hby d_rm_c5_3_10) rfl rfl ?_
    refine XS.iloadN X0.here hx rfl (hb hby d_rm_c5_3_11) rfl ?_
    refine X0.caload hx (j := (0 : Int32)) (v := (.int c0)) (by rw [e0]; exact Ar101.1) (State.isArrayOf_alike hZ.alike Ar101.2.1) Ar101.2.2 hin101 (Has.at Hs101 hin101 rfl) (g := (mkF m 12 #[.val (.ref b), .val (.int (0 : Int32)), .val (.ref d), .val (.int (0 : Int32)), .val (.int (3 : Int32)), .val (.int (0 : Int32)), .unset] [(.int (0 : Int32)), (.ref b)])) rfl rfl (hb hby d_rm_c5_3_12) _ ?_
    refine XS.istore X0.here hx rfl (hb hby d_rm_c5_3_13) rfl (l' := #[.val (.ref b), .val (.int (0 : Int32)), .val (.ref d), .val (.int (0 : Int32)), .val (.int (3 : Int32)), .val (.int (0 : Int32)), .val (.int c0)]) rfl ?_
    refine XS.iload X0.here hx rfl (hb hby d_rm_c5_3_15) rfl ?_
    refine XS.sipush X0.here hx rfl (hb hby d_rm_c5_3_17) ?_
    exact κ
  by_cases hc20_103 : (255 : Int32) < c0
  · skip
    obtain ⟨fs, hr, hrun, hended, hW, hsame⟩ := X0.leave (v := some (.int (0 : Int32))) (fun h => by rw [Bd.returns] at h; cases h)
    have pqE := pq102
    rw [hA0] at pqE
    refine ⟨_, _, pqE _ ?_, hrun, hended, _, _, rfl, ?_, ⟨_, rfl⟩, hW, hsame.mono (by decide) (by decide)⟩
    · refine XS.icmpNo X0.here hx rfl (hb hby d_rm_c5_3_20) rfl (tlt hc20_103).2.2.2 ?_
      refine XS.iload X0.here hx rfl (hb hby d_rm_c5_3_23) rfl ?_
      show Steps pP.tables e below (s₁.setTop (mkF m 25 #[.val (.ref b), .val (.int (0 : Int32)), .val (.ref d), .val (.int (0 : Int32)), .val (.int (3 : Int32)), .val (.int (0 : Int32)), .val (.int c0)] [(.int (0 : Int32))])) _
      exact retOut X0 hx Bd.returns rfl (Or.inl ⟨rfl, Or.inl rfl, _, rfl⟩) (hb hby d_rm_c5_3_25) hr
    · show Q_c5_3 d c0 c1 c2 h0 n0 _ s₁.heap _
      rw [e0]
      exact ⟨0, rfl, (by decide), hc20_103, N0, KC0⟩
  · skip
    obtain ⟨cl104, Ar104, q104, S104, M104, Hs104, G104⟩ := id V_d
    obtain ⟨T104, h104, X104, e104, W104, st104⟩ := stB X0 hx hZ e0 Ar104 (j := (0 : Int32)) (inb_of S104 ⟨by decide, by decide⟩) (g := (mkF m 31 #[.val (.ref b), .val (.int (0 : Int32)), .val (.ref d), .val (.int (0 : Int32)), .val (.int (3 : Int32)), .val (.int (0 : Int32)), .val (.int c0)] [(.int (c0.toInt8.toInt32)), (.int (0 : Int32)), (.ref d)])) rfl rfl (hb hby d_rm_c5_3_31)
    have pq105 : ∀ τ, Steps pP.tables e below (T104.setTop (mkF m 32 #[.val (.ref b), .val (.int (0 : Int32)), .val (.ref d), .val (.int (0 : Int32)), .val (.int (3 : Int32)), .val (.int (0 : Int32)), .val (.int c0)] [])) τ → Steps pP.tables e below A0 τ := by
      intro τ κ
      refine pq102 τ ?_
      refine XS.icmpYes X0.here hx rfl (pc0 := 20) (pc' := 26) rfl (hb hby d_rm_c5_3_20) rfl (flt hc20_103).2.2.2 (by decide) (by decide) ?_
      refine XS.aloadN X0.here hx rfl (hb hby d_rm_c5_3_26) rfl rfl ?_
      refine XS.iloadN X0.here hx rfl (hb hby d_rm_c5_3_27) rfl ?_
      refine XS.iload X0.here hx rfl (hb hby d_rm_c5_3_28) rfl ?_
      refine XS.i2b X0.here hx rfl (hb hby d_rm_c5_3_30) rfl ?_
      refine st104 _ ?_
      exact κ
    have KC104 : Keep h0 h104 [d] := KC0.wr W104 (Or.inl (List.mem_of_getElem? (i := 0) rfl))
    have V104 : Arv Z h104 d kd .byte (3 : Int32) [(.int (c0.toInt8.toInt32).toInt8.toInt32), (.int (0 : Int32)), (.int (0 : Int32))] (.int (0 : Int32)) := Arv.set Ar104 q104 S104 M104 Hs104 G104 (fits_nar_byte _) W104 0 rfl (Nat.le_of_ble_eq_true rfl)
    have N104 := Fr.snoc X104 N0 gd
    have f106 := (V_b.other W104 hbd)
    obtain ⟨cl107, Ar107, q107, S107, M107, Hs107, G107⟩ := id f106
    have hin107 := inb_of (j := (1 : Int32)) S107 ⟨by decide, by decide⟩
    have pq108 : ∀ τ, Steps pP.tables e below (T104.setTop (mkF m 20 #[.val (.ref b), .val (.int (1 : Int32)), .val (.ref d), .val (.int (1 : Int32)), .val (.int (3 : Int32)), .val (.int (1 : Int32)), .val (.int c1)] [(.int (255 : Int32)), (.int c1)])) τ → Steps pP.tables e below A0 τ := by
      intro τ κ
      refine pq105 τ ?_
      refine XS.iinc X104.here hx rfl (hb hby d_rm_c5_3_32) rfl (l' := #[.val (.ref b), .val (.int (1 : Int32)), .val (.ref d), .val (.int (0 : Int32)), .val (.int (3 : Int32)), .val (.int (0 : Int32)), .val (.int c0)]) rfl ?_
      refine XS.iinc X104.here hx rfl (hb hby d_rm_c5_3_35) rfl (l' := #[.val (.ref b), .val (.int (1 : Int32)), .val (.ref d), .val (.int (1 : Int32)), .val (.int (3 : Int32)), .val (.int (0 : Int32)), .val (.int c0)]) rfl ?_
      refine XS.iinc X104.here hx rfl (hb hby d_rm_c5_3_38) rfl (l' := #[.val (.ref b), .val (.int (1 : Int32)), .val (.ref d), .val (.int (1 : Int32)), .val (.int (3 : Int32)), .val (.int (1 : Int32)), .val (.int c0)]) rfl ?_
      refine XS.goto X104.here hx rfl (pc0 := 41) (pc' := 3) rfl (hb hby d_rm_c5_3_41) (by decide) (by decide) ?_
      refine XS.iload X104.here hx rfl (hb hby d_rm_c5_3_3) rfl ?_
      refine XS.iload X104.here hx rfl (hb hby d_rm_c5_3_5) rfl ?_
      refine XS.icmpNo X104.here hx rfl (hb hby d_rm_c5_3_7) rfl (tlt (by decide : ((1 : Int32) < (3 : Int32)))).2.1 ?_
      refine XS.aloadN X104.here hx rfl (hb hby d_rm_c5_3_10) rfl rfl ?_
      refine XS.iloadN X104.here hx rfl (hb hby d_rm_c5_3_11) rfl ?_
      refine X104.caload hx (j := (1 : Int32)) (v := (.int c1)) (by rw [e104]; exact Ar107.1) (State.isArrayOf_alike hZ.alike Ar107.2.1) Ar107.2.2 hin107 (Has.at Hs107 hin107 rfl) (g := (mkF m 12 #[.val (.ref b), .val (.int (1 : Int32)), .val (.ref d), .val (.int (1 : Int32)), .val (.int (3 : Int32)), .val (.int (1 : Int32)), .val (.int c0)] [(.int (1 : Int32)), (.ref b)])) rfl rfl (hb hby d_rm_c5_3_12) _ ?_
      refine XS.istore X104.here hx rfl (hb hby d_rm_c5_3_13) rfl (l' := #[.val (.ref b), .val (.int (1 : Int32)), .val (.ref d), .val (.int (1 : Int32)), .val (.int (3 : Int32)), .val (.int (1 : Int32)), .val (.int c1)]) rfl ?_
      refine XS.iload X104.here hx rfl (hb hby d_rm_c5_3_15) rfl ?_
      refine XS.sipush X104.here hx rfl (hb hby d_rm_c5_3_17) ?_
      exact κ
    by_cases hc20_109 : (255 : Int32) < c1
    · skip
      obtain ⟨fs, hr, hrun, hended, hW, hsame⟩ := X104.leave (v := some (.int (1 : Int32))) (fun h => by rw [Bd.returns] at h; cases h)
      have pqE := pq108
      rw [hA0] at pqE
      refine ⟨_, _, pqE _ ?_, hrun, hended, _, _, rfl, ?_, ⟨_, rfl⟩, hW, hsame.mono (by decide) (by decide)⟩
      · refine XS.icmpNo X104.here hx rfl (hb hby d_rm_c5_3_20) rfl (tlt hc20_109).2.2.2 ?_
        refine XS.iload X104.here hx rfl (hb hby d_rm_c5_3_23) rfl ?_
        show Steps pP.tables e below (T104.setTop (mkF m 25 #[.val (.ref b), .val (.int (1 : Int32)), .val (.ref d), .val (.int (1 : Int32)), .val (.int (3 : Int32)), .val (.int (1 : Int32)), .val (.int c1)] [(.int (1 : Int32))])) _
        exact retOut X104 hx Bd.returns rfl (Or.inl ⟨rfl, Or.inl rfl, _, rfl⟩) (hb hby d_rm_c5_3_25) hr
      · show Q_c5_3 d c0 c1 c2 h0 n0 _ T104.heap _
        rw [e104]
        exact ⟨1, rfl, (by decide), hc20_109, N104, KC104⟩
    · skip
      obtain ⟨cl110, Ar110, q110, S110, M110, Hs110, G110⟩ := id V104
      obtain ⟨T110, h110, X110, e110, W110, st110⟩ := stB X104 hx hZ e104 Ar110 (j := (1 : Int32)) (inb_of S110 ⟨by decide, by decide⟩) (g := (mkF m 31 #[.val (.ref b), .val (.int (1 : Int32)), .val (.ref d), .val (.int (1 : Int32)), .val (.int (3 : Int32)), .val (.int (1 : Int32)), .val (.int c1)] [(.int (c1.toInt8.toInt32)), (.int (1 : Int32)), (.ref d)])) rfl rfl (hb hby d_rm_c5_3_31)
      have pq111 : ∀ τ, Steps pP.tables e below (T110.setTop (mkF m 32 #[.val (.ref b), .val (.int (1 : Int32)), .val (.ref d), .val (.int (1 : Int32)), .val (.int (3 : Int32)), .val (.int (1 : Int32)), .val (.int c1)] [])) τ → Steps pP.tables e below A0 τ := by
        intro τ κ
        refine pq108 τ ?_
        refine XS.icmpYes X104.here hx rfl (pc0 := 20) (pc' := 26) rfl (hb hby d_rm_c5_3_20) rfl (flt hc20_109).2.2.2 (by decide) (by decide) ?_
        refine XS.aloadN X104.here hx rfl (hb hby d_rm_c5_3_26) rfl rfl ?_
        refine XS.iloadN X104.here hx rfl (hb hby d_rm_c5_3_27) rfl ?_
        refine XS.iload X104.here hx rfl (hb hby d_rm_c5_3_28) rfl ?_
        refine XS.i2b X104.here hx rfl (hb hby d_rm_c5_3_30) rfl ?_
        refine st110 _ ?_
        exact κ
      have KC110 : Keep h0 h110 [d] := KC104.wr W110 (Or.inl (List.mem_of_getElem? (i := 0) rfl))
      have V110 : Arv Z h110 d kd .byte (3 : Int32) [(.int (c0.toInt8.toInt32).toInt8.toInt32), (.int (c1.toInt8.toInt32).toInt8.toInt32), (.int (0 : Int32))] (.int (0 : Int32)) := Arv.set Ar110 q110 S110 M110 Hs110 G110 (fits_nar_byte _) W110 1 rfl (Nat.le_of_ble_eq_true rfl)
      have N110 := Fr.snoc X110 N104 gd
      have f112 := (f106.other W110 hbd)
      obtain ⟨cl113, Ar113, q113, S113, M113, Hs113, G113⟩ := id f112
      have hin113 := inb_of (j := (2 : Int32)) S113 ⟨by decide, by decide⟩
      have pq114 : ∀ τ, Steps pP.tables e below (T110.setTop (mkF m 20 #[.val (.ref b), .val (.int (2 : Int32)), .val (.ref d), .val (.int (2 : Int32)), .val (.int (3 : Int32)), .val (.int (2 : Int32)), .val (.int c2)] [(.int (255 : Int32)), (.int c2)])) τ → Steps pP.tables e below A0 τ := by
        intro τ κ
        refine pq111 τ ?_
        refine XS.iinc X110.here hx rfl (hb hby d_rm_c5_3_32) rfl (l' := #[.val (.ref b), .val (.int (2 : Int32)), .val (.ref d), .val (.int (1 : Int32)), .val (.int (3 : Int32)), .val (.int (1 : Int32)), .val (.int c1)]) rfl ?_
        refine XS.iinc X110.here hx rfl (hb hby d_rm_c5_3_35) rfl (l' := #[.val (.ref b), .val (.int (2 : Int32)), .val (.ref d), .val (.int (2 : Int32)), .val (.int (3 : Int32)), .val (.int (1 : Int32)), .val (.int c1)]) rfl ?_
        refine XS.iinc X110.here hx rfl (hb hby d_rm_c5_3_38) rfl (l' := #[.val (.ref b), .val (.int (2 : Int32)), .val (.ref d), .val (.int (2 : Int32)), .val (.int (3 : Int32)), .val (.int (2 : Int32)), .val (.int c1)]) rfl ?_
        refine XS.goto X110.here hx rfl (pc0 := 41) (pc' := 3) rfl (hb hby d_rm_c5_3_41) (by decide) (by decide) ?_
        refine XS.iload X110.here hx rfl (hb hby d_rm_c5_3_3) rfl ?_
        refine XS.iload X110.here hx rfl (hb hby d_rm_c5_3_5) rfl ?_
        refine XS.icmpNo X110.here hx rfl (hb hby d_rm_c5_3_7) rfl (tlt (by decide : ((2 : Int32) < (3 : Int32)))).2.1 ?_
        refine XS.aloadN X110.here hx rfl (hb hby d_rm_c5_3_10) rfl rfl ?_
        refine XS.iloadN X110.here hx rfl (hb hby d_rm_c5_3_11) rfl ?_
        refine X110.caload hx (j := (2 : Int32)) (v := (.int c2)) (by rw [e110]; exact Ar113.1) (State.isArrayOf_alike hZ.alike Ar113.2.1) Ar113.2.2 hin113 (Has.at Hs113 hin113 rfl) (g := (mkF m 12 #[.val (.ref b), .val (.int (2 : Int32)), .val (.ref d), .val (.int (2 : Int32)), .val (.int (3 : Int32)), .val (.int (2 : Int32)), .val (.int c1)] [(.int (2 : Int32)), (.ref b)])) rfl rfl (hb hby d_rm_c5_3_12) _ ?_
        refine XS.istore X110.here hx rfl (hb hby d_rm_c5_3_13) rfl (l' := #[.val (.ref b), .val (.int (2 : Int32)), .val (.ref d), .val (.int (2 : Int32)), .val (.int (3 : Int32)), .val (.int (2 : Int32)), .val (.int c2)]) rfl ?_
        refine XS.iload X110.here hx rfl (hb hby d_rm_c5_3_15) rfl ?_
        refine XS.sipush X110.here hx rfl (hb hby d_rm_c5_3_17) ?_
        exact κ
      by_cases hc20_115 : (255 : Int32) < c2
      · skip
        obtain ⟨fs, hr, hrun, hended, hW, hsame⟩ := X110.leave (v := some (.int (2 : Int32))) (fun h => by rw [Bd.returns] at h; cases h)
        have pqE := pq114
        rw [hA0] at pqE
        refine ⟨_, _, pqE _ ?_, hrun, hended, _, _, rfl, ?_, ⟨_, rfl⟩, hW, hsame.mono (by decide) (by decide)⟩
        · refine XS.icmpNo X110.here hx rfl (hb hby d_rm_c5_3_20) rfl (tlt hc20_115).2.2.2 ?_
          refine XS.iload X110.here hx rfl (hb hby d_rm_c5_3_23) rfl ?_
          show Steps pP.tables e below (T110.setTop (mkF m 25 #[.val (.ref b), .val (.int (2 : Int32)), .val (.ref d), .val (.int (2 : Int32)), .val (.int (3 : Int32)), .val (.int (2 : Int32)), .val (.int c2)] [(.int (2 : Int32))])) _
          exact retOut X110 hx Bd.returns rfl (Or.inl ⟨rfl, Or.inl rfl, _, rfl⟩) (hb hby d_rm_c5_3_25) hr
        · show Q_c5_3 d c0 c1 c2 h0 n0 _ T110.heap _
          rw [e110]
          exact ⟨2, rfl, (by decide), hc20_115, N110, KC110⟩
      · skip
        obtain ⟨cl116, Ar116, q116, S116, M116, Hs116, G116⟩ := id V110
        obtain ⟨T116, h116, X116, e116, W116, st116⟩ := stB X110 hx hZ e110 Ar116 (j := (2 : Int32)) (inb_of S116 ⟨by decide, by decide⟩) (g := (mkF m 31 #[.val (.ref b), .val (.int (2 : Int32)), .val (.ref d), .val (.int (2 : Int32)), .val (.int (3 : Int32)), .val (.int (2 : Int32)), .val (.int c2)] [(.int (c2.toInt8.toInt32)), (.int (2 : Int32)), (.ref d)])) rfl rfl (hb hby d_rm_c5_3_31)
        have pq117 : ∀ τ, Steps pP.tables e below (T116.setTop (mkF m 32 #[.val (.ref b), .val (.int (2 : Int32)), .val (.ref d), .val (.int (2 : Int32)), .val (.int (3 : Int32)), .val (.int (2 : Int32)), .val (.int c2)] [])) τ → Steps pP.tables e below A0 τ := by
          intro τ κ
          refine pq114 τ ?_
          refine XS.icmpYes X110.here hx rfl (pc0 := 20) (pc' := 26) rfl (hb hby d_rm_c5_3_20) rfl (flt hc20_115).2.2.2 (by decide) (by decide) ?_
          refine XS.aloadN X110.here hx rfl (hb hby d_rm_c5_3_26) rfl rfl ?_
          refine XS.iloadN X110.here hx rfl (hb hby d_rm_c5_3_27) rfl ?_
          refine XS.iload X110.here hx rfl (hb hby d_rm_c5_3_28) rfl ?_
          refine XS.i2b X110.here hx rfl (hb hby d_rm_c5_3_30) rfl ?_
          refine st116 _ ?_
          exact κ
        have KC116 : Keep h0 h116 [d] := KC110.wr W116 (Or.inl (List.mem_of_getElem? (i := 0) rfl))
        have V116 : Arv Z h116 d kd .byte (3 : Int32) [(.int (c0.toInt8.toInt32).toInt8.toInt32), (.int (c1.toInt8.toInt32).toInt8.toInt32), (.int (c2.toInt8.toInt32).toInt8.toInt32)] (.int (0 : Int32)) := Arv.set Ar116 q116 S116 M116 Hs116 G116 (fits_nar_byte _) W116 2 rfl (Nat.le_of_ble_eq_true rfl)
        have N116 := Fr.snoc X116 N110 gd
        refine absurd (fun c hc => ?_) hbad
        simp only [List.mem_cons, List.not_mem_nil, or_false] at hc
        rcases hc with hc | hc | hc
        · rw [hc]; exact hc20_103
        · rw [hc]; exact hc20_109
        · rw [hc]; exact hc20_115
theorem d_rm_tb_3_0 : decode jdk_52_method_14_code 0 = .ok (.iload_n 2, 1) := by decide +kernel
theorem d_rm_tb_3_1 : decode jdk_52_method_14_code 1 = .ok (.invokestatic 107, 3) := by decide +kernel
theorem d_rm_tb_3_4 : decode jdk_52_method_14_code 4 = .ok (.astore_n 3, 1) := by decide +kernel
theorem d_rm_tb_3_5 : decode jdk_52_method_14_code 5 = .ok (.iconst 0, 1) := by decide +kernel
theorem d_rm_tb_3_6 : decode jdk_52_method_14_code 6 = .ok (.istore 4, 2) := by decide +kernel
theorem d_rm_tb_3_8 : decode jdk_52_method_14_code 8 = .ok (.iload 4, 2) := by decide +kernel
theorem d_rm_tb_3_10 : decode jdk_52_method_14_code 10 = .ok (.iload_n 2, 1) := by decide +kernel
theorem d_rm_tb_3_11 : decode jdk_52_method_14_code 11 = .ok (.if_icmp .ge 21, 3) := by decide +kernel
theorem d_rm_tb_3_14 : decode jdk_52_method_14_code 14 = .ok (.aload_n 3, 1) := by decide +kernel
theorem d_rm_tb_3_15 : decode jdk_52_method_14_code 15 = .ok (.iload 4, 2) := by decide +kernel
theorem d_rm_tb_3_17 : decode jdk_52_method_14_code 17 = .ok (.aload_n 0, 1) := by decide +kernel
theorem d_rm_tb_3_18 : decode jdk_52_method_14_code 18 = .ok (.iload_n 1, 1) := by decide +kernel
theorem d_rm_tb_3_19 : decode jdk_52_method_14_code 19 = .ok (.caload, 1) := by decide +kernel
theorem d_rm_tb_3_20 : decode jdk_52_method_14_code 20 = .ok (.invokestatic 111, 3) := by decide +kernel
theorem d_rm_tb_3_23 : decode jdk_52_method_14_code 23 = .ok (.iinc 1 1, 3) := by decide +kernel
theorem d_rm_tb_3_26 : decode jdk_52_method_14_code 26 = .ok (.iinc 4 1, 3) := by decide +kernel
theorem d_rm_tb_3_29 : decode jdk_52_method_14_code 29 = .ok (.goto (-21), 3) := by decide +kernel
theorem d_rm_tb_3_32 : decode jdk_52_method_14_code 32 = .ok (.aload_n 3, 1) := by decide +kernel
theorem d_rm_tb_3_33 : decode jdk_52_method_14_code 33 = .ok (.areturn, 1) := by decide +kernel
theorem ef_rm_tb_3 (m : MethodId) (x0 : Addr) (x1 : Int32) (x2 : Int32) : entryFrame m #[(.ref x0), (.int x1), (.int x2)] 5 = mkF m 0 #[.val (.ref x0), .val (.int x1), .val (.int x2), .unset, .unset] [] := by first | (simp [entryFrame, mkF, argsToLocals, Value.category]; done) | rfl
set_option maxRecDepth 65536 in
set_option maxHeartbeats 3000000 in
theorem rm_tb_3 (l : Launch) (Z : State) (a0 : Array Value) (hw : ∀ d ∈ tables_1, d.before a0 Z = true) (ws : List Jvm.Cond) (b : Addr) (kc : ClassId) (c0 c1 c2 : Int32) (h0 : Heap) (n0 : Nat) (Z0 : n0 ≤ h0.size) (OA : Sta Z Z.heap "java/lang/StringUTF16" "$assertionsDisabled" "Z" (.int 1)) (OH : Sta Z Z.heap "java/lang/StringUTF16" "HI_BYTE_SHIFT" "I" (.int 0)) (OL : Sta Z Z.heap "java/lang/StringUTF16" "LO_BYTE_SHIFT" "I" (.int 8)) (X00 : Old Z n0 h0) (V_b : Arv Z h0 b kc .char (3 : Int32) [(.int c0), (.int c1), (.int c2)] (.int (0 : Int32))) :
    MetFree l (⟨"java/lang/StringUTF16", "toBytes", "([CII)[B"⟩ : MethodName) (head1 (Jvm.Cond.code (⟨"java/lang/StringUTF16", "toBytes", "([CII)[B"⟩ : MethodName) jdk_52_method_14_code 5 (some (.array .byte)) :: ws) ({ frames := 2, cells := 1, slots := 6, locals := 24 } : Room)) (fun αs U => αs = #[(.ref b), (.int (0 : Int32)), (.int (3 : Int32))] ∧ Z.Warmed39 U.vm ∧ U.heap = h0) (fun _ _ _ _ _ => True) (fun _ U o U' => ∃ v L, o = .returned v ∧ Q_tb Z ([c0, c1, c2] : List Int32) h0 n0 v U'.heap L ∧ FrameEnd U o U' L ({ frames := 2, cells := 1, slots := 6, locals := 24 } : Room).cells ({ frames := 2, cells := 1, slots := 6, locals := 24 } : Room).slots) := by
  refine MetFree.of_bodySF (plainFor_of_name pno_5) hisR ?_
  intro pP e s m args below meth cC s₁ Bd hml0 hP hK
  obtain ⟨rfl, hZ, hh⟩ := hP
  have hx := Bd.exec
  have hby := Bd.bytes
  have hml : cC.maxLocals = 5 := hml0
  have hown : s.vm.findClass "java/lang/StringUTF16" = some m.cls := findClass_of_methodNamed Bd.named
  have hnm := (name_of_methodNamed Bd.named Bd.method).1
  have X0 : Stand pP l e ({ frames := 2, cells := 1, slots := 6, locals := 24 } : Room) s m #[(.ref b), (.int (0 : Int32)), (.int (3 : Int32))] below meth cC s₁ [] 0 0 := Stand.of_body Bd
  have e0 : s₁.heap = h0 := by rw [← hh, Bd.state]; rfl
  have N0 := Fr.nil n0
  have KC0 : Keep h0 h0 [] := Keep.refl h0 _
  obtain ⟨A0, hA0⟩ : ∃ z, z = s₁.setTop (entryFrame m #[(.ref b), (.int (0 : Int32)), (.int (3 : Int32))] 5) := ⟨_, rfl⟩
  have pre0 : ∀ τ, Steps pP.tables e below (s₁.setTop (mkF m 0 #[.val (.ref b), .val (.int (0 : Int32)), .val (.int (3 : Int32)), .unset, .unset] [])) τ → Steps pP.tables e below A0 τ := fun τ κ => by rw [hA0]; exact castTop (ef_rm_tb_3 m b (0 : Int32) (3 : Int32)) κ
  obtain ⟨_, _, ⟨T101, L101, k101, n101⟩, -, X101, ⟨Lc101, hQ101, l101, y101, z101⟩, st101⟩ := Jvm.LawKit.callS X0 hx (y := (⟨"java/lang/StringUTF16", "newBytesFor", "(I)[B"⟩ : MethodName)) hown (mvT hZ (hw _ (List.mem_of_getElem? (i := 60) rfl))) (mvT hZ (hw _ (List.mem_of_getElem? (i := 61) rfl))) (mvT hZ (hw _ (List.mem_of_getElem? (i := 49) rfl))) (mvT hZ (hw _ (List.mem_of_getElem? (i := 62) rfl))) (by decide) (backOf (W := 0) (rm_nbf l Z a0 hw [] 3 h0 n0 Z0 (by decide)) hZ (hw _ (List.mem_of_getElem? (i := 62) rfl)) (hw _ (List.mem_of_getElem? (i := 49) rfl)) (by decide) (by decide)) (g := (mkF m 1 #[.val (.ref b), .val (.int (0 : Int32)), .val (.int (3 : Int32)), .unset, .unset] [(.int (3 : Int32))])) rfl (by rw [hml]; rfl) (argsL := [(.int (3 : Int32))]) (rest := []) (lenOf pdo_11 rfl) rfl (by show 2 * 0 + _ ≤ _; exact Nat.le_of_eq rfl) (hb hby d_rm_tb_3_1) (fun _ _ => ⟨rfl, e0, (by decide : 0 + 1 ≤ _), (by decide : 0 + 6 ≤ _)⟩)
  dsimp only [Pt.U, Pt.locs, Pt.cells, Pt.slots] at X101 l101 y101 z101 st101 hQ101
  subst l101 y101 z101
  obtain ⟨b101, kb101, rfl, Nq101, K101, lb101, V101a⟩ := hQ101
  have N101 := Fr.app N0 Nq101
  have pq102 : ∀ τ, Steps pP.tables e below (T101.setTop (mkF m 4 #[.val (.ref b), .val (.int (0 : Int32)), .val (.int (3 : Int32)), .unset, .unset] [(.ref b101)])) τ → Steps pP.tables e below A0 τ := by
    intro τ κ
    refine pre0 τ ?_
    refine XS.iloadN X0.here hx rfl (hb hby d_rm_tb_3_0) rfl ?_
    refine st101 _ ?_
    exact κ
  have KC101 : Keep h0 T101.heap [] := KC0.trans K101 all0
  have V101 : Arv Z T101.heap b101 kb101 .byte (Int32.ofNat (2 * 3)) ([] ++ List.replicate 6 (Value.int 0)) (.int 0) := V101a.pad (pad_rep _ _ 6)
  have f103 := (V_b.keep K101 nin0)
  obtain ⟨cl104, Ar104, q104, S104, M104, Hs104, G104⟩ := id f103
  have hin104 := inb_of (j := (0 : Int32)) S104 ⟨by decide, by decide⟩
  have f105 := (X00.keep K101 all0)
  have f106 := (Nat.le_trans Z0 K101.1)
  obtain ⟨_, _, ⟨T107, L107, k107, n107⟩, -, X107, ⟨Lc107, hQ107, l107, y107, z107⟩, st107⟩ := Jvm.LawKit.callS X101 hx (y := (⟨"java/lang/StringUTF16", "putChar", "([BII)V"⟩ : MethodName)) hown (mvT hZ (hw _ (List.mem_of_getElem? (i := 67) rfl))) (mvT hZ (hw _ (List.mem_of_getElem? (i := 68) rfl))) (mvT hZ (hw _ (List.mem_of_getElem? (i := 49) rfl))) (mvT hZ (hw _ (List.mem_of_getElem? (i := 69) rfl))) (by decide) (backOf (W := 0) (rm_upc l Z a0 hw [] b101 kb101 3 0 ([] ++ List.replicate 6 (Value.int 0)) c0 T101.heap n0 f106 OA OH OL f105 V101 (Nat.le_trans Z0 lb101) (by decide) (by decide) (by simp)) hZ (hw _ (List.mem_of_getElem? (i := 69) rfl)) (hw _ (List.mem_of_getElem? (i := 49) rfl)) (by decide) (by decide)) (g := (mkF m 20 #[.val (.ref b), .val (.int (0 : Int32)), .val (.int (3 : Int32)), .val (.ref b101), .val (.int (0 : Int32))] [(.int c0), (.int (0 : Int32)), (.ref b101)])) rfl (by rw [hml]; rfl) (argsL := [(.ref b101), (.int (0 : Int32)), (.int c0)]) (rest := []) (lenOf pdo_12 rfl) rfl (by show 2 * 0 + _ ≤ _; exact Nat.le_of_eq rfl) (hb hby d_rm_tb_3_20) (fun _ _ => ⟨rfl, rfl, (by decide : 1 + 0 ≤ _), (by decide : 6 + 0 ≤ _)⟩)
  dsimp only [Pt.U, Pt.locs, Pt.cells, Pt.slots] at X107 l107 y107 z107 st107 hQ107
  subst l107 y107 z107
  obtain ⟨rfl, Nq107, K107, V107⟩ := hQ107
  have N107 := Fr.app N101 Nq107
  have pq108 : ∀ τ, Steps pP.tables e below (T107.setTop (mkF m 23 #[.val (.ref b), .val (.int (0 : Int32)), .val (.int (3 : Int32)), .val (.ref b101), .val (.int (0 : Int32))] [])) τ → Steps pP.tables e below A0 τ := by
    intro τ κ
    refine pq102 τ ?_
    refine XS.astoreN X101.here hx rfl (hb hby d_rm_tb_3_4) rfl rfl (l' := #[.val (.ref b), .val (.int (0 : Int32)), .val (.int (3 : Int32)), .val (.ref b101), .unset]) rfl ?_
    refine XS.iconst X101.here hx rfl (hb hby d_rm_tb_3_5) ?_
    refine XS.istore X101.here hx rfl (hb hby d_rm_tb_3_6) rfl (l' := #[.val (.ref b), .val (.int (0 : Int32)), .val (.int (3 : Int32)), .val (.ref b101), .val (.int (0 : Int32))]) rfl ?_
    refine XS.iload X101.here hx rfl (hb hby d_rm_tb_3_8) rfl ?_
    refine XS.iloadN X101.here hx rfl (hb hby d_rm_tb_3_10) rfl ?_
    refine XS.icmpNo X101.here hx rfl (hb hby d_rm_tb_3_11) rfl (tlt (by decide : ((0 : Int32) < (3 : Int32)))).2.1 ?_
    refine XS.aloadN X101.here hx rfl (hb hby d_rm_tb_3_14) rfl rfl ?_
    refine XS.iload X101.here hx rfl (hb hby d_rm_tb_3_15) rfl ?_
    refine XS.aloadN X101.here hx rfl (hb hby d_rm_tb_3_17) rfl rfl ?_
    refine XS.iloadN X101.here hx rfl (hb hby d_rm_tb_3_18) rfl ?_
    refine X101.caload hx (j := (0 : Int32)) (v := (.int c0)) Ar104.1 (State.isArrayOf_alike hZ.alike Ar104.2.1) Ar104.2.2 hin104 (Has.at Hs104 hin104 rfl) (g := (mkF m 19 #[.val (.ref b), .val (.int (0 : Int32)), .val (.int (3 : Int32)), .val (.ref b101), .val (.int (0 : Int32))] [(.int (0 : Int32)), (.ref b), (.int (0 : Int32)), (.ref b101)])) rfl rfl (hb hby d_rm_tb_3_19) _ ?_
    refine st107 _ ?_
    exact κ
  have KC107 : Keep h0 T107.heap [] := KC101.trans K107 (allS (Or.inr (Nat.le_trans (Nat.le_refl _) lb101)) all0)
  have f109 := (f103.keep K107 (ninS (Nat.ne_of_lt (Nat.lt_of_lt_of_le V_b.lt lb101)) nin0))
  obtain ⟨cl110, Ar110, q110, S110, M110, Hs110, G110⟩ := id f109
  have hin110 := inb_of (j := (1 : Int32)) S110 ⟨by decide, by decide⟩
  have f111 := (f105.keep K107 (allS (Nat.le_trans Z0 lb101) all0))
  have f112 := (Nat.le_trans f106 K107.1)
  obtain ⟨_, _, ⟨T113, L113, k113, n113⟩, -, X113, ⟨Lc113, hQ113, l113, y113, z113⟩, st113⟩ := Jvm.LawKit.callS X107 hx (y := (⟨"java/lang/StringUTF16", "putChar", "([BII)V"⟩ : MethodName)) hown (mvT hZ (hw _ (List.mem_of_getElem? (i := 67) rfl))) (mvT hZ (hw _ (List.mem_of_getElem? (i := 68) rfl))) (mvT hZ (hw _ (List.mem_of_getElem? (i := 49) rfl))) (mvT hZ (hw _ (List.mem_of_getElem? (i := 69) rfl))) (by decide) (backOf (W := 0) (rm_upc l Z a0 hw [] b101 kb101 3 1 ((([] ++ List.replicate 6 (Value.int 0)).set (2 * 0) (.int (own_b c0 0))).set (2 * 0 + 1) (.int (own_b c0 8))) c1 T107.heap n0 f112 OA OH OL f111 V107 (Nat.le_trans Z0 lb101) (by decide) (by decide) (by simp)) hZ (hw _ (List.mem_of_getElem? (i := 69) rfl)) (hw _ (List.mem_of_getElem? (i := 49) rfl)) (by decide) (by decide)) (g := (mkF m 20 #[.val (.ref b), .val (.int (1 : Int32)), .val (.int (3 : Int32)), .val (.ref b101), .val (.int (1 : Int32))] [(.int c1), (.int (1 : Int32)), (.ref b101)])) rfl (by rw [hml]; rfl) (argsL := [(.ref b101), (.int (1 : Int32)), (.int c1)]) (rest := []) (lenOf pdo_12 rfl) rfl (by show 2 * 0 + _ ≤ _; exact Nat.le_of_eq rfl) (hb hby d_rm_tb_3_20) (fun _ _ => ⟨rfl, rfl, (by decide : 1 + 0 ≤ _), (by decide : 6 + 0 ≤ _)⟩)
  dsimp only [Pt.U, Pt.locs, Pt.cells, Pt.slots] at X113 l113 y113 z113 st113 hQ113
  subst l113 y113 z113
  obtain ⟨rfl, Nq113, K113, V113⟩ := hQ113
  have N113 := Fr.app N107 Nq113
  have pq114 : ∀ τ, Steps pP.tables e below (T113.setTop (mkF m 23 #[.val (.ref b), .val (.int (1 : Int32)), .val (.int (3 : Int32)), .val (.ref b101), .val (.int (1 : Int32))] [])) τ → Steps pP.tables e below A0 τ := by
    intro τ κ
    refine pq108 τ ?_
    refine XS.iinc X107.here hx rfl (hb hby d_rm_tb_3_23) rfl (l' := #[.val (.ref b), .val (.int (1 : Int32)), .val (.int (3 : Int32)), .val (.ref b101), .val (.int (0 : Int32))]) rfl ?_
    refine XS.iinc X107.here hx rfl (hb hby d_rm_tb_3_26) rfl (l' := #[.val (.ref b), .val (.int (1 : Int32)), .val (.int (3 : Int32)), .val (.ref b101), .val (.int (1 : Int32))]) rfl ?_
    refine XS.goto X107.here hx rfl (pc0 := 29) (pc' := 8) rfl (hb hby d_rm_tb_3_29) (by decide) (by decide) ?_
    refine XS.iload X107.here hx rfl (hb hby d_rm_tb_3_8) rfl ?_
    refine XS.iloadN X107.here hx rfl (hb hby d_rm_tb_3_10) rfl ?_
    refine XS.icmpNo X107.here hx rfl (hb hby d_rm_tb_3_11) rfl (tlt (by decide : ((1 : Int32) < (3 : Int32)))).2.1 ?_
    refine XS.aloadN X107.here hx rfl (hb hby d_rm_tb_3_14) rfl rfl ?_
    refine XS.iload X107.here hx rfl (hb hby d_rm_tb_3_15) rfl ?_
    refine XS.aloadN X107.here hx rfl (hb hby d_rm_tb_3_17) rfl rfl ?_
    refine XS.iloadN X107.here hx rfl (hb hby d_rm_tb_3_18) rfl ?_
    refine X107.caload hx (j := (1 : Int32)) (v := (.int c1)) Ar110.1 (State.isArrayOf_alike hZ.alike Ar110.2.1) Ar110.2.2 hin110 (Has.at Hs110 hin110 rfl) (g := (mkF m 19 #[.val (.ref b), .val (.int (1 : Int32)), .val (.int (3 : Int32)), .val (.ref b101), .val (.int (1 : Int32))] [(.int (1 : Int32)), (.ref b), (.int (1 : Int32)), (.ref b101)])) rfl rfl (hb hby d_rm_tb_3_19) _ ?_
    refine st113 _ ?_
    exact κ
  have KC113 : Keep h0 T113.heap [] := KC107.trans K113 (allS (Or.inr (Nat.le_trans (Nat.le_refl _) lb101)) all0)
  have f115 := (f109.keep K113 (ninS (Nat.ne_of_lt (Nat.lt_of_lt_of_le V_b.lt lb101)) nin0))
  obtain ⟨cl116, Ar116, q116, S116, M116, Hs116, G116⟩ := id f115
  have hin116 := inb_of (j := (2 : Int32)) S116 ⟨by decide, by decide⟩
  have f117 := (f111.keep K113 (allS (Nat.le_trans Z0 lb101) all0))
  have f118 := (Nat.le_trans f112 K113.1)
  obtain ⟨_, _, ⟨T119, L119, k119, n119⟩, -, X119, ⟨Lc119, hQ119, l119, y119, z119⟩, st119⟩ := Jvm.LawKit.callS X113 hx (y := (⟨"java/lang/StringUTF16", "putChar", "([BII)V"⟩ : MethodName)) hown (mvT hZ (hw _ (List.mem_of_getElem? (i := 67) rfl))) (mvT hZ (hw _ (List.mem_of_getElem? (i := 68) rfl))) (mvT hZ (hw _ (List.mem_of_getElem? (i := 49) rfl))) (mvT hZ (hw _ (List.mem_of_getElem? (i := 69) rfl))) (by decide) (backOf (W := 0) (rm_upc l Z a0 hw [] b101 kb101 3 2 ((((([] ++ List.replicate 6 (Value.int 0)).set (2 * 0) (.int (own_b c0 0))).set (2 * 0 + 1) (.int (own_b c0 8))).set (2 * 1) (.int (own_b c1 0))).set (2 * 1 + 1) (.int (own_b c1 8))) c2 T113.heap n0 f118 OA OH OL f117 V113 (Nat.le_trans Z0 lb101) (by decide) (by decide) (by simp)) hZ (hw _ (List.mem_of_getElem? (i := 69) rfl)) (hw _ (List.mem_of_getElem? (i := 49) rfl)) (by decide) (by decide)) (g := (mkF m 20 #[.val (.ref b), .val (.int (2 : Int32)), .val (.int (3 : Int32)), .val (.ref b101), .val (.int (2 : Int32))] [(.int c2), (.int (2 : Int32)), (.ref b101)])) rfl (by rw [hml]; rfl) (argsL := [(.ref b101), (.int (2 : Int32)), (.int c2)]) (rest := []) (lenOf pdo_12 rfl) rfl (by show 2 * 0 + _ ≤ _; exact Nat.le_of_eq rfl) (hb hby d_rm_tb_3_20) (fun _ _ => ⟨rfl, rfl, (by decide : 1 + 0 ≤ _), (by decide : 6 + 0 ≤ _)⟩)
  dsimp only [Pt.U, Pt.locs, Pt.cells, Pt.slots] at X119 l119 y119 z119 st119 hQ119
  subst l119 y119 z119
  obtain ⟨rfl, Nq119, K119, V119⟩ := hQ119
  have N119 := Fr.app N113 Nq119
  have pq120 : ∀ τ, Steps pP.tables e below (T119.setTop (mkF m 23 #[.val (.ref b), .val (.int (2 : Int32)), .val (.int (3 : Int32)), .val (.ref b101), .val (.int (2 : Int32))] [])) τ → Steps pP.tables e below A0 τ := by
    intro τ κ
    refine pq114 τ ?_
    refine XS.iinc X113.here hx rfl (hb hby d_rm_tb_3_23) rfl (l' := #[.val (.ref b), .val (.int (2 : Int32)), .val (.int (3 : Int32)), .val (.ref b101), .val (.int (1 : Int32))]) rfl ?_
    refine XS.iinc X113.here hx rfl (hb hby d_rm_tb_3_26) rfl (l' := #[.val (.ref b), .val (.int (2 : Int32)), .val (.int (3 : Int32)), .val (.ref b101), .val (.int (2 : Int32))]) rfl ?_
    refine XS.goto X113.here hx rfl (pc0 := 29) (pc' := 8) rfl (hb hby d_rm_tb_3_29) (by decide) (by decide) ?_
    refine XS.iload X113.here hx rfl (hb hby d_rm_tb_3_8) rfl ?_
    refine XS.iloadN X113.here hx rfl (hb hby d_rm_tb_3_10) rfl ?_
    refine XS.icmpNo X113.here hx rfl (hb hby d_rm_tb_3_11) rfl (tlt (by decide : ((2 : Int32) < (3 : Int32)))).2.1 ?_
    refine XS.aloadN X113.here hx rfl (hb hby d_rm_tb_3_14) rfl rfl ?_
    refine XS.iload X113.here hx rfl (hb hby d_rm_tb_3_15) rfl ?_
    refine XS.aloadN X113.here hx rfl (hb hby d_rm_tb_3_17) rfl rfl ?_
    refine XS.iloadN X113.here hx rfl (hb hby d_rm_tb_3_18) rfl ?_
    refine X113.caload hx (j := (2 : Int32)) (v := (.int c2)) Ar116.1 (State.isArrayOf_alike hZ.alike Ar116.2.1) Ar116.2.2 hin116 (Has.at Hs116 hin116 rfl) (g := (mkF m 19 #[.val (.ref b), .val (.int (2 : Int32)), .val (.int (3 : Int32)), .val (.ref b101), .val (.int (2 : Int32))] [(.int (2 : Int32)), (.ref b), (.int (2 : Int32)), (.ref b101)])) rfl rfl (hb hby d_rm_tb_3_19) _ ?_
    refine st119 _ ?_
    exact κ
  have KC119 : Keep h0 T119.heap [] := KC113.trans K119 (allS (Or.inr (Nat.le_trans (Nat.le_refl _) lb101)) all0)
  have hu121 : own_u16 ((((((([] ++ List.replicate 6 (Value.int 0)).set (2 * 0) (.int (own_b c0 0))).set (2 * 0 + 1) (.int (own_b c0 8))).set (2 * 1) (.int (own_b c1 0))).set (2 * 1 + 1) (.int (own_b c1 8))).set (2 * 2) (.int (own_b c2 0))).set (2 * 2 + 1) (.int (own_b c2 8))) ([c0, c1, c2] : List Int32) := by
    intro i hi
    have hi3 : i = 0 ∨ i = 1 ∨ i = 2 := by have q : i < 3 := hi; omega
    rcases hi3 with rfl | rfl | rfl <;> exact ⟨rfl, rfl⟩
  obtain ⟨fs, hr, hrun, hended, hW, hsame⟩ := X119.leave (v := some (.ref b101)) (fun h => by rw [Bd.returns] at h; cases h)
  have pqE := pq120
  rw [hA0] at pqE
  refine ⟨_, _, pqE _ ?_, hrun, hended, _, _, rfl, ?_, ⟨_, rfl⟩, hW, hsame.mono (by decide) (by decide)⟩
  · refine XS.iinc X119.here hx rfl (hb hby d_rm_tb_3_23) rfl (l' := #[.val (.ref b), .val (.int (3 : Int32)), .val (.int (3 : Int32)), .val (.ref b101), .val (.int (2 : Int32))]) rfl ?_
    refine XS.iinc X119.here hx rfl (hb hby d_rm_tb_3_26) rfl (l' := #[.val (.ref b), .val (.int (3 : Int32)), .val (.int (3 : Int32)), .val (.ref b101), .val (.int (3 : Int32))]) rfl ?_
    refine XS.goto X119.here hx rfl (pc0 := 29) (pc' := 8) rfl (hb hby d_rm_tb_3_29) (by decide) (by decide) ?_
    refine XS.iload X119.here hx rfl (hb hby d_rm_tb_3_8) rfl ?_
    refine XS.iloadN X119.here hx rfl (hb hby d_rm_tb_3_10) rfl ?_
    refine XS.icmpYes X119.here hx rfl (pc0 := 11) (pc' := 32) rfl (hb hby d_rm_tb_3_11) rfl (flt (by decide : ¬ ((3 : Int32) < (3 : Int32)))).2.1 (by decide) (by decide) ?_
    refine XS.aloadN X119.here hx rfl (hb hby d_rm_tb_3_32) rfl rfl ?_
    show Steps pP.tables e below (T119.setTop (mkF m 33 #[.val (.ref b), .val (.int (3 : Int32)), .val (.int (3 : Int32)), .val (.ref b101), .val (.int (3 : Int32))] [(.ref b101)])) _
    exact retOut X119 hx Bd.returns rfl (Or.inr (Or.inr (Or.inr (Or.inr ⟨rfl, rfl, rfl⟩)))) (hb hby d_rm_tb_3_33) hr
  · show Q_tb Z ([c0, c1, c2] : List Int32) h0 n0 _ T119.heap _
    exact ⟨b101, _, _, rfl, N119, KC119, (Nat.le_trans (Nat.le_refl _) lb101), V119, hu121⟩
theorem d_rm_c3_3_0 : decode jdk_52_method_16_code 0 = .ok (.iload_n 2, 1) := by decide +kernel
theorem d_rm_c3_3_1 : decode jdk_52_method_16_code 1 = .ok (.newarray .byte, 2) := by decide +kernel
theorem d_rm_c3_3_3 : decode jdk_52_method_16_code 3 = .ok (.astore_n 3, 1) := by decide +kernel
theorem d_rm_c3_3_4 : decode jdk_52_method_16_code 4 = .ok (.aload_n 0, 1) := by decide +kernel
theorem d_rm_c3_3_5 : decode jdk_52_method_16_code 5 = .ok (.iload_n 1, 1) := by decide +kernel
theorem d_rm_c3_3_6 : decode jdk_52_method_16_code 6 = .ok (.aload_n 3, 1) := by decide +kernel
theorem d_rm_c3_3_7 : decode jdk_52_method_16_code 7 = .ok (.iconst 0, 1) := by decide +kernel
theorem d_rm_c3_3_8 : decode jdk_52_method_16_code 8 = .ok (.iload_n 2, 1) := by decide +kernel
theorem d_rm_c3_3_9 : decode jdk_52_method_16_code 9 = .ok (.invokestatic 115, 3) := by decide +kernel
theorem d_rm_c3_3_12 : decode jdk_52_method_16_code 12 = .ok (.istore 4, 2) := by decide +kernel
theorem d_rm_c3_3_14 : decode jdk_52_method_16_code 14 = .ok (.iload 4, 2) := by decide +kernel
theorem d_rm_c3_3_16 : decode jdk_52_method_16_code 16 = .ok (.iload_n 2, 1) := by decide +kernel
theorem d_rm_c3_3_17 : decode jdk_52_method_16_code 17 = .ok (.if_icmp .eq 40, 3) := by decide +kernel
theorem d_rm_c3_3_20 : decode jdk_52_method_16_code 20 = .ok (.aload_n 0, 1) := by decide +kernel
theorem d_rm_c3_3_21 : decode jdk_52_method_16_code 21 = .ok (.iload_n 1, 1) := by decide +kernel
theorem d_rm_c3_3_22 : decode jdk_52_method_16_code 22 = .ok (.iload_n 2, 1) := by decide +kernel
theorem d_rm_c3_3_23 : decode jdk_52_method_16_code 23 = .ok (.invokestatic 119, 3) := by decide +kernel
theorem d_rm_c3_3_26 : decode jdk_52_method_16_code 26 = .ok (.astore 5, 2) := by decide +kernel
theorem d_rm_c3_3_28 : decode jdk_52_method_16_code 28 = .ok (.aload 5, 2) := by decide +kernel
theorem d_rm_c3_3_30 : decode jdk_52_method_16_code 30 = .ok (.iload 4, 2) := by decide +kernel
theorem d_rm_c3_3_32 : decode jdk_52_method_16_code 32 = .ok (.invokestatic 71, 3) := by decide +kernel
theorem d_rm_c3_3_35 : decode jdk_52_method_16_code 35 = .ok (.sipush 255, 3) := by decide +kernel
theorem d_rm_c3_3_38 : decode jdk_52_method_16_code 38 = .ok (.if_icmp .gt 16, 3) := by decide +kernel
theorem d_rm_c3_3_54 : decode jdk_52_method_16_code 54 = .ok (.aload 5, 2) := by decide +kernel
theorem d_rm_c3_3_56 : decode jdk_52_method_16_code 56 = .ok (.areturn, 1) := by decide +kernel
theorem ef_rm_c3_3 (m : MethodId) (x0 : Addr) (x1 : Int32) (x2 : Int32) : entryFrame m #[(.ref x0), (.int x1), (.int x2)] 6 = mkF m 0 #[.val (.ref x0), .val (.int x1), .val (.int x2), .unset, .unset, .unset] [] := by first | (simp [entryFrame, mkF, argsToLocals, Value.category]; done) | rfl
set_option maxRecDepth 65536 in
set_option maxHeartbeats 3000000 in
theorem rm_c3_3 (l : Launch) (Z : State) (a0 : Array Value) (hw : ∀ d ∈ tables_1, d.before a0 Z = true) (ws : List Jvm.Cond) (b : Addr) (kc : ClassId) (c0 c1 c2 : Int32) (h0 : Heap) (n0 : Nat) (Z0 : n0 ≤ h0.size) (OA : Sta Z Z.heap "java/lang/StringUTF16" "$assertionsDisabled" "Z" (.int 1)) (OH : Sta Z Z.heap "java/lang/StringUTF16" "HI_BYTE_SHIFT" "I" (.int 0)) (OL : Sta Z Z.heap "java/lang/StringUTF16" "LO_BYTE_SHIFT" "I" (.int 8)) (X00 : Old Z n0 h0) (V_b : Arv Z h0 b kc .char (3 : Int32) [(.int c0), (.int c1), (.int c2)] (.int (0 : Int32))) (hbad : ¬ ∀ c ∈ ([c0, c1, c2] : List Int32), ¬ (255 : Int32) < c) (hB : ∀ c ∈ ([c0, c1, c2] : List Int32), ¬ c < 0 ∧ ¬ (65535 : Int32) < c) :
    MetFree l (⟨"java/lang/StringUTF16", "compress", "([CII)[B"⟩ : MethodName) (head1 (Jvm.Cond.code (⟨"java/lang/StringUTF16", "compress", "([CII)[B"⟩ : MethodName) jdk_52_method_16_code 6 (some (.array .byte)) :: ws) ({ frames := 3, cells := 2, slots := 9, locals := 40 } : Room)) (fun αs U => αs = #[(.ref b), (.int (0 : Int32)), (.int (3 : Int32))] ∧ Z.Warmed39 U.vm ∧ U.heap = h0) (fun _ _ _ _ _ => True) (fun _ U o U' => ∃ v L, o = .returned v ∧ Q_tb Z ([c0, c1, c2] : List Int32) h0 n0 v U'.heap L ∧ FrameEnd U o U' L ({ frames := 3, cells := 2, slots := 9, locals := 40 } : Room).cells ({ frames := 3, cells := 2, slots := 9, locals := 40 } : Room).slots) := by
  refine MetFree.of_bodySF (plainFor_of_name pno_5) hisR ?_
  intro pP e s m args below meth cC s₁ Bd hml0 hP hK
  obtain ⟨rfl, hZ, hh⟩ := hP
  have hx := Bd.exec
  have hby := Bd.bytes
  have hml : cC.maxLocals = 6 := hml0
  have hown : s.vm.findClass "java/lang/StringUTF16" = some m.cls := findClass_of_methodNamed Bd.named
  have hnm := (name_of_methodNamed Bd.named Bd.method).1
  have X0 : Stand pP l e ({ frames := 3, cells := 2, slots := 9, locals := 40 } : Room) s m #[(.ref b), (.int (0 : Int32)), (.int (3 : Int32))] below meth cC s₁ [] 0 0 := Stand.of_body Bd
  have e0 : s₁.heap = h0 := by rw [← hh, Bd.state]; rfl
  have N0 := Fr.nil n0
  have KC0 : Keep h0 h0 [] := Keep.refl h0 _
  obtain ⟨A0, hA0⟩ : ∃ z, z = s₁.setTop (entryFrame m #[(.ref b), (.int (0 : Int32)), (.int (3 : Int32))] 6) := ⟨_, rfl⟩
  have pre0 : ∀ τ, Steps pP.tables e below (s₁.setTop (mkF m 0 #[.val (.ref b), .val (.int (0 : Int32)), .val (.int (3 : Int32)), .unset, .unset, .unset] [])) τ → Steps pP.tables e below A0 τ := fun τ κ => by rw [hA0]; exact castTop (ef_rm_c3_3 m b (0 : Int32) (3 : Int32)) κ
  obtain ⟨T101, h101, k101, X101, e101, E101, A101, st101⟩ := newP X0 hx hZ (hw _ (List.mem_of_getElem? (i := 25) rfl)) e0 (g := (mkF m 1 #[.val (.ref b), .val (.int (0 : Int32)), .val (.int (3 : Int32)), .unset, .unset, .unset] [(.int (3 : Int32))])) rfl (hb hby d_rm_c3_3_1) rfl (by decide) (cap := 3) (by decide) (by decide) (by decide) (by decide)
  obtain ⟨b101, g101⟩ : ∃ z, z = h0.size := ⟨_, rfl⟩
  rw [← g101] at A101 st101
  have pq102 : ∀ τ, Steps pP.tables e below (T101.setTop (mkF m 3 #[.val (.ref b), .val (.int (0 : Int32)), .val (.int (3 : Int32)), .unset, .unset, .unset] [(.ref b101)])) τ → Steps pP.tables e below A0 τ := by
    intro τ κ
    refine pre0 τ ?_
    refine XS.iloadN X0.here hx rfl (hb hby d_rm_c3_3_0) rfl ?_
    refine st101 _ ?_
    exact κ
  have KC101 : Keep h0 h101 [] := KC0.ext E101
  have V101 : Arv Z h101 b101 k101 .byte (3 : Int32) [(.int (0 : Int32)), (.int (0 : Int32)), (.int (0 : Int32))] (.int (0 : Int32)) := (Arv.new A101 (by decide)).pad (pad_rep [] (.int (0 : Int32)) 3)
  have f103 := (V_b.ext E101)
  have f104 := (Nat.le_trans Z0 E101.1)
  obtain ⟨_, _, ⟨T105, L105, k105, n105⟩, -, X105, ⟨Lc105, hQ105, l105, y105, z105⟩, st105⟩ := Jvm.LawKit.callS X101 hx (y := (⟨"java/lang/StringUTF16", "compress", "([CI[BII)I"⟩ : MethodName)) hown (mvT hZ (hw _ (List.mem_of_getElem? (i := 51) rfl))) (mvT hZ (hw _ (List.mem_of_getElem? (i := 52) rfl))) (mvT hZ (hw _ (List.mem_of_getElem? (i := 49) rfl))) (mvT hZ (hw _ (List.mem_of_getElem? (i := 53) rfl))) (by decide) (backOf (W := 0) (rm_c5_3 l Z a0 hw [] b b101 kc k101 c0 c1 c2 h101 n0 f104 f103 V101 (Nat.le_trans Z0 (Nat.le_of_eq g101.symm)) (Nat.ne_of_lt (Nat.lt_of_lt_of_le V_b.lt (Nat.le_of_eq g101.symm))) hbad) hZ (hw _ (List.mem_of_getElem? (i := 53) rfl)) (hw _ (List.mem_of_getElem? (i := 49) rfl)) (by decide) (by decide)) (g := (mkF m 9 #[.val (.ref b), .val (.int (0 : Int32)), .val (.int (3 : Int32)), .val (.ref b101), .unset, .unset] [(.int (3 : Int32)), (.int (0 : Int32)), (.ref b101), (.int (0 : Int32)), (.ref b)])) rfl (by rw [hml]; rfl) (argsL := [(.ref b), (.int (0 : Int32)), (.ref b101), (.int (0 : Int32)), (.int (3 : Int32))]) (rest := []) (lenOf pdo_13 rfl) rfl (by show 2 * 0 + _ ≤ _; exact Nat.le_of_eq rfl) (hb hby d_rm_c3_3_9) (fun _ _ => ⟨rfl, e101, (by decide : 1 + 0 ≤ _), (by decide : 3 + 0 ≤ _)⟩)
  dsimp only [Pt.U, Pt.locs, Pt.cells, Pt.slots] at X105 l105 y105 z105 st105 hQ105
  subst l105 y105 z105
  obtain ⟨j105, rfl, hj105, gj105, Nq105, K105⟩ := hQ105
  have N105 := Fr.app N0 Nq105
  have pq106 : ∀ τ, Steps pP.tables e below (T105.setTop (mkF m 12 #[.val (.ref b), .val (.int (0 : Int32)), .val (.int (3 : Int32)), .val (.ref b101), .unset, .unset] [(.int (Int32.ofNat j105))])) τ → Steps pP.tables e below A0 τ := by
    intro τ κ
    refine pq102 τ ?_
    refine XS.astoreN X101.here hx rfl (hb hby d_rm_c3_3_3) rfl rfl (l' := #[.val (.ref b), .val (.int (0 : Int32)), .val (.int (3 : Int32)), .val (.ref b101), .unset, .unset]) rfl ?_
    refine XS.aloadN X101.here hx rfl (hb hby d_rm_c3_3_4) rfl rfl ?_
    refine XS.iloadN X101.here hx rfl (hb hby d_rm_c3_3_5) rfl ?_
    refine XS.aloadN X101.here hx rfl (hb hby d_rm_c3_3_6) rfl rfl ?_
    refine XS.iconst X101.here hx rfl (hb hby d_rm_c3_3_7) ?_
    refine XS.iloadN X101.here hx rfl (hb hby d_rm_c3_3_8) rfl ?_
    refine st105 _ ?_
    exact κ
  have KC105 : Keep h0 T105.heap [] := KC101.trans K105 (allS (Or.inr (Nat.le_trans (Nat.le_refl _) (Nat.le_of_eq g101.symm))) all0)
  have f107 := ((X00.ext E101).keep K105 (allS (Nat.le_trans Z0 (Nat.le_of_eq g101.symm)) all0))
  have f108 := (f103.keep K105 (ninS (Nat.ne_of_lt (Nat.lt_of_lt_of_le V_b.lt (Nat.le_of_eq g101.symm))) nin0))
  have f109 := (Nat.le_trans f104 K105.1)
  obtain ⟨_, _, ⟨T110, L110, k110, n110⟩, -, X110, ⟨Lc110, hQ110, l110, y110, z110⟩, st110⟩ := Jvm.LawKit.callS X105 hx (y := (⟨"java/lang/StringUTF16", "toBytes", "([CII)[B"⟩ : MethodName)) hown (mvT hZ (hw _ (List.mem_of_getElem? (i := 57) rfl))) (mvT hZ (hw _ (List.mem_of_getElem? (i := 58) rfl))) (mvT hZ (hw _ (List.mem_of_getElem? (i := 49) rfl))) (mvT hZ (hw _ (List.mem_of_getElem? (i := 59) rfl))) (by decide) (backOf (W := 0) (rm_tb_3 l Z a0 hw [] b kc c0 c1 c2 T105.heap n0 f109 OA OH OL f107 f108) hZ (hw _ (List.mem_of_getElem? (i := 59) rfl)) (hw _ (List.mem_of_getElem? (i := 49) rfl)) (by decide) (by decide)) (g := (mkF m 23 #[.val (.ref b), .val (.int (0 : Int32)), .val (.int (3 : Int32)), .val (.ref b101), .val (.int (Int32.ofNat j105)), .unset] [(.int (3 : Int32)), (.int (0 : Int32)), (.ref b)])) rfl (by rw [hml]; rfl) (argsL := [(.ref b), (.int (0 : Int32)), (.int (3 : Int32))]) (rest := []) (lenOf pdo_14 rfl) rfl (by show 2 * 0 + _ ≤ _; exact Nat.le_of_eq rfl) (hb hby d_rm_c3_3_23) (fun _ _ => ⟨rfl, rfl, (by decide : 1 + 1 ≤ _), (by decide : 3 + 6 ≤ _)⟩)
  dsimp only [Pt.U, Pt.locs, Pt.cells, Pt.slots] at X110 l110 y110 z110 st110 hQ110
  subst l110 y110 z110
  obtain ⟨u110, ku110, vs110, rfl, Nq110, K110, lb110, V110, hu110⟩ := hQ110
  have N110 := Fr.app N105 Nq110
  have pq111 : ∀ τ, Steps pP.tables e below (T110.setTop (mkF m 26 #[.val (.ref b), .val (.int (0 : Int32)), .val (.int (3 : Int32)), .val (.ref b101), .val (.int (Int32.ofNat j105)), .unset] [(.ref u110)])) τ → Steps pP.tables e below A0 τ := by
    intro τ κ
    refine pq106 τ ?_
    refine XS.istore X105.here hx rfl (hb hby d_rm_c3_3_12) rfl (l' := #[.val (.ref b), .val (.int (0 : Int32)), .val (.int (3 : Int32)), .val (.ref b101), .val (.int (Int32.ofNat j105)), .unset]) rfl ?_
    refine XS.iload X105.here hx rfl (hb hby d_rm_c3_3_14) rfl ?_
    refine XS.iloadN X105.here hx rfl (hb hby d_rm_c3_3_16) rfl ?_
    refine XS.icmpNo X105.here hx rfl (hb hby d_rm_c3_3_17) rfl (feq (own_nej (n := 3) hj105 (by decide))).1 ?_
    refine XS.aloadN X105.here hx rfl (hb hby d_rm_c3_3_20) rfl rfl ?_
    refine XS.iloadN X105.here hx rfl (hb hby d_rm_c3_3_21) rfl ?_
    refine XS.iloadN X105.here hx rfl (hb hby d_rm_c3_3_22) rfl ?_
    refine st110 _ ?_
    exact κ
  have KC110 : Keep h0 T110.heap [] := KC105.trans K110 all0
  have f112 := (f107.keep K110 all0)
  have f113 := (Nat.le_trans f109 K110.1)
  obtain ⟨_, _, ⟨T114, L114, k114, n114⟩, -, X114, ⟨Lc114, hQ114, l114, y114, z114⟩, st114⟩ := Jvm.LawKit.callS X110 hx (y := (⟨"java/lang/StringUTF16", "getChar", "([BI)C"⟩ : MethodName)) hown (mvT hZ (hw _ (List.mem_of_getElem? (i := 73) rfl))) (mvT hZ (hw _ (List.mem_of_getElem? (i := 74) rfl))) (mvT hZ (hw _ (List.mem_of_getElem? (i := 49) rfl))) (mvT hZ (hw _ (List.mem_of_getElem? (i := 75) rfl))) (by decide) (backOf (W := 0) (rm_uget l Z a0 hw [] u110 ku110 ([c0, c1, c2] : List Int32) vs110 j105 T110.heap n0 f113 OA OH OL f112 V110 hu110 hB (by simp) hj105) hZ (hw _ (List.mem_of_getElem? (i := 75) rfl)) (hw _ (List.mem_of_getElem? (i := 49) rfl)) (by decide) (by decide)) (g := (mkF m 32 #[.val (.ref b), .val (.int (0 : Int32)), .val (.int (3 : Int32)), .val (.ref b101), .val (.int (Int32.ofNat j105)), .val (.ref u110)] [(.int (Int32.ofNat j105)), (.ref u110)])) rfl (by rw [hml]; rfl) (argsL := [(.ref u110), (.int (Int32.ofNat j105))]) (rest := []) (lenOf pdo_5 rfl) rfl (by show 2 * 0 + _ ≤ _; exact Nat.le_of_eq rfl) (hb hby d_rm_c3_3_32) (fun _ _ => ⟨rfl, rfl, (by decide : 2 + 0 ≤ _), (by decide : 9 + 0 ≤ _)⟩)
  dsimp only [Pt.U, Pt.locs, Pt.cells, Pt.slots] at X114 l114 y114 z114 st114 hQ114
  subst l114 y114 z114
  obtain ⟨rfl, Nq114, eq114⟩ := hQ114
  have N114 := Fr.app N110 Nq114
  have pq115 : ∀ τ, Steps pP.tables e below (T114.setTop (mkF m 35 #[.val (.ref b), .val (.int (0 : Int32)), .val (.int (3 : Int32)), .val (.ref b101), .val (.int (Int32.ofNat j105)), .val (.ref u110)] [(.int (([c0, c1, c2] : List Int32).getD j105 0))])) τ → Steps pP.tables e below A0 τ := by
    intro τ κ
    refine pq111 τ ?_
    refine XS.astore X110.here hx rfl (hb hby d_rm_c3_3_26) rfl rfl (l' := #[.val (.ref b), .val (.int (0 : Int32)), .val (.int (3 : Int32)), .val (.ref b101), .val (.int (Int32.ofNat j105)), .val (.ref u110)]) rfl ?_
    refine XS.aload X110.here hx rfl (hb hby d_rm_c3_3_28) rfl rfl ?_
    refine XS.iload X110.here hx rfl (hb hby d_rm_c3_3_30) rfl ?_
    refine st114 _ ?_
    exact κ
  obtain ⟨fs, hr, hrun, hended, hW, hsame⟩ := X114.leave (v := some (.ref u110)) (fun h => by rw [Bd.returns] at h; cases h)
  have pqE := pq115
  rw [hA0] at pqE
  refine ⟨_, _, pqE _ ?_, hrun, hended, _, _, rfl, ?_, ⟨_, rfl⟩, hW, hsame.mono (by decide) (by decide)⟩
  · refine XS.sipush X114.here hx rfl (hb hby d_rm_c3_3_35) ?_
    refine XS.icmpYes X114.here hx rfl (pc0 := 38) (pc' := 54) rfl (hb hby d_rm_c3_3_38) rfl (tlt gj105).2.2.1 (by decide) (by decide) ?_
    refine XS.aload X114.here hx rfl (hb hby d_rm_c3_3_54) rfl rfl ?_
    show Steps pP.tables e below (T114.setTop (mkF m 56 #[.val (.ref b), .val (.int (0 : Int32)), .val (.int (3 : Int32)), .val (.ref b101), .val (.int (Int32.ofNat j105)), .val (.ref u110)] [(.ref u110)])) _
    exact retOut X114 hx Bd.returns rfl (Or.inr (Or.inr (Or.inr (Or.inr ⟨rfl, rfl, rfl⟩)))) (hb hby d_rm_c3_3_56) hr
  · show Q_tb Z ([c0, c1, c2] : List Int32) h0 n0 _ T114.heap _
    rw [eq114]
    exact ⟨u110, _, _, rfl, N114, KC110, (Nat.le_trans (Nat.le_trans (Nat.le_trans (Nat.le_refl _) E101.1) K105.1) lb110), V110, hu110⟩
theorem d_rm_i4_3_0 : decode jdk_42_method_149_code 0 = .ok (.aload_n 0, 1) := by decide +kernel
theorem d_rm_i4_3_1 : decode jdk_42_method_149_code 1 = .ok (.invokespecial 1, 3) := by decide +kernel
theorem d_rm_i4_3_4 : decode jdk_42_method_149_code 4 = .ok (.iload_n 3, 1) := by decide +kernel
theorem d_rm_i4_3_5 : decode jdk_42_method_149_code 5 = .ok (.ifCond .ne 22, 3) := by decide +kernel
theorem d_rm_i4_3_27 : decode jdk_42_method_149_code 27 = .ok (.getstatic 38, 3) := by decide +kernel
theorem d_rm_i4_3_30 : decode jdk_42_method_149_code 30 = .ok (.ifCond .eq 28, 3) := by decide +kernel
theorem d_rm_i4_3_33 : decode jdk_42_method_149_code 33 = .ok (.aload_n 1, 1) := by decide +kernel
theorem d_rm_i4_3_34 : decode jdk_42_method_149_code 34 = .ok (.iload_n 2, 1) := by decide +kernel
theorem d_rm_i4_3_35 : decode jdk_42_method_149_code 35 = .ok (.iload_n 3, 1) := by decide +kernel
theorem d_rm_i4_3_36 : decode jdk_42_method_149_code 36 = .ok (.invokestatic 177, 3) := by decide +kernel
theorem d_rm_i4_3_39 : decode jdk_42_method_149_code 39 = .ok (.astore 5, 2) := by decide +kernel
theorem d_rm_i4_3_41 : decode jdk_42_method_149_code 41 = .ok (.aload_n 0, 1) := by decide +kernel
theorem d_rm_i4_3_42 : decode jdk_42_method_149_code 42 = .ok (.aload 5, 2) := by decide +kernel
theorem d_rm_i4_3_44 : decode jdk_42_method_149_code 44 = .ok (.iload_n 3, 1) := by decide +kernel
theorem d_rm_i4_3_45 : decode jdk_42_method_149_code 45 = .ok (.invokestatic 47, 3) := by decide +kernel
theorem d_rm_i4_3_48 : decode jdk_42_method_149_code 48 = .ok (.putfield 15, 3) := by decide +kernel
theorem d_rm_i4_3_51 : decode jdk_42_method_149_code 51 = .ok (.aload_n 0, 1) := by decide +kernel
theorem d_rm_i4_3_52 : decode jdk_42_method_149_code 52 = .ok (.aload 5, 2) := by decide +kernel
theorem d_rm_i4_3_54 : decode jdk_42_method_149_code 54 = .ok (.putfield 9, 3) := by decide +kernel
theorem d_rm_i4_3_57 : decode jdk_42_method_149_code 57 = .ok (.return_, 1) := by decide +kernel
theorem ef_rm_i4_3 (m : MethodId) (x0 : Addr) (x1 : Addr) (x2 : Int32) (x3 : Int32) : entryFrame m #[(.ref x0), (.ref x1), (.int x2), (.int x3), .null] 6 = mkF m 0 #[.val (.ref x0), .val (.ref x1), .val (.int x2), .val (.int x3), .val .null, .unset] [] := by first | (simp [entryFrame, mkF, argsToLocals, Value.category]; done) | rfl
set_option maxRecDepth 65536 in
set_option maxHeartbeats 3000000 in
theorem rm_i4_3 (l : Launch) (Z : State) (a0 : Array Value) (hw : ∀ d ∈ tables_1, d.before a0 Z = true) (ws : List Jvm.Cond) (a b : Addr) (kc : ClassId) (c0 c1 c2 : Int32) (G1 : Int32) (h0 : Heap) (n0 : Nat) (Z0 : n0 ≤ h0.size) (O2 : Sta Z Z.heap "java/lang/String" "COMPACT_STRINGS" "Z" (.int G1)) (P5 : ¬ (G1 = (0 : Int32))) (X00 : Old Z n0 h0) (OA : Sta Z Z.heap "java/lang/StringUTF16" "$assertionsDisabled" "Z" (.int 1)) (OH : Sta Z Z.heap "java/lang/StringUTF16" "HI_BYTE_SHIFT" "I" (.int 0)) (OL : Sta Z Z.heap "java/lang/StringUTF16" "LO_BYTE_SHIFT" "I" (.int 8)) (E_a : Exa Z h0 a "java/lang/String") (ga : n0 ≤ a) (F_value : Fld Z h0 a "java/lang/String" "value" "[B" .null) (F_coder : Fld Z h0 a "java/lang/String" "coder" "B" (.int (0 : Int32))) (V_b : Arv Z h0 b kc .char (3 : Int32) [(.int c0), (.int c1), (.int c2)] (.int (0 : Int32))) (hbad : ¬ ∀ c ∈ ([c0, c1, c2] : List Int32), ¬ (255 : Int32) < c) (hB : ∀ c ∈ ([c0, c1, c2] : List Int32), ¬ c < 0 ∧ ¬ (65535 : Int32) < c) :
    MetFree l (⟨"java/lang/String", "<init>", "([CIILjava/lang/Void;)V"⟩ : MethodName) (head1 (Jvm.Cond.code (⟨"java/lang/String", "<init>", "([CIILjava/lang/Void;)V"⟩ : MethodName) jdk_42_method_149_code 6 none :: ws) ({ frames := 4, cells := 2, slots := 9, locals := 57 } : Room)) (fun αs U => αs = #[(.ref a), (.ref b), (.int (0 : Int32)), (.int (3 : Int32)), .null] ∧ Z.Warmed39 U.vm ∧ U.heap = h0) (fun _ _ _ _ _ => True) (fun _ U o U' => ∃ v L, o = .returned v ∧ Q_new Z a ([c0, c1, c2] : List Int32) h0 n0 v U'.heap L ∧ FrameEnd U o U' L ({ frames := 4, cells := 2, slots := 9, locals := 57 } : Room).cells ({ frames := 4, cells := 2, slots := 9, locals := 57 } : Room).slots) := by
  refine MetFree.of_bodySF (plainFor_of_name pno_2) hisR ?_
  intro pP e s m args below meth cC s₁ Bd hml0 hP hK
  obtain ⟨rfl, hZ, hh⟩ := hP
  have hx := Bd.exec
  have hby := Bd.bytes
  have hml : cC.maxLocals = 6 := hml0
  have hown : s.vm.findClass "java/lang/String" = some m.cls := findClass_of_methodNamed Bd.named
  have hnm := (name_of_methodNamed Bd.named Bd.method).1
  have X0 : Stand pP l e ({ frames := 4, cells := 2, slots := 9, locals := 57 } : Room) s m #[(.ref a), (.ref b), (.int (0 : Int32)), (.int (3 : Int32)), .null] below meth cC s₁ [] 0 0 := Stand.of_body Bd
  have e0 : s₁.heap = h0 := by rw [← hh, Bd.state]; rfl
  have N0 := Fr.nil n0
  have KC0 : Keep h0 h0 [a] := Keep.refl h0 _
  obtain ⟨A0, hA0⟩ : ∃ z, z = s₁.setTop (entryFrame m #[(.ref a), (.ref b), (.int (0 : Int32)), (.int (3 : Int32)), .null] 6) := ⟨_, rfl⟩
  have pre0 : ∀ τ, Steps pP.tables e below (s₁.setTop (mkF m 0 #[.val (.ref a), .val (.ref b), .val (.int (0 : Int32)), .val (.int (3 : Int32)), .val .null, .unset] [])) τ → Steps pP.tables e below A0 τ := fun τ κ => by rw [hA0]; exact castTop (ef_rm_i4_3 m a b (0 : Int32) (3 : Int32)) κ
  obtain ⟨T101, X101, e101, st101⟩ := initO X0 hx hZ hown (hw _ (List.mem_of_getElem? (i := 21) rfl)) (hw _ (List.mem_of_getElem? (i := 22) rfl)) (hw _ (List.mem_of_getElem? (i := 23) rfl)) e0 (g := (mkF m 1 #[.val (.ref a), .val (.ref b), .val (.int (0 : Int32)), .val (.int (3 : Int32)), .val .null, .unset] [(.ref a)])) rfl (by rw [hml]; rfl) rfl (hb hby d_rm_i4_3_1) (by decide) (W := 0) (by show 2 * 0 + _ ≤ _; exact Nat.le_of_eq rfl) (by decide)
  have pq102 : ∀ τ, Steps pP.tables e below (T101.setTop (mkF m 4 #[.val (.ref a), .val (.ref b), .val (.int (0 : Int32)), .val (.int (3 : Int32)), .val .null, .unset] [])) τ → Steps pP.tables e below A0 τ := by
    intro τ κ
    refine pre0 τ ?_
    refine XS.aloadN X0.here hx rfl (hb hby d_rm_i4_3_0) rfl rfl ?_
    refine st101 _ ?_
    exact κ
  obtain ⟨T103, X103, e103, st103⟩ := getS2 X101 hx hZ hown (host := "") (Or.inl (hw _ (List.mem_of_getElem? (i := 46) rfl))) Via.refl e101 (O2.ext X00.2) (g := (mkF m 27 #[.val (.ref a), .val (.ref b), .val (.int (0 : Int32)), .val (.int (3 : Int32)), .val .null, .unset] [])) rfl (hb hby d_rm_i4_3_27)
  have pq104 : ∀ τ, Steps pP.tables e below (T103.setTop (mkF m 30 #[.val (.ref a), .val (.ref b), .val (.int (0 : Int32)), .val (.int (3 : Int32)), .val .null, .unset] [(.int G1)])) τ → Steps pP.tables e below A0 τ := by
    intro τ κ
    refine pq102 τ ?_
    refine XS.iloadN X101.here hx rfl (hb hby d_rm_i4_3_4) rfl ?_
    refine XS.ifYes X101.here hx rfl (pc0 := 5) (pc' := 27) rfl (hb hby d_rm_i4_3_5) rfl ((if0 _ _).trans (feq (by decide : ¬ ((3 : Int32) = (0 : Int32)))).2) (by decide) (by decide) ?_
    refine st103 _ ?_
    exact κ
  obtain ⟨_, _, ⟨T105, L105, k105, n105⟩, -, X105, ⟨Lc105, hQ105, l105, y105, z105⟩, st105⟩ := Jvm.LawKit.callS X103 hx (y := (⟨"java/lang/StringUTF16", "compress", "([CII)[B"⟩ : MethodName)) hown (mvT hZ (hw _ (List.mem_of_getElem? (i := 47) rfl))) (mvT hZ (hw _ (List.mem_of_getElem? (i := 48) rfl))) (mvT hZ (hw _ (List.mem_of_getElem? (i := 49) rfl))) (mvT hZ (hw _ (List.mem_of_getElem? (i := 50) rfl))) (by decide) (backOf (W := 0) (rm_c3_3 l Z a0 hw [] b kc c0 c1 c2 h0 n0 Z0 OA OH OL X00 V_b hbad hB) hZ (hw _ (List.mem_of_getElem? (i := 50) rfl)) (hw _ (List.mem_of_getElem? (i := 49) rfl)) (by decide) (by decide)) (g := (mkF m 36 #[.val (.ref a), .val (.ref b), .val (.int (0 : Int32)), .val (.int (3 : Int32)), .val .null, .unset] [(.int (3 : Int32)), (.int (0 : Int32)), (.ref b)])) rfl (by rw [hml]; rfl) (argsL := [(.ref b), (.int (0 : Int32)), (.int (3 : Int32))]) (rest := []) (lenOf pdo_14 rfl) rfl (by show 2 * 0 + _ ≤ _; exact Nat.le_of_eq rfl) (hb hby d_rm_i4_3_36) (fun _ _ => ⟨rfl, e103, (by decide : 0 + 2 ≤ _), (by decide : 0 + 9 ≤ _)⟩)
  dsimp only [Pt.U, Pt.locs, Pt.cells, Pt.slots] at X105 l105 y105 z105 st105 hQ105
  subst l105 y105 z105
  obtain ⟨u105, ku105, vs105, rfl, Nq105, K105, lb105, V105, hu105⟩ := hQ105
  have N105 := Fr.app N0 Nq105
  have pq106 : ∀ τ, Steps pP.tables e below (T105.setTop (mkF m 39 #[.val (.ref a), .val (.ref b), .val (.int (0 : Int32)), .val (.int (3 : Int32)), .val .null, .unset] [(.ref u105)])) τ → Steps pP.tables e below A0 τ := by
    intro τ κ
    refine pq104 τ ?_
    refine XS.ifNo X103.here hx rfl (hb hby d_rm_i4_3_30) rfl ((if0 _ _).trans (feq P5).1) ?_
    refine XS.aloadN X103.here hx rfl (hb hby d_rm_i4_3_33) rfl rfl ?_
    refine XS.iloadN X103.here hx rfl (hb hby d_rm_i4_3_34) rfl ?_
    refine XS.iloadN X103.here hx rfl (hb hby d_rm_i4_3_35) rfl ?_
    refine st105 _ ?_
    exact κ
  have KC105 : Keep h0 T105.heap [a] := KC0.trans K105 all0
  have f107 := (Nat.le_trans Z0 K105.1)
  obtain ⟨_, _, ⟨T108, L108, k108, n108⟩, -, X108, ⟨Lc108, hQ108, l108, y108, z108⟩, st108⟩ := Jvm.LawKit.callS X105 hx (y := (⟨"java/lang/StringUTF16", "coderFromArrayLen", "([BI)B"⟩ : MethodName)) hown (mvT hZ (hw _ (List.mem_of_getElem? (i := 54) rfl))) (mvT hZ (hw _ (List.mem_of_getElem? (i := 55) rfl))) (mvT hZ (hw _ (List.mem_of_getElem? (i := 49) rfl))) (mvT hZ (hw _ (List.mem_of_getElem? (i := 56) rfl))) (by decide) (backOf (W := 1) (rm_cfl l Z a0 hw [] u105 ku105 3 vs105 T105.heap n0 f107 V105 (by decide) (by decide)) hZ (hw _ (List.mem_of_getElem? (i := 56) rfl)) (hw _ (List.mem_of_getElem? (i := 49) rfl)) (by decide) (by decide)) (g := (mkF m 45 #[.val (.ref a), .val (.ref b), .val (.int (0 : Int32)), .val (.int (3 : Int32)), .val .null, .val (.ref u105)] [(.int (3 : Int32)), (.ref u105), (.ref a)])) rfl (by rw [hml]; rfl) (argsL := [(.ref u105), (.int (3 : Int32))]) (rest := [(.ref a)]) (lenOf pdo_15 rfl) rfl (by show 2 * 0 + _ ≤ _; exact Nat.le_of_eq rfl) (hb hby d_rm_i4_3_45) (fun _ _ => ⟨rfl, rfl, (by decide : 2 + 0 ≤ _), (by decide : 9 + 0 ≤ _)⟩)
  dsimp only [Pt.U, Pt.locs, Pt.cells, Pt.slots] at X108 l108 y108 z108 st108 hQ108
  subst l108 y108 z108
  obtain ⟨rfl, Nq108, eq108⟩ := hQ108
  have N108 := Fr.app N105 Nq108
  have pq109 : ∀ τ, Steps pP.tables e below (T108.setTop (mkF m 48 #[.val (.ref a), .val (.ref b), .val (.int (0 : Int32)), .val (.int (3 : Int32)), .val .null, .val (.ref u105)] [(.int (1 : Int32)), (.ref a)])) τ → Steps pP.tables e below A0 τ := by
    intro τ κ
    refine pq106 τ ?_
    refine XS.astore X105.here hx rfl (hb hby d_rm_i4_3_39) rfl rfl (l' := #[.val (.ref a), .val (.ref b), .val (.int (0 : Int32)), .val (.int (3 : Int32)), .val .null, .val (.ref u105)]) rfl ?_
    refine XS.aloadN X105.here hx rfl (hb hby d_rm_i4_3_41) rfl rfl ?_
    refine XS.aload X105.here hx rfl (hb hby d_rm_i4_3_42) rfl rfl ?_
    refine XS.iloadN X105.here hx rfl (hb hby d_rm_i4_3_44) rfl ?_
    refine st108 _ ?_
    exact κ
  have f110 := (E_a.keep K105)
  have f111 := (F_coder.keep K105 nin0)
  obtain ⟨T112, h112, X112, e112, W112, st112⟩ := putFN X108 hx hZ hown (hw _ (List.mem_of_getElem? (i := 31) rfl)) Via.refl eq108 f111 f110 (Or.inr ⟨(hw _ (List.mem_of_getElem? (i := 27) rfl)), rfl, hnm⟩) (hw _ (List.mem_of_getElem? (i := 11) rfl)) (ty := .byte) (v' := (.int (1 : Int32))) (by decide) rfl (by decide) (g := (mkF m 48 #[.val (.ref a), .val (.ref b), .val (.int (0 : Int32)), .val (.int (3 : Int32)), .val .null, .val (.ref u105)] [(.int (1 : Int32)), (.ref a)])) rfl rfl (hb hby d_rm_i4_3_48)
  have pq113 : ∀ τ, Steps pP.tables e below (T112.setTop (mkF m 51 #[.val (.ref a), .val (.ref b), .val (.int (0 : Int32)), .val (.int (3 : Int32)), .val .null, .val (.ref u105)] [])) τ → Steps pP.tables e below A0 τ := by
    intro τ κ
    refine pq109 τ ?_
    refine st112 _ ?_
    exact κ
  have KC112 : Keep h0 h112 [a] := KC105.wr W112 (Or.inl (List.mem_of_getElem? (i := 0) rfl))
  have Fw112 := f111.same W112
  have N112 := Fr.snoc X112 N108 ga
  have f114 := (f110.wr W112)
  have f115 := ((F_value.keep K105 nin0).other W112 (Or.inr (slot_ne (Or.inr (hw _ (List.mem_of_getElem? (i := 26) rfl))) (Or.inr (hw _ (List.mem_of_getElem? (i := 27) rfl))) (by decide) (t := (.array .byte)) (t' := .byte) (by decide) (by decide))))
  obtain ⟨T116, h116, X116, e116, W116, st116⟩ := putF X112 hx hZ hown (host := "") (Or.inl (hw _ (List.mem_of_getElem? (i := 30) rfl))) Via.refl e112 f115 f114 (Or.inr ⟨(hw _ (List.mem_of_getElem? (i := 26) rfl)), rfl, hnm⟩) (hw _ (List.mem_of_getElem? (i := 11) rfl)) (ty := (.array .byte)) (by decide) rfl rfl (g := (mkF m 54 #[.val (.ref a), .val (.ref b), .val (.int (0 : Int32)), .val (.int (3 : Int32)), .val .null, .val (.ref u105)] [(.ref u105), (.ref a)])) rfl rfl (hb hby d_rm_i4_3_54)
  have pq117 : ∀ τ, Steps pP.tables e below (T116.setTop (mkF m 57 #[.val (.ref a), .val (.ref b), .val (.int (0 : Int32)), .val (.int (3 : Int32)), .val .null, .val (.ref u105)] [])) τ → Steps pP.tables e below A0 τ := by
    intro τ κ
    refine pq113 τ ?_
    refine XS.aloadN X112.here hx rfl (hb hby d_rm_i4_3_51) rfl rfl ?_
    refine XS.aload X112.here hx rfl (hb hby d_rm_i4_3_52) rfl rfl ?_
    refine st116 _ ?_
    exact κ
  have KC116 : Keep h0 h116 [a] := KC112.wr W116 (Or.inl (List.mem_of_getElem? (i := 0) rfl))
  have Fw116 := f115.same W116
  have N116 := Fr.snoc X116 N112 ga
  have f118 := (f114.wr W116)
  have f119 := (Fw112.other W116 (Or.inr (slot_ne (Or.inr (hw _ (List.mem_of_getElem? (i := 27) rfl))) (Or.inr (hw _ (List.mem_of_getElem? (i := 26) rfl))) (by decide) (t := .byte) (t' := (.array .byte)) (by decide) (by decide))))
  have f120 := ((V105.other W112 (Ne.symm (Nat.ne_of_lt (Nat.lt_of_lt_of_le E_a.lt lb105)))).other W116 (Ne.symm (Nat.ne_of_lt (Nat.lt_of_lt_of_le E_a.lt lb105))))
  obtain ⟨fs, hr, hrun, hended, hW, hsame⟩ := X116.leave (v := none) (fun _ => rfl)
  have pqE := pq117
  rw [hA0] at pqE
  refine ⟨_, _, pqE _ ?_, hrun, hended, _, _, rfl, ?_, ⟨_, rfl⟩, hW, hsame.mono (by decide) (by decide)⟩
  · show Steps pP.tables e below (T116.setTop (mkF m 57 #[.val (.ref a), .val (.ref b), .val (.int (0 : Int32)), .val (.int (3 : Int32)), .val .null, .val (.ref u105)] [])) _
    exact X116.returnOut hx Bd.returns (hb hby d_rm_i4_3_57) hr
  · show Q_new Z a ([c0, c1, c2] : List Int32) h0 n0 _ T116.heap _
    rw [e116]
    exact ⟨rfl, N116, KC116, u105, _, f118, Fw116, Or.inr ⟨f119, _, f120, hu105, hB⟩⟩
theorem d_rm_i1_3_0 : decode jdk_42_method_3_code 0 = .ok (.aload_n 0, 1) := by decide +kernel
theorem d_rm_i1_3_1 : decode jdk_42_method_3_code 1 = .ok (.aload_n 1, 1) := by decide +kernel
theorem d_rm_i1_3_2 : decode jdk_42_method_3_code 2 = .ok (.iconst 0, 1) := by decide +kernel
theorem d_rm_i1_3_3 : decode jdk_42_method_3_code 3 = .ok (.aload_n 1, 1) := by decide +kernel
theorem d_rm_i1_3_4 : decode jdk_42_method_3_code 4 = .ok (.arraylength, 1) := by decide +kernel
theorem d_rm_i1_3_5 : decode jdk_42_method_3_code 5 = .ok (.aconst_null, 1) := by decide +kernel
theorem d_rm_i1_3_6 : decode jdk_42_method_3_code 6 = .ok (.invokespecial 27, 3) := by decide +kernel
theorem d_rm_i1_3_9 : decode jdk_42_method_3_code 9 = .ok (.return_, 1) := by decide +kernel
theorem ef_rm_i1_3 (m : MethodId) (x0 : Addr) (x1 : Addr) : entryFrame m #[(.ref x0), (.ref x1)] 2 = mkF m 0 #[.val (.ref x0), .val (.ref x1)] [] := by first | (simp [entryFrame, mkF, argsToLocals, Value.category]; done) | rfl
set_option maxRecDepth 65536 in
set_option maxHeartbeats 3000000 in
theorem rm_i1_3 (l : Launch) (Z : State) (a0 : Array Value) (hw : ∀ d ∈ tables_1, d.before a0 Z = true) (ws : List Jvm.Cond) (a b : Addr) (kc : ClassId) (c0 c1 c2 : Int32) (G1 : Int32) (h0 : Heap) (n0 : Nat) (Z0 : n0 ≤ h0.size) (O2 : Sta Z Z.heap "java/lang/String" "COMPACT_STRINGS" "Z" (.int G1)) (P5 : ¬ (G1 = (0 : Int32))) (X00 : Old Z n0 h0) (OA : Sta Z Z.heap "java/lang/StringUTF16" "$assertionsDisabled" "Z" (.int 1)) (OH : Sta Z Z.heap "java/lang/StringUTF16" "HI_BYTE_SHIFT" "I" (.int 0)) (OL : Sta Z Z.heap "java/lang/StringUTF16" "LO_BYTE_SHIFT" "I" (.int 8)) (E_a : Exa Z h0 a "java/lang/String") (ga : n0 ≤ a) (F_value : Fld Z h0 a "java/lang/String" "value" "[B" .null) (F_coder : Fld Z h0 a "java/lang/String" "coder" "B" (.int (0 : Int32))) (V_b : Arv Z h0 b kc .char (3 : Int32) [(.int c0), (.int c1), (.int c2)] (.int (0 : Int32))) (hbad : ¬ ∀ c ∈ ([c0, c1, c2] : List Int32), ¬ (255 : Int32) < c) (hB : ∀ c ∈ ([c0, c1, c2] : List Int32), ¬ c < 0 ∧ ¬ (65535 : Int32) < c) :
    MetFree l (⟨"java/lang/String", "<init>", "([C)V"⟩ : MethodName) (head1 (Jvm.Cond.code (⟨"java/lang/String", "<init>", "([C)V"⟩ : MethodName) jdk_42_method_3_code 2 none :: ws) ({ frames := 5, cells := 2, slots := 9, locals := 74 } : Room)) (fun αs U => αs = #[(.ref a), (.ref b)] ∧ Z.Warmed39 U.vm ∧ U.heap = h0) (fun _ _ _ _ _ => True) (fun _ U o U' => ∃ v L, o = .returned v ∧ Q_new Z a ([c0, c1, c2] : List Int32) h0 n0 v U'.heap L ∧ FrameEnd U o U' L ({ frames := 5, cells := 2, slots := 9, locals := 74 } : Room).cells ({ frames := 5, cells := 2, slots := 9, locals := 74 } : Room).slots) := by
  refine MetFree.of_bodySF (plainFor_of_name pno_2) hisR ?_
  intro pP e s m args below meth cC s₁ Bd hml0 hP hK
  obtain ⟨rfl, hZ, hh⟩ := hP
  have hx := Bd.exec
  have hby := Bd.bytes
  have hml : cC.maxLocals = 2 := hml0
  have hown : s.vm.findClass "java/lang/String" = some m.cls := findClass_of_methodNamed Bd.named
  have hnm := (name_of_methodNamed Bd.named Bd.method).1
  have X0 : Stand pP l e ({ frames := 5, cells := 2, slots := 9, locals := 74 } : Room) s m #[(.ref a), (.ref b)] below meth cC s₁ [] 0 0 := Stand.of_body Bd
  have e0 : s₁.heap = h0 := by rw [← hh, Bd.state]; rfl
  have N0 := Fr.nil n0
  have KC0 : Keep h0 h0 [a] := Keep.refl h0 _
  obtain ⟨A0, hA0⟩ : ∃ z, z = s₁.setTop (entryFrame m #[(.ref a), (.ref b)] 2) := ⟨_, rfl⟩
  have pre0 : ∀ τ, Steps pP.tables e below (s₁.setTop (mkF m 0 #[.val (.ref a), .val (.ref b)] [])) τ → Steps pP.tables e below A0 τ := fun τ κ => by rw [hA0]; exact castTop (ef_rm_i1_3 m a b) κ
  obtain ⟨cl101, Ar101, q101, S101, M101, Hs101, G101⟩ := id V_b
  obtain ⟨_, _, ⟨T102, L102, k102, n102⟩, -, X102, ⟨Lc102, hQ102, l102, y102, z102⟩, st102⟩ := X0.specialBack hx (y := (⟨"java/lang/String", "<init>", "([CIILjava/lang/Void;)V"⟩ : MethodName)) rfl hown (mvT hZ (hw _ (List.mem_of_getElem? (i := 17) rfl))) (mvT hZ (hw _ (List.mem_of_getElem? (i := 18) rfl))) (mvT hZ (hw _ (List.mem_of_getElem? (i := 20) rfl))) (by decide) (backOf (W := 0) (rm_i4_3 l Z a0 hw [] a b kc c0 c1 c2 G1 h0 n0 Z0 O2 P5 X00 OA OH OL E_a ga F_value F_coder V_b hbad hB) hZ (hw _ (List.mem_of_getElem? (i := 20) rfl)) (hw _ (List.mem_of_getElem? (i := 12) rfl)) (by decide) (by decide)) (g := (mkF m 6 #[.val (.ref a), .val (.ref b)] [.null, (.int (3 : Int32)), (.int (0 : Int32)), (.ref b), (.ref a)])) rfl (by rw [hml]; rfl) (Steps.refl _) (a := a) (argsL := [(.ref b), (.int (0 : Int32)), (.int (3 : Int32)), .null]) (rest := []) (lenOf pdo_16 rfl) rfl (by show 2 * 0 + _ ≤ _; exact Nat.le_of_eq rfl) (hb hby d_rm_i1_3_6) (fun _ _ => ⟨rfl, e0, (by decide : 0 + 2 ≤ _), (by decide : 0 + 9 ≤ _)⟩)
  dsimp only [Pt.U, Pt.locs, Pt.cells, Pt.slots] at X102 l102 y102 z102 st102 hQ102
  subst l102 y102 z102
  obtain ⟨rfl, Nq102, K102, U102⟩ := hQ102
  have N102 := Fr.app N0 Nq102
  have pq103 : ∀ τ, Steps pP.tables e below (T102.setTop (mkF m 9 #[.val (.ref a), .val (.ref b)] [])) τ → Steps pP.tables e below A0 τ := by
    intro τ κ
    refine pre0 τ ?_
    refine XS.aloadN X0.here hx rfl (hb hby d_rm_i1_3_0) rfl rfl ?_
    refine XS.aloadN X0.here hx rfl (hb hby d_rm_i1_3_1) rfl rfl ?_
    refine XS.iconst X0.here hx rfl (hb hby d_rm_i1_3_2) ?_
    refine XS.aloadN X0.here hx rfl (hb hby d_rm_i1_3_3) rfl rfl ?_
    refine X0.arraylength hx (by rw [e0]; exact Ar101.1) (State.isArrayOf_alike hZ.alike Ar101.2.1) (g := (mkF m 4 #[.val (.ref a), .val (.ref b)] [(.ref b), (.int (0 : Int32)), (.ref b), (.ref a)])) rfl rfl (hb hby d_rm_i1_3_4) _ ?_
    rw [len_of S101 M101]
    refine XS.aconstNull X0.here hx rfl (hb hby d_rm_i1_3_5) ?_
    refine st102.trans ?_
    exact κ
  have KC102 : Keep h0 T102.heap [a] := KC0.trans K102 (allS (Or.inl (List.mem_of_getElem? (i := 0) rfl)) all0)
  obtain ⟨fs, hr, hrun, hended, hW, hsame⟩ := X102.leave (v := none) (fun _ => rfl)
  have pqE := pq103
  rw [hA0] at pqE
  refine ⟨_, _, pqE _ ?_, hrun, hended, _, _, rfl, ?_, ⟨_, rfl⟩, hW, hsame.mono (by decide) (by decide)⟩
  · show Steps pP.tables e below (T102.setTop (mkF m 9 #[.val (.ref a), .val (.ref b)] [])) _
    exact X102.returnOut hx Bd.returns (hb hby d_rm_i1_3_9) hr
  · show Q_new Z a ([c0, c1, c2] : List Int32) h0 n0 _ T102.heap _
    exact ⟨rfl, N102, KC102, U102⟩
def Q_str (Z : State) (p a1 a2 a3 : Int32) (h0 : Heap) (n0 : Nat) (v : Option Value) (h : Heap) (L : List Loc) : Prop := ∃ x, v = some (.ref x) ∧ Fr n0 L ∧ Keep h0 h [] ∧ UStr Z h x (own_cs3 p a1 a2 a3)
theorem d_rm_str_0 : decode method_6_code 0 = .ok (.iload_n 0, 1) := by decide +kernel
theorem d_rm_str_1 : decode method_6_code 1 = .ok (.ifCond .ne 14, 3) := by decide +kernel
theorem d_rm_str_4 : decode method_6_code 4 = .ok (.new 31, 3) := by decide +kernel
theorem d_rm_str_7 : decode method_6_code 7 = .ok (.dup, 1) := by decide +kernel
theorem d_rm_str_8 : decode method_6_code 8 = .ok (.iconst 0, 1) := by decide +kernel
theorem d_rm_str_9 : decode method_6_code 9 = .ok (.newarray .char, 2) := by decide +kernel
theorem d_rm_str_11 : decode method_6_code 11 = .ok (.invokespecial 33, 3) := by decide +kernel
theorem d_rm_str_14 : decode method_6_code 14 = .ok (.areturn, 1) := by decide +kernel
theorem d_rm_str_15 : decode method_6_code 15 = .ok (.iload_n 0, 1) := by decide +kernel
theorem d_rm_str_16 : decode method_6_code 16 = .ok (.iconst 1, 1) := by decide +kernel
theorem d_rm_str_17 : decode method_6_code 17 = .ok (.if_icmp .ne 18, 3) := by decide +kernel
theorem d_rm_str_20 : decode method_6_code 20 = .ok (.new 31, 3) := by decide +kernel
theorem d_rm_str_23 : decode method_6_code 23 = .ok (.dup, 1) := by decide +kernel
theorem d_rm_str_24 : decode method_6_code 24 = .ok (.iconst 1, 1) := by decide +kernel
theorem d_rm_str_25 : decode method_6_code 25 = .ok (.newarray .char, 2) := by decide +kernel
theorem d_rm_str_27 : decode method_6_code 27 = .ok (.dup, 1) := by decide +kernel
theorem d_rm_str_28 : decode method_6_code 28 = .ok (.iconst 0, 1) := by decide +kernel
theorem d_rm_str_29 : decode method_6_code 29 = .ok (.iload_n 1, 1) := by decide +kernel
theorem d_rm_str_30 : decode method_6_code 30 = .ok (.castore, 1) := by decide +kernel
theorem d_rm_str_31 : decode method_6_code 31 = .ok (.invokespecial 33, 3) := by decide +kernel
theorem d_rm_str_34 : decode method_6_code 34 = .ok (.areturn, 1) := by decide +kernel
theorem d_rm_str_35 : decode method_6_code 35 = .ok (.iload_n 0, 1) := by decide +kernel
theorem d_rm_str_36 : decode method_6_code 36 = .ok (.iconst 2, 1) := by decide +kernel
theorem d_rm_str_37 : decode method_6_code 37 = .ok (.if_icmp .ne 22, 3) := by decide +kernel
theorem d_rm_str_40 : decode method_6_code 40 = .ok (.new 31, 3) := by decide +kernel
theorem d_rm_str_43 : decode method_6_code 43 = .ok (.dup, 1) := by decide +kernel
theorem d_rm_str_44 : decode method_6_code 44 = .ok (.iconst 2, 1) := by decide +kernel
theorem d_rm_str_45 : decode method_6_code 45 = .ok (.newarray .char, 2) := by decide +kernel
theorem d_rm_str_47 : decode method_6_code 47 = .ok (.dup, 1) := by decide +kernel
theorem d_rm_str_48 : decode method_6_code 48 = .ok (.iconst 0, 1) := by decide +kernel
theorem d_rm_str_49 : decode method_6_code 49 = .ok (.iload_n 1, 1) := by decide +kernel
theorem d_rm_str_50 : decode method_6_code 50 = .ok (.castore, 1) := by decide +kernel
theorem d_rm_str_51 : decode method_6_code 51 = .ok (.dup, 1) := by decide +kernel
theorem d_rm_str_52 : decode method_6_code 52 = .ok (.iconst 1, 1) := by decide +kernel
theorem d_rm_str_53 : decode method_6_code 53 = .ok (.iload_n 2, 1) := by decide +kernel
theorem d_rm_str_54 : decode method_6_code 54 = .ok (.castore, 1) := by decide +kernel
theorem d_rm_str_55 : decode method_6_code 55 = .ok (.invokespecial 33, 3) := by decide +kernel
theorem d_rm_str_58 : decode method_6_code 58 = .ok (.areturn, 1) := by decide +kernel
theorem d_rm_str_59 : decode method_6_code 59 = .ok (.new 31, 3) := by decide +kernel
theorem d_rm_str_62 : decode method_6_code 62 = .ok (.dup, 1) := by decide +kernel
theorem d_rm_str_63 : decode method_6_code 63 = .ok (.iconst 3, 1) := by decide +kernel
theorem d_rm_str_64 : decode method_6_code 64 = .ok (.newarray .char, 2) := by decide +kernel
theorem d_rm_str_66 : decode method_6_code 66 = .ok (.dup, 1) := by decide +kernel
theorem d_rm_str_67 : decode method_6_code 67 = .ok (.iconst 0, 1) := by decide +kernel
theorem d_rm_str_68 : decode method_6_code 68 = .ok (.iload_n 1, 1) := by decide +kernel
theorem d_rm_str_69 : decode method_6_code 69 = .ok (.castore, 1) := by decide +kernel
theorem d_rm_str_70 : decode method_6_code 70 = .ok (.dup, 1) := by decide +kernel
theorem d_rm_str_71 : decode method_6_code 71 = .ok (.iconst 1, 1) := by decide +kernel
theorem d_rm_str_72 : decode method_6_code 72 = .ok (.iload_n 2, 1) := by decide +kernel
theorem d_rm_str_73 : decode method_6_code 73 = .ok (.castore, 1) := by decide +kernel
theorem d_rm_str_74 : decode method_6_code 74 = .ok (.dup, 1) := by decide +kernel
theorem d_rm_str_75 : decode method_6_code 75 = .ok (.iconst 2, 1) := by decide +kernel
theorem d_rm_str_76 : decode method_6_code 76 = .ok (.iload_n 3, 1) := by decide +kernel
theorem d_rm_str_77 : decode method_6_code 77 = .ok (.castore, 1) := by decide +kernel
theorem d_rm_str_78 : decode method_6_code 78 = .ok (.invokespecial 33, 3) := by decide +kernel
theorem d_rm_str_81 : decode method_6_code 81 = .ok (.areturn, 1) := by decide +kernel
theorem ef_rm_str (m : MethodId) (x0 : Int32) (x1 : Int32) (x2 : Int32) (x3 : Int32) : entryFrame m #[(.int x0), (.int x1), (.int x2), (.int x3)] 4 = mkF m 0 #[.val (.int x0), .val (.int x1), .val (.int x2), .val (.int x3)] [] := by first | (simp [entryFrame, mkF, argsToLocals, Value.category]; done) | rfl
set_option maxRecDepth 65536 in
set_option maxHeartbeats 3000000 in
theorem rm_str (l : Launch) (Z : State) (a0 : Array Value) (hw : ∀ d ∈ tables_1, d.before a0 Z = true) (hEW : EW Z a0 consts_1) (ws : List Jvm.Cond) (p a1 a2 a3 : Int32) (G1 : Int32) (h0 : Heap) (n0 : Nat) (Z0 : n0 ≤ h0.size) (O2 : Sta Z Z.heap "java/lang/String" "COMPACT_STRINGS" "Z" (.int G1)) (P5 : ¬ (G1 = (0 : Int32))) (X00 : Old Z n0 h0) (OA : Sta Z Z.heap "java/lang/StringUTF16" "$assertionsDisabled" "Z" (.int 1)) (OH : Sta Z Z.heap "java/lang/StringUTF16" "HI_BYTE_SHIFT" "I" (.int 0)) (OL : Sta Z Z.heap "java/lang/StringUTF16" "LO_BYTE_SHIFT" "I" (.int 8)) (hha1 : ¬ a1 < 0 ∧ ¬ (65535 : Int32) < a1) (hha2 : ¬ a2 < 0 ∧ ¬ (65535 : Int32) < a2) (hha3 : ¬ a3 < 0 ∧ ¬ (65535 : Int32) < a3) :
    MetFree l (⟨"com/example/sites_into_slices/sitesintoslices/identity/AsciiCaseStartsWithIgnoringCasePinLaw", "str", "(ICCC)Ljava/lang/String;"⟩ : MethodName) (head1 (Jvm.Cond.code (⟨"com/example/sites_into_slices/sitesintoslices/identity/AsciiCaseStartsWithIgnoringCasePinLaw", "str", "(ICCC)Ljava/lang/String;"⟩ : MethodName) method_6_code 4 (some (.object "java/lang/String")) :: ws) ({ frames := 6, cells := 4, slots := 16, locals := 88 } : Room)) (fun αs U => αs = #[(.int p), (.int a1), (.int a2), (.int a3)] ∧ Z.Warmed39 U.vm ∧ U.heap = h0 ∧ CHv Z consts_1 U.vm h0) (fun _ _ _ _ _ => True) (fun _ U o U' => ∃ v L, o = .returned v ∧ Q_str Z p a1 a2 a3 h0 n0 v U'.heap L ∧ CHr Z consts_1 U.vm U.heap U'.vm U'.heap ∧ ReturnedEndW U o U' L ({ frames := 6, cells := 4, slots := 16, locals := 88 } : Room).cells ({ frames := 6, cells := 4, slots := 16, locals := 88 } : Room).slots) := by
  refine MetFree.of_bodySF (plainFor_of_name pno_0) hisR ?_
  intro pP e s m args below meth cC s₁ Bd hml0 hP hK
  obtain ⟨rfl, hZ, hh, CH0⟩ := hP
  have hx := Bd.exec
  have hby := Bd.bytes
  have hml : cC.maxLocals = 4 := hml0
  have hown : s.vm.findClass "com/example/sites_into_slices/sitesintoslices/identity/AsciiCaseStartsWithIgnoringCasePinLaw" = some m.cls := findClass_of_methodNamed Bd.named
  have hnm := (name_of_methodNamed Bd.named Bd.method).1
  have X0 : Stand pP l e ({ frames := 6, cells := 4, slots := 16, locals := 88 } : Room) (s.setVm s.vm) m #[(.int p), (.int a1), (.int a2), (.int a3)] below meth cC s₁ [] 0 0 := Stand.of_body Bd
  have e0 : s₁.heap = h0 := by rw [← hh, Bd.state]; rfl
  have N0 := Fr.nil n0
  have KC0 : Keep h0 h0 [] := Keep.refl h0 _
  replace hZ : Z.Warmed39 (s.setVm s.vm).vm := hZ
  replace hown : (s.setVm s.vm).vm.findClass "com/example/sites_into_slices/sitesintoslices/identity/AsciiCaseStartsWithIgnoringCasePinLaw" = some m.cls := hown
  have SI0 : s.Since s.vm h0.size := (State.WarmedH.refl s).since _
  have SK0 : h0.size ≤ h0.size := Nat.le_refl _
  have CR0 : CHr Z consts_1 s.vm h0 s.vm h0 := CHr.refl CH0
  obtain ⟨A0, hA0⟩ : ∃ z, z = s₁.setTop (entryFrame m #[(.int p), (.int a1), (.int a2), (.int a3)] 4) := ⟨_, rfl⟩
  have pre0 : ∀ τ, Steps pP.tables e below (s₁.setTop (mkF m 0 #[.val (.int p), .val (.int a1), .val (.int a2), .val (.int a3)] [])) τ → Steps pP.tables e below A0 τ := fun τ κ => by rw [hA0]; exact castTop (ef_rm_str m p a1 a2 a3) κ
  have hws : ∀ d ∈ StrChars.Road.words, d.before a0 Z = true := fun d hd => hw d ((by decide +kernel : ∀ d ∈ StrChars.Road.words, d ∈ tables_1) d hd)
  have pq101 : ∀ τ, Steps pP.tables e below (s₁.setTop (mkF m 1 #[.val (.int p), .val (.int a1), .val (.int a2), .val (.int a3)] [(.int p)])) τ → Steps pP.tables e below A0 τ := by
    intro τ κ
    refine pre0 τ ?_
    refine XS.iloadN X0.here hx rfl (hb hby d_rm_str_0) rfl ?_
    exact κ
  by_cases hc1_102 : p = (0 : Int32)
  · skip
    obtain ⟨T103, h103, X103, e103, E103, A103, D103, -, st103⟩ := newO X0 hx hZ hown (hw _ (List.mem_of_getElem? (i := 10) rfl)) (hw _ (List.mem_of_getElem? (i := 11) rfl)) (hw _ (List.mem_of_getElem? (i := 12) rfl)) e0 (g := (mkF m 4 #[.val (.int p), .val (.int a1), .val (.int a2), .val (.int a3)] [])) rfl (hb hby d_rm_str_4) (by decide) (by decide)
    obtain ⟨b103, g103⟩ : ∃ z, z = h0.size := ⟨_, rfl⟩
    rw [← g103] at A103 D103 st103
    have pq104 : ∀ τ, Steps pP.tables e below (T103.setTop (mkF m 7 #[.val (.int p), .val (.int a1), .val (.int a2), .val (.int a3)] [(.ref b103)])) τ → Steps pP.tables e below A0 τ := by
      intro τ κ
      refine pq101 τ ?_
      refine XS.ifNo X0.here hx rfl (hb hby d_rm_str_1) rfl ((if0 _ _).trans (teq hc1_102).2) ?_
      refine st103 _ ?_
      exact κ
    have KC103 : Keep h0 h103 [] := KC0.ext E103
    have CH103 := CHv.ext E103 CH0
    have CR103 := CHr.trans CR0 (CHr.ext E103 CH0)
    have SK103 := Nat.le_trans SK0 E103.1
    have Sf103 := Safe.ext (x := b103) E103 CH0 (Safe.new (Nat.le_of_eq g103.symm))
    have F_value_b103 : Fld Z h103 b103 "java/lang/String" "value" "[B" .null := D103 (Or.inr (hw _ (List.mem_of_getElem? (i := 26) rfl))) (ty := (.array .byte)) (by decide)
    have F_coder_b103 : Fld Z h103 b103 "java/lang/String" "coder" "B" (.int (0 : Int32)) := D103 (Or.inr (hw _ (List.mem_of_getElem? (i := 27) rfl))) (ty := .byte) (by decide)
    obtain ⟨T105, h105, k105, X105, e105, E105, A105, st105⟩ := newP X103 hx hZ (hw _ (List.mem_of_getElem? (i := 13) rfl)) e103 (g := (mkF m 9 #[.val (.int p), .val (.int a1), .val (.int a2), .val (.int a3)] [(.int (0 : Int32)), (.ref b103), (.ref b103)])) rfl (hb hby d_rm_str_9) rfl (by decide) (cap := 0) (by decide) (by decide) (by decide) (by decide)
    obtain ⟨b105, g105⟩ : ∃ z, z = h103.size := ⟨_, rfl⟩
    rw [← g105] at A105 st105
    have pq106 : ∀ τ, Steps pP.tables e below (T105.setTop (mkF m 11 #[.val (.int p), .val (.int a1), .val (.int a2), .val (.int a3)] [(.ref b105), (.ref b103), (.ref b103)])) τ → Steps pP.tables e below A0 τ := by
      intro τ κ
      refine pq104 τ ?_
      refine XS.dup X103.here hx rfl (hb hby d_rm_str_7) rfl rfl ?_
      refine XS.iconst X103.here hx rfl (hb hby d_rm_str_8) ?_
      refine st105 _ ?_
      exact κ
    have KC105 : Keep h0 h105 [] := KC103.ext E105
    have CH105 := CHv.ext E105 CH103
    have CR105 := CHr.trans CR103 (CHr.ext E105 CH103)
    have SK105 := Nat.le_trans SK103 E105.1
    have V105 : Arv Z h105 b105 k105 .char (0 : Int32) [] (.int (0 : Int32)) := Arv.new A105 (by decide)
    have Sf105 := Safe.ext (x := b105) E105 CH103 (Safe.new (Nat.le_of_eq g105.symm))
    have f107 := (A103.ext E105)
    have f108 := (F_value_b103.ext E105)
    have f109 := (F_coder_b103.ext E105)
    have f110 := (Nat.le_trans (Nat.le_trans Z0 E103.1) E105.1)
    obtain ⟨_, _, ⟨T111, L111, k111, n111⟩, -, X111, S111, G111, ⟨Lc111, hQ111, l111, y111, z111, C111⟩, st111⟩ := X105.specialBackS hx (y := (⟨"java/lang/String", "<init>", "([C)V"⟩ : MethodName)) rfl hown (mvT hZ (hw _ (List.mem_of_getElem? (i := 14) rfl))) (mvT hZ (hw _ (List.mem_of_getElem? (i := 15) rfl))) (mvT hZ (hw _ (List.mem_of_getElem? (i := 16) rfl))) (by decide) (backOfSH (s := s) (vm0 := s.vm) (EL := consts_1) (W := 1) (rm_emp1 l Z a0 hw hEW [] b103 b105 k105 h105 n0 f110 f107 (Nat.le_trans Z0 (Nat.le_of_eq g103.symm)) f108 f109 V105) hZ (hw _ (List.mem_of_getElem? (i := 16) rfl)) (hw _ (List.mem_of_getElem? (i := 12) rfl)) (by decide) (by decide) hEW CH105) (g := (mkF m 11 #[.val (.int p), .val (.int a1), .val (.int a2), .val (.int a3)] [(.ref b105), (.ref b103), (.ref b103)])) rfl (by rw [hml]; rfl) (Steps.refl _) (a := b103) (argsL := [(.ref b105)]) (rest := [(.ref b103)]) (lenOf pdo_17 rfl) rfl (by show 2 * 0 + _ ≤ _; exact Nat.le_of_eq rfl) (hb hby d_rm_str_11) (fun _ _ => ⟨rfl, e105, (by decide : 2 + 2 ≤ _), (by decide : 4 + 4 ≤ _)⟩)
    dsimp only [Pt.U, Pt.locs, Pt.cells, Pt.slots] at X111 l111 y111 z111 st111 hQ111 S111 G111 C111
    subst l111 y111 z111
    have G111a : h105.size ≤ T111.heap.size := by first | exact G111 | (rw [← e105]; exact G111)
    obtain ⟨X111, SI111, Z111, O111⟩ := rebS SI0 SK105 X111 S111 G111a hZ hown
    have SK111 : T111.heap.size ≤ T111.heap.size := Nat.le_refl _
    obtain ⟨rfl, Nq111, K111, Ex111, Fc111, t111, kb111, tc111, Fv111, Vt111⟩ := hQ111
    have N111 := Fr.app N0 Nq111
    have pq112 : ∀ τ, Steps pP.tables e below (T111.setTop (mkF m 14 #[.val (.int p), .val (.int a1), .val (.int a2), .val (.int a3)] [(.ref b103)])) τ → Steps pP.tables e below A0 τ := by
      intro τ κ
      refine pq106 τ ?_
      refine st111.trans ?_
      exact κ
    have KC111 : Keep h0 T111.heap [] := KC105.trans K111 (allS (Or.inr (Nat.le_trans (Nat.le_refl _) (Nat.le_of_eq g103.symm))) all0)
    have CH111 := C111.1
    have CR111 := CHr.trans CR105 C111
    have Uq113 := (⟨t111, _, Ex111, Fv111, Or.inl ⟨Fc111, Vt111, by simp⟩⟩ : UStr Z T111.heap b103 [])
    have SKe := SK111
    obtain ⟨fs, hr, hrun, hended, hEnd⟩ := X111.leaveW SI111 SKe (v := some (.ref b103)) (fun h => by rw [Bd.returns] at h; cases h)
    have CHe := CHr.trans CR111 (CHv.at X111 Z111 hEW CH111)
    have pqE := pq112
    rw [hA0] at pqE
    refine ⟨_, _, pqE _ ?_, hrun, hended, _, _, rfl, ?_, ?_, hEnd.1, hEnd.2.1, hEnd.2.2.1, hEnd.2.2.2.mono (by decide) (by decide)⟩
    · show Steps pP.tables e below (T111.setTop (mkF m 14 #[.val (.int p), .val (.int a1), .val (.int a2), .val (.int a3)] [(.ref b103)])) _
      exact retOut X111 hx Bd.returns rfl (Or.inr (Or.inr (Or.inr (Or.inr ⟨rfl, rfl, rfl⟩)))) (hb hby d_rm_str_14) hr
    · show Q_str Z p a1 a2 a3 h0 n0 _ T111.heap _
      exact ⟨b103, rfl, N111, KC111, by simp only [own_cs3, hc1_102, if_true, if_false]; exact Uq113⟩
    · show CHr Z consts_1 s.vm s.heap T111.vm T111.heap
      rw [hh]; exact CHe
  · skip
    have pq114 : ∀ τ, Steps pP.tables e below (s₁.setTop (mkF m 17 #[.val (.int p), .val (.int a1), .val (.int a2), .val (.int a3)] [(.int (1 : Int32)), (.int p)])) τ → Steps pP.tables e below A0 τ := by
      intro τ κ
      refine pq101 τ ?_
      refine XS.ifYes X0.here hx rfl (pc0 := 1) (pc' := 15) rfl (hb hby d_rm_str_1) rfl ((if0 _ _).trans (feq hc1_102).2) (by decide) (by decide) ?_
      refine XS.iloadN X0.here hx rfl (hb hby d_rm_str_15) rfl ?_
      refine XS.iconst X0.here hx rfl (hb hby d_rm_str_16) ?_
      exact κ
    by_cases hc17_115 : p = (1 : Int32)
    · skip
      obtain ⟨T116, h116, X116, e116, E116, A116, D116, -, st116⟩ := newO X0 hx hZ hown (hw _ (List.mem_of_getElem? (i := 10) rfl)) (hw _ (List.mem_of_getElem? (i := 11) rfl)) (hw _ (List.mem_of_getElem? (i := 12) rfl)) e0 (g := (mkF m 20 #[.val (.int p), .val (.int a1), .val (.int a2), .val (.int a3)] [])) rfl (hb hby d_rm_str_20) (by decide) (by decide)
      obtain ⟨b116, g116⟩ : ∃ z, z = h0.size := ⟨_, rfl⟩
      rw [← g116] at A116 D116 st116
      have pq117 : ∀ τ, Steps pP.tables e below (T116.setTop (mkF m 23 #[.val (.int p), .val (.int a1), .val (.int a2), .val (.int a3)] [(.ref b116)])) τ → Steps pP.tables e below A0 τ := by
        intro τ κ
        refine pq114 τ ?_
        refine XS.icmpNo X0.here hx rfl (hb hby d_rm_str_17) rfl (teq hc17_115).2 ?_
        refine st116 _ ?_
        exact κ
      have KC116 : Keep h0 h116 [] := KC0.ext E116
      have CH116 := CHv.ext E116 CH0
      have CR116 := CHr.trans CR0 (CHr.ext E116 CH0)
      have SK116 := Nat.le_trans SK0 E116.1
      have Sf116 := Safe.ext (x := b116) E116 CH0 (Safe.new (Nat.le_of_eq g116.symm))
      have F_value_b116 : Fld Z h116 b116 "java/lang/String" "value" "[B" .null := D116 (Or.inr (hw _ (List.mem_of_getElem? (i := 26) rfl))) (ty := (.array .byte)) (by decide)
      have F_coder_b116 : Fld Z h116 b116 "java/lang/String" "coder" "B" (.int (0 : Int32)) := D116 (Or.inr (hw _ (List.mem_of_getElem? (i := 27) rfl))) (ty := .byte) (by decide)
      obtain ⟨T118, h118, k118, X118, e118, E118, A118, st118⟩ := newP X116 hx hZ (hw _ (List.mem_of_getElem? (i := 13) rfl)) e116 (g := (mkF m 25 #[.val (.int p), .val (.int a1), .val (.int a2), .val (.int a3)] [(.int (1 : Int32)), (.ref b116), (.ref b116)])) rfl (hb hby d_rm_str_25) rfl (by decide) (cap := 1) (by decide) (by decide) (by decide) (by decide)
      obtain ⟨b118, g118⟩ : ∃ z, z = h116.size := ⟨_, rfl⟩
      rw [← g118] at A118 st118
      have pq119 : ∀ τ, Steps pP.tables e below (T118.setTop (mkF m 27 #[.val (.int p), .val (.int a1), .val (.int a2), .val (.int a3)] [(.ref b118), (.ref b116), (.ref b116)])) τ → Steps pP.tables e below A0 τ := by
        intro τ κ
        refine pq117 τ ?_
        refine XS.dup X116.here hx rfl (hb hby d_rm_str_23) rfl rfl ?_
        refine XS.iconst X116.here hx rfl (hb hby d_rm_str_24) ?_
        refine st118 _ ?_
        exact κ
      have KC118 : Keep h0 h118 [] := KC116.ext E118
      have CH118 := CHv.ext E118 CH116
      have CR118 := CHr.trans CR116 (CHr.ext E118 CH116)
      have SK118 := Nat.le_trans SK116 E118.1
      have V118 : Arv Z h118 b118 k118 .char (1 : Int32) [(.int (0 : Int32))] (.int (0 : Int32)) := (Arv.new A118 (by decide)).pad (pad_rep [] (.int (0 : Int32)) 1)
      have Sf118 := Safe.ext (x := b118) E118 CH116 (Safe.new (Nat.le_of_eq g118.symm))
      obtain ⟨cl120, Ar120, q120, S120, M120, Hs120, G120⟩ := id V118
      obtain ⟨T120, h120, X120, e120, W120, st120⟩ := stC X118 hx hZ e118 Ar120 (j := (0 : Int32)) (inb_of S120 ⟨by decide, by decide⟩) (g := (mkF m 30 #[.val (.int p), .val (.int a1), .val (.int a2), .val (.int a3)] [(.int a1), (.int (0 : Int32)), (.ref b118), (.ref b118), (.ref b116), (.ref b116)])) rfl rfl (hb hby d_rm_str_30)
      have pq121 : ∀ τ, Steps pP.tables e below (T120.setTop (mkF m 31 #[.val (.int p), .val (.int a1), .val (.int a2), .val (.int a3)] [(.ref b118), (.ref b116), (.ref b116)])) τ → Steps pP.tables e below A0 τ := by
        intro τ κ
        refine pq119 τ ?_
        refine XS.dup X118.here hx rfl (hb hby d_rm_str_27) rfl rfl ?_
        refine XS.iconst X118.here hx rfl (hb hby d_rm_str_28) ?_
        refine XS.iloadN X118.here hx rfl (hb hby d_rm_str_29) rfl ?_
        refine st120 _ ?_
        exact κ
      have KC120 : Keep h0 h120 [] := KC118.wr W120 (Or.inr (Nat.le_trans (Nat.le_trans (Nat.le_refl _) E116.1) (Nat.le_of_eq g118.symm)))
      have CH120 := CHv.wr W120 Sf118 CH118
      have CR120 := CHr.trans CR118 (CHr.wr W120 Sf118 CH118)
      have SK120 := Nat.le_trans SK118 (Keep.of_wr W120).1
      have V120 : Arv Z h120 b118 k118 .char (1 : Int32) [(.int (nar .char a1))] (.int (0 : Int32)) := Arv.set Ar120 q120 S120 M120 Hs120 G120 (fits_nar_char _) W120 0 rfl (Nat.le_of_ble_eq_true rfl)
      have N120 := Fr.snoc X120 N0 (Nat.le_trans (Nat.le_trans Z0 E116.1) (Nat.le_of_eq g118.symm))
      have hB122 : ∀ c ∈ ([(nar .char a1)] : List Int32), ¬ c < 0 ∧ ¬ (65535 : Int32) < c := by
        intro c hc
        simp only [List.mem_cons, List.not_mem_nil, or_false] at hc
        rcases hc with hc <;> rw [hc] <;> exact own_narR _
      by_cases hL122 : ∀ c ∈ ([(nar .char a1)] : List Int32), ¬ (255 : Int32) < c
      · skip
        have f123 := (Nat.le_trans (Nat.le_trans (Nat.le_trans Z0 E116.1) E118.1) (Keep.of_wr W120).1)
        have f124 := ((A116.ext E118).wr W120)
        have f125 := ((F_value_b116.ext E118).other W120 (Or.inl (Nat.ne_of_lt (Nat.lt_of_lt_of_le A116.lt (Nat.le_of_eq g118.symm)))))
        have f126 := ((F_coder_b116.ext E118).other W120 (Or.inl (Nat.ne_of_lt (Nat.lt_of_lt_of_le A116.lt (Nat.le_of_eq g118.symm)))))
        have f127 := (((X00.ext E116).ext E118).wr W120 (Nat.le_trans (Nat.le_trans Z0 E116.1) (Nat.le_of_eq g118.symm)))
        have f128 := (Safe.wr W120 Sf118 CH118 (Safe.ext E118 CH116 Sf116))
        obtain ⟨_, _, ⟨T129, L129, k129, n129⟩, -, X129, ⟨Lc129, hQ129, l129, y129, z129⟩, st129⟩ := X120.specialBack hx (y := (⟨"java/lang/String", "<init>", "([C)V"⟩ : MethodName)) rfl hown (mvT hZ (hw _ (List.mem_of_getElem? (i := 14) rfl))) (mvT hZ (hw _ (List.mem_of_getElem? (i := 15) rfl))) (mvT hZ (hw _ (List.mem_of_getElem? (i := 16) rfl))) (by decide) (StrChars.Road.backV (W := 1) hZ hws (kI := 4) (hw _ (List.mem_of_getElem? (i := 11) rfl)) (cs := ([(nar .char a1)] : List Int32)) (bs := (([(nar .char a1)] : List Int32)).map (fun c => c.toInt8.toInt32)) (n := 1) (Nat.le_trans Z0 (Nat.le_of_eq g116.symm)) f123 f124 f125 f126 V120 (O2.ext f127.2) P5 rfl rfl (by decide) (by decide) (fun c hc => ⟨(hB122 c hc).1, hL122 c hc⟩) rfl (by decide) (by decide)) (g := (mkF m 31 #[.val (.int p), .val (.int a1), .val (.int a2), .val (.int a3)] [(.ref b118), (.ref b116), (.ref b116)])) rfl (by rw [hml]; rfl) (Steps.refl _) (a := b116) (argsL := [(.ref b118)]) (rest := [(.ref b116)]) (lenOf pdo_17 rfl) rfl (by show 2 * 0 + _ ≤ _; exact Nat.le_of_eq rfl) (hb hby d_rm_str_31) (fun _ _ => ⟨rfl, e120, (by decide : 2 + 1 ≤ _), (by decide : 5 + 1 ≤ _)⟩)
        dsimp only [Pt.U, Pt.locs, Pt.cells, Pt.slots] at X129 l129 y129 z129 st129 hQ129
        subst l129 y129 z129
        obtain ⟨rfl, Nq129, K129, Ex129, Fc129, t129, kb129, ta129, tb129, tc129, Fv129, Vt129⟩ := hQ129
        have N129 := Fr.app N120 Nq129
        have pq130 : ∀ τ, Steps pP.tables e below (T129.setTop (mkF m 34 #[.val (.int p), .val (.int a1), .val (.int a2), .val (.int a3)] [(.ref b116)])) τ → Steps pP.tables e below A0 τ := by
          intro τ κ
          refine pq121 τ ?_
          refine st129.trans ?_
          exact κ
        have KC129 : Keep h0 T129.heap [] := KC120.trans K129 (allS (Or.inr (Nat.le_trans (Nat.le_refl _) (Nat.le_of_eq g116.symm))) all0)
        have CH129 := CHv.keep K129 (sfS f128 sf0) CH120
        have CR129 := CHr.trans CR120 (CHr.keep K129 (sfS f128 sf0) CH120)
        have SK129 := Nat.le_trans SK120 K129.1
        have Uq131 := (⟨t129, kb129, Ex129, Fv129, Or.inl ⟨Fc129, Vt129, fun c hc => ⟨(hB122 c hc).1, hL122 c hc⟩⟩⟩ : UStr Z T129.heap b116 [(nar .char a1)])
        rw [own_narU hha1] at Uq131
        have SKe := SK129
        obtain ⟨fs, hr, hrun, hended, hEnd⟩ := X129.leaveW SI0 SKe (v := some (.ref b116)) (fun h => by rw [Bd.returns] at h; cases h)
        have CHe := CHr.trans CR129 (CHv.at X129 hZ hEW CH129)
        have pqE := pq130
        rw [hA0] at pqE
        refine ⟨_, _, pqE _ ?_, hrun, hended, _, _, rfl, ?_, ?_, hEnd.1, hEnd.2.1, hEnd.2.2.1, hEnd.2.2.2.mono (by decide) (by decide)⟩
        · show Steps pP.tables e below (T129.setTop (mkF m 34 #[.val (.int p), .val (.int a1), .val (.int a2), .val (.int a3)] [(.ref b116)])) _
          exact retOut X129 hx Bd.returns rfl (Or.inr (Or.inr (Or.inr (Or.inr ⟨rfl, rfl, rfl⟩)))) (hb hby d_rm_str_34) hr
        · show Q_str Z p a1 a2 a3 h0 n0 _ T129.heap _
          exact ⟨b116, rfl, N129, KC129, by simp only [own_cs3, hc1_102, hc17_115, if_true, if_false]; exact Uq131⟩
        · show CHr Z consts_1 s.vm s.heap T129.vm T129.heap
          rw [hh]; exact CHe
      · skip
        have f132 := (Safe.wr W120 Sf118 CH118 (Safe.ext E118 CH116 Sf116))
        have f133 := (((X00.ext E116).ext E118).wr W120 (Nat.le_trans (Nat.le_trans Z0 E116.1) (Nat.le_of_eq g118.symm)))
        have f134 := ((A116.ext E118).wr W120)
        have f135 := ((F_value_b116.ext E118).other W120 (Or.inl (Nat.ne_of_lt (Nat.lt_of_lt_of_le A116.lt (Nat.le_of_eq g118.symm)))))
        have f136 := ((F_coder_b116.ext E118).other W120 (Or.inl (Nat.ne_of_lt (Nat.lt_of_lt_of_le A116.lt (Nat.le_of_eq g118.symm)))))
        have f137 := (Nat.le_trans (Nat.le_trans (Nat.le_trans Z0 E116.1) E118.1) (Keep.of_wr W120).1)
        obtain ⟨_, _, ⟨T138, L138, k138, n138⟩, -, X138, ⟨Lc138, hQ138, l138, y138, z138⟩, st138⟩ := X120.specialBack hx (y := (⟨"java/lang/String", "<init>", "([C)V"⟩ : MethodName)) rfl hown (mvT hZ (hw _ (List.mem_of_getElem? (i := 14) rfl))) (mvT hZ (hw _ (List.mem_of_getElem? (i := 15) rfl))) (mvT hZ (hw _ (List.mem_of_getElem? (i := 16) rfl))) (by decide) (backOf (W := 1) (rm_i1_1 l Z a0 hw [] b116 b118 k118 ((nar .char a1)) G1 h120 n0 f137 O2 P5 f133 OA OH OL f134 (Nat.le_trans Z0 (Nat.le_of_eq g116.symm)) f135 f136 V120 hL122 hB122) hZ (hw _ (List.mem_of_getElem? (i := 16) rfl)) (hw _ (List.mem_of_getElem? (i := 12) rfl)) (by decide) (by decide)) (g := (mkF m 31 #[.val (.int p), .val (.int a1), .val (.int a2), .val (.int a3)] [(.ref b118), (.ref b116), (.ref b116)])) rfl (by rw [hml]; rfl) (Steps.refl _) (a := b116) (argsL := [(.ref b118)]) (rest := [(.ref b116)]) (lenOf pdo_17 rfl) rfl (by show 2 * 0 + _ ≤ _; exact Nat.le_of_eq rfl) (hb hby d_rm_str_31) (fun _ _ => ⟨rfl, e120, (by decide : 2 + 2 ≤ _), (by decide : 5 + 7 ≤ _)⟩)
        dsimp only [Pt.U, Pt.locs, Pt.cells, Pt.slots] at X138 l138 y138 z138 st138 hQ138
        subst l138 y138 z138
        obtain ⟨rfl, Nq138, K138, U138⟩ := hQ138
        have N138 := Fr.app N120 Nq138
        have pq139 : ∀ τ, Steps pP.tables e below (T138.setTop (mkF m 34 #[.val (.int p), .val (.int a1), .val (.int a2), .val (.int a3)] [(.ref b116)])) τ → Steps pP.tables e below A0 τ := by
          intro τ κ
          refine pq121 τ ?_
          refine st138.trans ?_
          exact κ
        have KC138 : Keep h0 T138.heap [] := KC120.trans K138 (allS (Or.inr (Nat.le_trans (Nat.le_refl _) (Nat.le_of_eq g116.symm))) all0)
        have CH138 := CHv.keep K138 (sfS f132 sf0) CH120
        have CR138 := CHr.trans CR120 (CHr.keep K138 (sfS f132 sf0) CH120)
        have SK138 := Nat.le_trans SK120 K138.1
        have Uq140 := U138
        rw [own_narU hha1] at Uq140
        have SKe := SK138
        obtain ⟨fs, hr, hrun, hended, hEnd⟩ := X138.leaveW SI0 SKe (v := some (.ref b116)) (fun h => by rw [Bd.returns] at h; cases h)
        have CHe := CHr.trans CR138 (CHv.at X138 hZ hEW CH138)
        have pqE := pq139
        rw [hA0] at pqE
        refine ⟨_, _, pqE _ ?_, hrun, hended, _, _, rfl, ?_, ?_, hEnd.1, hEnd.2.1, hEnd.2.2.1, hEnd.2.2.2.mono (by decide) (by decide)⟩
        · show Steps pP.tables e below (T138.setTop (mkF m 34 #[.val (.int p), .val (.int a1), .val (.int a2), .val (.int a3)] [(.ref b116)])) _
          exact retOut X138 hx Bd.returns rfl (Or.inr (Or.inr (Or.inr (Or.inr ⟨rfl, rfl, rfl⟩)))) (hb hby d_rm_str_34) hr
        · show Q_str Z p a1 a2 a3 h0 n0 _ T138.heap _
          exact ⟨b116, rfl, N138, KC138, by simp only [own_cs3, hc1_102, hc17_115, if_true, if_false]; exact Uq140⟩
        · show CHr Z consts_1 s.vm s.heap T138.vm T138.heap
          rw [hh]; exact CHe
    · skip
      have pq141 : ∀ τ, Steps pP.tables e below (s₁.setTop (mkF m 37 #[.val (.int p), .val (.int a1), .val (.int a2), .val (.int a3)] [(.int (2 : Int32)), (.int p)])) τ → Steps pP.tables e below A0 τ := by
        intro τ κ
        refine pq114 τ ?_
        refine XS.icmpYes X0.here hx rfl (pc0 := 17) (pc' := 35) rfl (hb hby d_rm_str_17) rfl (feq hc17_115).2 (by decide) (by decide) ?_
        refine XS.iloadN X0.here hx rfl (hb hby d_rm_str_35) rfl ?_
        refine XS.iconst X0.here hx rfl (hb hby d_rm_str_36) ?_
        exact κ
      by_cases hc37_142 : p = (2 : Int32)
      · skip
        obtain ⟨T143, h143, X143, e143, E143, A143, D143, -, st143⟩ := newO X0 hx hZ hown (hw _ (List.mem_of_getElem? (i := 10) rfl)) (hw _ (List.mem_of_getElem? (i := 11) rfl)) (hw _ (List.mem_of_getElem? (i := 12) rfl)) e0 (g := (mkF m 40 #[.val (.int p), .val (.int a1), .val (.int a2), .val (.int a3)] [])) rfl (hb hby d_rm_str_40) (by decide) (by decide)
        obtain ⟨b143, g143⟩ : ∃ z, z = h0.size := ⟨_, rfl⟩
        rw [← g143] at A143 D143 st143
        have pq144 : ∀ τ, Steps pP.tables e below (T143.setTop (mkF m 43 #[.val (.int p), .val (.int a1), .val (.int a2), .val (.int a3)] [(.ref b143)])) τ → Steps pP.tables e below A0 τ := by
          intro τ κ
          refine pq141 τ ?_
          refine XS.icmpNo X0.here hx rfl (hb hby d_rm_str_37) rfl (teq hc37_142).2 ?_
          refine st143 _ ?_
          exact κ
        have KC143 : Keep h0 h143 [] := KC0.ext E143
        have CH143 := CHv.ext E143 CH0
        have CR143 := CHr.trans CR0 (CHr.ext E143 CH0)
        have SK143 := Nat.le_trans SK0 E143.1
        have Sf143 := Safe.ext (x := b143) E143 CH0 (Safe.new (Nat.le_of_eq g143.symm))
        have F_value_b143 : Fld Z h143 b143 "java/lang/String" "value" "[B" .null := D143 (Or.inr (hw _ (List.mem_of_getElem? (i := 26) rfl))) (ty := (.array .byte)) (by decide)
        have F_coder_b143 : Fld Z h143 b143 "java/lang/String" "coder" "B" (.int (0 : Int32)) := D143 (Or.inr (hw _ (List.mem_of_getElem? (i := 27) rfl))) (ty := .byte) (by decide)
        obtain ⟨T145, h145, k145, X145, e145, E145, A145, st145⟩ := newP X143 hx hZ (hw _ (List.mem_of_getElem? (i := 13) rfl)) e143 (g := (mkF m 45 #[.val (.int p), .val (.int a1), .val (.int a2), .val (.int a3)] [(.int (2 : Int32)), (.ref b143), (.ref b143)])) rfl (hb hby d_rm_str_45) rfl (by decide) (cap := 2) (by decide) (by decide) (by decide) (by decide)
        obtain ⟨b145, g145⟩ : ∃ z, z = h143.size := ⟨_, rfl⟩
        rw [← g145] at A145 st145
        have pq146 : ∀ τ, Steps pP.tables e below (T145.setTop (mkF m 47 #[.val (.int p), .val (.int a1), .val (.int a2), .val (.int a3)] [(.ref b145), (.ref b143), (.ref b143)])) τ → Steps pP.tables e below A0 τ := by
          intro τ κ
          refine pq144 τ ?_
          refine XS.dup X143.here hx rfl (hb hby d_rm_str_43) rfl rfl ?_
          refine XS.iconst X143.here hx rfl (hb hby d_rm_str_44) ?_
          refine st145 _ ?_
          exact κ
        have KC145 : Keep h0 h145 [] := KC143.ext E145
        have CH145 := CHv.ext E145 CH143
        have CR145 := CHr.trans CR143 (CHr.ext E145 CH143)
        have SK145 := Nat.le_trans SK143 E145.1
        have V145 : Arv Z h145 b145 k145 .char (2 : Int32) [(.int (0 : Int32)), (.int (0 : Int32))] (.int (0 : Int32)) := (Arv.new A145 (by decide)).pad (pad_rep [] (.int (0 : Int32)) 2)
        have Sf145 := Safe.ext (x := b145) E145 CH143 (Safe.new (Nat.le_of_eq g145.symm))
        obtain ⟨cl147, Ar147, q147, S147, M147, Hs147, G147⟩ := id V145
        obtain ⟨T147, h147, X147, e147, W147, st147⟩ := stC X145 hx hZ e145 Ar147 (j := (0 : Int32)) (inb_of S147 ⟨by decide, by decide⟩) (g := (mkF m 50 #[.val (.int p), .val (.int a1), .val (.int a2), .val (.int a3)] [(.int a1), (.int (0 : Int32)), (.ref b145), (.ref b145), (.ref b143), (.ref b143)])) rfl rfl (hb hby d_rm_str_50)
        have pq148 : ∀ τ, Steps pP.tables e below (T147.setTop (mkF m 51 #[.val (.int p), .val (.int a1), .val (.int a2), .val (.int a3)] [(.ref b145), (.ref b143), (.ref b143)])) τ → Steps pP.tables e below A0 τ := by
          intro τ κ
          refine pq146 τ ?_
          refine XS.dup X145.here hx rfl (hb hby d_rm_str_47) rfl rfl ?_
          refine XS.iconst X145.here hx rfl (hb hby d_rm_str_48) ?_
          refine XS.iloadN X145.here hx rfl (hb hby d_rm_str_49) rfl ?_
          refine st147 _ ?_
          exact κ
        have KC147 : Keep h0 h147 [] := KC145.wr W147 (Or.inr (Nat.le_trans (Nat.le_trans (Nat.le_refl _) E143.1) (Nat.le_of_eq g145.symm)))
        have CH147 := CHv.wr W147 Sf145 CH145
        have CR147 := CHr.trans CR145 (CHr.wr W147 Sf145 CH145)
        have SK147 := Nat.le_trans SK145 (Keep.of_wr W147).1
        have V147 : Arv Z h147 b145 k145 .char (2 : Int32) [(.int (nar .char a1)), (.int (0 : Int32))] (.int (0 : Int32)) := Arv.set Ar147 q147 S147 M147 Hs147 G147 (fits_nar_char _) W147 0 rfl (Nat.le_of_ble_eq_true rfl)
        have N147 := Fr.snoc X147 N0 (Nat.le_trans (Nat.le_trans Z0 E143.1) (Nat.le_of_eq g145.symm))
        have f150 := (Safe.wr W147 Sf145 CH145 Sf145)
        obtain ⟨cl149, Ar149, q149, S149, M149, Hs149, G149⟩ := id V147
        obtain ⟨T149, h149, X149, e149, W149, st149⟩ := stC X147 hx hZ e147 Ar149 (j := (1 : Int32)) (inb_of S149 ⟨by decide, by decide⟩) (g := (mkF m 54 #[.val (.int p), .val (.int a1), .val (.int a2), .val (.int a3)] [(.int a2), (.int (1 : Int32)), (.ref b145), (.ref b145), (.ref b143), (.ref b143)])) rfl rfl (hb hby d_rm_str_54)
        have pq151 : ∀ τ, Steps pP.tables e below (T149.setTop (mkF m 55 #[.val (.int p), .val (.int a1), .val (.int a2), .val (.int a3)] [(.ref b145), (.ref b143), (.ref b143)])) τ → Steps pP.tables e below A0 τ := by
          intro τ κ
          refine pq148 τ ?_
          refine XS.dup X147.here hx rfl (hb hby d_rm_str_51) rfl rfl ?_
          refine XS.iconst X147.here hx rfl (hb hby d_rm_str_52) ?_
          refine XS.iloadN X147.here hx rfl (hb hby d_rm_str_53) rfl ?_
          refine st149 _ ?_
          exact κ
        have KC149 : Keep h0 h149 [] := KC147.wr W149 (Or.inr (Nat.le_trans (Nat.le_trans (Nat.le_refl _) E143.1) (Nat.le_of_eq g145.symm)))
        have CH149 := CHv.wr W149 f150 CH147
        have CR149 := CHr.trans CR147 (CHr.wr W149 f150 CH147)
        have SK149 := Nat.le_trans SK147 (Keep.of_wr W149).1
        have V149 : Arv Z h149 b145 k145 .char (2 : Int32) [(.int (nar .char a1)), (.int (nar .char a2))] (.int (0 : Int32)) := Arv.set Ar149 q149 S149 M149 Hs149 G149 (fits_nar_char _) W149 1 rfl (Nat.le_of_ble_eq_true rfl)
        have N149 := Fr.snoc X149 N147 (Nat.le_trans (Nat.le_trans Z0 E143.1) (Nat.le_of_eq g145.symm))
        have hB152 : ∀ c ∈ ([(nar .char a1), (nar .char a2)] : List Int32), ¬ c < 0 ∧ ¬ (65535 : Int32) < c := by
          intro c hc
          simp only [List.mem_cons, List.not_mem_nil, or_false] at hc
          rcases hc with hc | hc <;> rw [hc] <;> exact own_narR _
        by_cases hL152 : ∀ c ∈ ([(nar .char a1), (nar .char a2)] : List Int32), ¬ (255 : Int32) < c
        · skip
          have f153 := (Nat.le_trans (Nat.le_trans (Nat.le_trans (Nat.le_trans Z0 E143.1) E145.1) (Keep.of_wr W147).1) (Keep.of_wr W149).1)
          have f154 := (((A143.ext E145).wr W147).wr W149)
          have f155 := (((F_value_b143.ext E145).other W147 (Or.inl (Nat.ne_of_lt (Nat.lt_of_lt_of_le A143.lt (Nat.le_of_eq g145.symm))))).other W149 (Or.inl (Nat.ne_of_lt (Nat.lt_of_lt_of_le A143.lt (Nat.le_of_eq g145.symm)))))
          have f156 := (((F_coder_b143.ext E145).other W147 (Or.inl (Nat.ne_of_lt (Nat.lt_of_lt_of_le A143.lt (Nat.le_of_eq g145.symm))))).other W149 (Or.inl (Nat.ne_of_lt (Nat.lt_of_lt_of_le A143.lt (Nat.le_of_eq g145.symm)))))
          have f157 := ((((X00.ext E143).ext E145).wr W147 (Nat.le_trans (Nat.le_trans Z0 E143.1) (Nat.le_of_eq g145.symm))).wr W149 (Nat.le_trans (Nat.le_trans Z0 E143.1) (Nat.le_of_eq g145.symm)))
          have f158 := (Safe.wr W149 f150 CH147 (Safe.wr W147 Sf145 CH145 (Safe.ext E145 CH143 Sf143)))
          obtain ⟨_, _, ⟨T159, L159, k159, n159⟩, -, X159, ⟨Lc159, hQ159, l159, y159, z159⟩, st159⟩ := X149.specialBack hx (y := (⟨"java/lang/String", "<init>", "([C)V"⟩ : MethodName)) rfl hown (mvT hZ (hw _ (List.mem_of_getElem? (i := 14) rfl))) (mvT hZ (hw _ (List.mem_of_getElem? (i := 15) rfl))) (mvT hZ (hw _ (List.mem_of_getElem? (i := 16) rfl))) (by decide) (StrChars.Road.backV (W := 1) hZ hws (kI := 4) (hw _ (List.mem_of_getElem? (i := 11) rfl)) (cs := ([(nar .char a1), (nar .char a2)] : List Int32)) (bs := (([(nar .char a1), (nar .char a2)] : List Int32)).map (fun c => c.toInt8.toInt32)) (n := 2) (Nat.le_trans Z0 (Nat.le_of_eq g143.symm)) f153 f154 f155 f156 V149 (O2.ext f157.2) P5 rfl rfl (by decide) (by decide) (fun c hc => ⟨(hB152 c hc).1, hL152 c hc⟩) rfl (by decide) (by decide)) (g := (mkF m 55 #[.val (.int p), .val (.int a1), .val (.int a2), .val (.int a3)] [(.ref b145), (.ref b143), (.ref b143)])) rfl (by rw [hml]; rfl) (Steps.refl _) (a := b143) (argsL := [(.ref b145)]) (rest := [(.ref b143)]) (lenOf pdo_17 rfl) rfl (by show 2 * 0 + _ ≤ _; exact Nat.le_of_eq rfl) (hb hby d_rm_str_55) (fun _ _ => ⟨rfl, e149, (by decide : 2 + 1 ≤ _), (by decide : 6 + 2 ≤ _)⟩)
          dsimp only [Pt.U, Pt.locs, Pt.cells, Pt.slots] at X159 l159 y159 z159 st159 hQ159
          subst l159 y159 z159
          obtain ⟨rfl, Nq159, K159, Ex159, Fc159, t159, kb159, ta159, tb159, tc159, Fv159, Vt159⟩ := hQ159
          have N159 := Fr.app N149 Nq159
          have pq160 : ∀ τ, Steps pP.tables e below (T159.setTop (mkF m 58 #[.val (.int p), .val (.int a1), .val (.int a2), .val (.int a3)] [(.ref b143)])) τ → Steps pP.tables e below A0 τ := by
            intro τ κ
            refine pq151 τ ?_
            refine st159.trans ?_
            exact κ
          have KC159 : Keep h0 T159.heap [] := KC149.trans K159 (allS (Or.inr (Nat.le_trans (Nat.le_refl _) (Nat.le_of_eq g143.symm))) all0)
          have CH159 := CHv.keep K159 (sfS f158 sf0) CH149
          have CR159 := CHr.trans CR149 (CHr.keep K159 (sfS f158 sf0) CH149)
          have SK159 := Nat.le_trans SK149 K159.1
          have Uq161 := (⟨t159, kb159, Ex159, Fv159, Or.inl ⟨Fc159, Vt159, fun c hc => ⟨(hB152 c hc).1, hL152 c hc⟩⟩⟩ : UStr Z T159.heap b143 [(nar .char a1), (nar .char a2)])
          rw [own_narU hha1, own_narU hha2] at Uq161
          have SKe := SK159
          obtain ⟨fs, hr, hrun, hended, hEnd⟩ := X159.leaveW SI0 SKe (v := some (.ref b143)) (fun h => by rw [Bd.returns] at h; cases h)
          have CHe := CHr.trans CR159 (CHv.at X159 hZ hEW CH159)
          have pqE := pq160
          rw [hA0] at pqE
          refine ⟨_, _, pqE _ ?_, hrun, hended, _, _, rfl, ?_, ?_, hEnd.1, hEnd.2.1, hEnd.2.2.1, hEnd.2.2.2.mono (by decide) (by decide)⟩
          · show Steps pP.tables e below (T159.setTop (mkF m 58 #[.val (.int p), .val (.int a1), .val (.int a2), .val (.int a3)] [(.ref b143)])) _
            exact retOut X159 hx Bd.returns rfl (Or.inr (Or.inr (Or.inr (Or.inr ⟨rfl, rfl, rfl⟩)))) (hb hby d_rm_str_58) hr
          · show Q_str Z p a1 a2 a3 h0 n0 _ T159.heap _
            exact ⟨b143, rfl, N159, KC159, by simp only [own_cs3, hc1_102, hc17_115, hc37_142, if_true, if_false]; exact Uq161⟩
          · show CHr Z consts_1 s.vm s.heap T159.vm T159.heap
            rw [hh]; exact CHe
        · skip
          have f162 := (Safe.wr W149 f150 CH147 (Safe.wr W147 Sf145 CH145 (Safe.ext E145 CH143 Sf143)))
          have f163 := ((((X00.ext E143).ext E145).wr W147 (Nat.le_trans (Nat.le_trans Z0 E143.1) (Nat.le_of_eq g145.symm))).wr W149 (Nat.le_trans (Nat.le_trans Z0 E143.1) (Nat.le_of_eq g145.symm)))
          have f164 := (((A143.ext E145).wr W147).wr W149)
          have f165 := (((F_value_b143.ext E145).other W147 (Or.inl (Nat.ne_of_lt (Nat.lt_of_lt_of_le A143.lt (Nat.le_of_eq g145.symm))))).other W149 (Or.inl (Nat.ne_of_lt (Nat.lt_of_lt_of_le A143.lt (Nat.le_of_eq g145.symm)))))
          have f166 := (((F_coder_b143.ext E145).other W147 (Or.inl (Nat.ne_of_lt (Nat.lt_of_lt_of_le A143.lt (Nat.le_of_eq g145.symm))))).other W149 (Or.inl (Nat.ne_of_lt (Nat.lt_of_lt_of_le A143.lt (Nat.le_of_eq g145.symm)))))
          have f167 := (Nat.le_trans (Nat.le_trans (Nat.le_trans (Nat.le_trans Z0 E143.1) E145.1) (Keep.of_wr W147).1) (Keep.of_wr W149).1)
          obtain ⟨_, _, ⟨T168, L168, k168, n168⟩, -, X168, ⟨Lc168, hQ168, l168, y168, z168⟩, st168⟩ := X149.specialBack hx (y := (⟨"java/lang/String", "<init>", "([C)V"⟩ : MethodName)) rfl hown (mvT hZ (hw _ (List.mem_of_getElem? (i := 14) rfl))) (mvT hZ (hw _ (List.mem_of_getElem? (i := 15) rfl))) (mvT hZ (hw _ (List.mem_of_getElem? (i := 16) rfl))) (by decide) (backOf (W := 1) (rm_i1_2 l Z a0 hw [] b143 b145 k145 ((nar .char a1)) ((nar .char a2)) G1 h149 n0 f167 O2 P5 f163 OA OH OL f164 (Nat.le_trans Z0 (Nat.le_of_eq g143.symm)) f165 f166 V149 hL152 hB152) hZ (hw _ (List.mem_of_getElem? (i := 16) rfl)) (hw _ (List.mem_of_getElem? (i := 12) rfl)) (by decide) (by decide)) (g := (mkF m 55 #[.val (.int p), .val (.int a1), .val (.int a2), .val (.int a3)] [(.ref b145), (.ref b143), (.ref b143)])) rfl (by rw [hml]; rfl) (Steps.refl _) (a := b143) (argsL := [(.ref b145)]) (rest := [(.ref b143)]) (lenOf pdo_17 rfl) rfl (by show 2 * 0 + _ ≤ _; exact Nat.le_of_eq rfl) (hb hby d_rm_str_55) (fun _ _ => ⟨rfl, e149, (by decide : 2 + 2 ≤ _), (by decide : 6 + 8 ≤ _)⟩)
          dsimp only [Pt.U, Pt.locs, Pt.cells, Pt.slots] at X168 l168 y168 z168 st168 hQ168
          subst l168 y168 z168
          obtain ⟨rfl, Nq168, K168, U168⟩ := hQ168
          have N168 := Fr.app N149 Nq168
          have pq169 : ∀ τ, Steps pP.tables e below (T168.setTop (mkF m 58 #[.val (.int p), .val (.int a1), .val (.int a2), .val (.int a3)] [(.ref b143)])) τ → Steps pP.tables e below A0 τ := by
            intro τ κ
            refine pq151 τ ?_
            refine st168.trans ?_
            exact κ
          have KC168 : Keep h0 T168.heap [] := KC149.trans K168 (allS (Or.inr (Nat.le_trans (Nat.le_refl _) (Nat.le_of_eq g143.symm))) all0)
          have CH168 := CHv.keep K168 (sfS f162 sf0) CH149
          have CR168 := CHr.trans CR149 (CHr.keep K168 (sfS f162 sf0) CH149)
          have SK168 := Nat.le_trans SK149 K168.1
          have Uq170 := U168
          rw [own_narU hha1, own_narU hha2] at Uq170
          have SKe := SK168
          obtain ⟨fs, hr, hrun, hended, hEnd⟩ := X168.leaveW SI0 SKe (v := some (.ref b143)) (fun h => by rw [Bd.returns] at h; cases h)
          have CHe := CHr.trans CR168 (CHv.at X168 hZ hEW CH168)
          have pqE := pq169
          rw [hA0] at pqE
          refine ⟨_, _, pqE _ ?_, hrun, hended, _, _, rfl, ?_, ?_, hEnd.1, hEnd.2.1, hEnd.2.2.1, hEnd.2.2.2.mono (by decide) (by decide)⟩
          · show Steps pP.tables e below (T168.setTop (mkF m 58 #[.val (.int p), .val (.int a1), .val (.int a2), .val (.int a3)] [(.ref b143)])) _
            exact retOut X168 hx Bd.returns rfl (Or.inr (Or.inr (Or.inr (Or.inr ⟨rfl, rfl, rfl⟩)))) (hb hby d_rm_str_58) hr
          · show Q_str Z p a1 a2 a3 h0 n0 _ T168.heap _
            exact ⟨b143, rfl, N168, KC168, by simp only [own_cs3, hc1_102, hc17_115, hc37_142, if_true, if_false]; exact Uq170⟩
          · show CHr Z consts_1 s.vm s.heap T168.vm T168.heap
            rw [hh]; exact CHe
      · skip
        obtain ⟨T171, h171, X171, e171, E171, A171, D171, -, st171⟩ := newO X0 hx hZ hown (hw _ (List.mem_of_getElem? (i := 10) rfl)) (hw _ (List.mem_of_getElem? (i := 11) rfl)) (hw _ (List.mem_of_getElem? (i := 12) rfl)) e0 (g := (mkF m 59 #[.val (.int p), .val (.int a1), .val (.int a2), .val (.int a3)] [])) rfl (hb hby d_rm_str_59) (by decide) (by decide)
        obtain ⟨b171, g171⟩ : ∃ z, z = h0.size := ⟨_, rfl⟩
        rw [← g171] at A171 D171 st171
        have pq172 : ∀ τ, Steps pP.tables e below (T171.setTop (mkF m 62 #[.val (.int p), .val (.int a1), .val (.int a2), .val (.int a3)] [(.ref b171)])) τ → Steps pP.tables e below A0 τ := by
          intro τ κ
          refine pq141 τ ?_
          refine XS.icmpYes X0.here hx rfl (pc0 := 37) (pc' := 59) rfl (hb hby d_rm_str_37) rfl (feq hc37_142).2 (by decide) (by decide) ?_
          refine st171 _ ?_
          exact κ
        have KC171 : Keep h0 h171 [] := KC0.ext E171
        have CH171 := CHv.ext E171 CH0
        have CR171 := CHr.trans CR0 (CHr.ext E171 CH0)
        have SK171 := Nat.le_trans SK0 E171.1
        have Sf171 := Safe.ext (x := b171) E171 CH0 (Safe.new (Nat.le_of_eq g171.symm))
        have F_value_b171 : Fld Z h171 b171 "java/lang/String" "value" "[B" .null := D171 (Or.inr (hw _ (List.mem_of_getElem? (i := 26) rfl))) (ty := (.array .byte)) (by decide)
        have F_coder_b171 : Fld Z h171 b171 "java/lang/String" "coder" "B" (.int (0 : Int32)) := D171 (Or.inr (hw _ (List.mem_of_getElem? (i := 27) rfl))) (ty := .byte) (by decide)
        obtain ⟨T173, h173, k173, X173, e173, E173, A173, st173⟩ := newP X171 hx hZ (hw _ (List.mem_of_getElem? (i := 13) rfl)) e171 (g := (mkF m 64 #[.val (.int p), .val (.int a1), .val (.int a2), .val (.int a3)] [(.int (3 : Int32)), (.ref b171), (.ref b171)])) rfl (hb hby d_rm_str_64) rfl (by decide) (cap := 3) (by decide) (by decide) (by decide) (by decide)
        obtain ⟨b173, g173⟩ : ∃ z, z = h171.size := ⟨_, rfl⟩
        rw [← g173] at A173 st173
        have pq174 : ∀ τ, Steps pP.tables e below (T173.setTop (mkF m 66 #[.val (.int p), .val (.int a1), .val (.int a2), .val (.int a3)] [(.ref b173), (.ref b171), (.ref b171)])) τ → Steps pP.tables e below A0 τ := by
          intro τ κ
          refine pq172 τ ?_
          refine XS.dup X171.here hx rfl (hb hby d_rm_str_62) rfl rfl ?_
          refine XS.iconst X171.here hx rfl (hb hby d_rm_str_63) ?_
          refine st173 _ ?_
          exact κ
        have KC173 : Keep h0 h173 [] := KC171.ext E173
        have CH173 := CHv.ext E173 CH171
        have CR173 := CHr.trans CR171 (CHr.ext E173 CH171)
        have SK173 := Nat.le_trans SK171 E173.1
        have V173 : Arv Z h173 b173 k173 .char (3 : Int32) [(.int (0 : Int32)), (.int (0 : Int32)), (.int (0 : Int32))] (.int (0 : Int32)) := (Arv.new A173 (by decide)).pad (pad_rep [] (.int (0 : Int32)) 3)
        have Sf173 := Safe.ext (x := b173) E173 CH171 (Safe.new (Nat.le_of_eq g173.symm))
        obtain ⟨cl175, Ar175, q175, S175, M175, Hs175, G175⟩ := id V173
        obtain ⟨T175, h175, X175, e175, W175, st175⟩ := stC X173 hx hZ e173 Ar175 (j := (0 : Int32)) (inb_of S175 ⟨by decide, by decide⟩) (g := (mkF m 69 #[.val (.int p), .val (.int a1), .val (.int a2), .val (.int a3)] [(.int a1), (.int (0 : Int32)), (.ref b173), (.ref b173), (.ref b171), (.ref b171)])) rfl rfl (hb hby d_rm_str_69)
        have pq176 : ∀ τ, Steps pP.tables e below (T175.setTop (mkF m 70 #[.val (.int p), .val (.int a1), .val (.int a2), .val (.int a3)] [(.ref b173), (.ref b171), (.ref b171)])) τ → Steps pP.tables e below A0 τ := by
          intro τ κ
          refine pq174 τ ?_
          refine XS.dup X173.here hx rfl (hb hby d_rm_str_66) rfl rfl ?_
          refine XS.iconst X173.here hx rfl (hb hby d_rm_str_67) ?_
          refine XS.iloadN X173.here hx rfl (hb hby d_rm_str_68) rfl ?_
          refine st175 _ ?_
          exact κ
        have KC175 : Keep h0 h175 [] := KC173.wr W175 (Or.inr (Nat.le_trans (Nat.le_trans (Nat.le_refl _) E171.1) (Nat.le_of_eq g173.symm)))
        have CH175 := CHv.wr W175 Sf173 CH173
        have CR175 := CHr.trans CR173 (CHr.wr W175 Sf173 CH173)
        have SK175 := Nat.le_trans SK173 (Keep.of_wr W175).1
        have V175 : Arv Z h175 b173 k173 .char (3 : Int32) [(.int (nar .char a1)), (.int (0 : Int32)), (.int (0 : Int32))] (.int (0 : Int32)) := Arv.set Ar175 q175 S175 M175 Hs175 G175 (fits_nar_char _) W175 0 rfl (Nat.le_of_ble_eq_true rfl)
        have N175 := Fr.snoc X175 N0 (Nat.le_trans (Nat.le_trans Z0 E171.1) (Nat.le_of_eq g173.symm))
        have f178 := (Safe.wr W175 Sf173 CH173 Sf173)
        obtain ⟨cl177, Ar177, q177, S177, M177, Hs177, G177⟩ := id V175
        obtain ⟨T177, h177, X177, e177, W177, st177⟩ := stC X175 hx hZ e175 Ar177 (j := (1 : Int32)) (inb_of S177 ⟨by decide, by decide⟩) (g := (mkF m 73 #[.val (.int p), .val (.int a1), .val (.int a2), .val (.int a3)] [(.int a2), (.int (1 : Int32)), (.ref b173), (.ref b173), (.ref b171), (.ref b171)])) rfl rfl (hb hby d_rm_str_73)
        have pq179 : ∀ τ, Steps pP.tables e below (T177.setTop (mkF m 74 #[.val (.int p), .val (.int a1), .val (.int a2), .val (.int a3)] [(.ref b173), (.ref b171), (.ref b171)])) τ → Steps pP.tables e below A0 τ := by
          intro τ κ
          refine pq176 τ ?_
          refine XS.dup X175.here hx rfl (hb hby d_rm_str_70) rfl rfl ?_
          refine XS.iconst X175.here hx rfl (hb hby d_rm_str_71) ?_
          refine XS.iloadN X175.here hx rfl (hb hby d_rm_str_72) rfl ?_
          refine st177 _ ?_
          exact κ
        have KC177 : Keep h0 h177 [] := KC175.wr W177 (Or.inr (Nat.le_trans (Nat.le_trans (Nat.le_refl _) E171.1) (Nat.le_of_eq g173.symm)))
        have CH177 := CHv.wr W177 f178 CH175
        have CR177 := CHr.trans CR175 (CHr.wr W177 f178 CH175)
        have SK177 := Nat.le_trans SK175 (Keep.of_wr W177).1
        have V177 : Arv Z h177 b173 k173 .char (3 : Int32) [(.int (nar .char a1)), (.int (nar .char a2)), (.int (0 : Int32))] (.int (0 : Int32)) := Arv.set Ar177 q177 S177 M177 Hs177 G177 (fits_nar_char _) W177 1 rfl (Nat.le_of_ble_eq_true rfl)
        have N177 := Fr.snoc X177 N175 (Nat.le_trans (Nat.le_trans Z0 E171.1) (Nat.le_of_eq g173.symm))
        have f181 := (Safe.wr W177 f178 CH175 f178)
        obtain ⟨cl180, Ar180, q180, S180, M180, Hs180, G180⟩ := id V177
        obtain ⟨T180, h180, X180, e180, W180, st180⟩ := stC X177 hx hZ e177 Ar180 (j := (2 : Int32)) (inb_of S180 ⟨by decide, by decide⟩) (g := (mkF m 77 #[.val (.int p), .val (.int a1), .val (.int a2), .val (.int a3)] [(.int a3), (.int (2 : Int32)), (.ref b173), (.ref b173), (.ref b171), (.ref b171)])) rfl rfl (hb hby d_rm_str_77)
        have pq182 : ∀ τ, Steps pP.tables e below (T180.setTop (mkF m 78 #[.val (.int p), .val (.int a1), .val (.int a2), .val (.int a3)] [(.ref b173), (.ref b171), (.ref b171)])) τ → Steps pP.tables e below A0 τ := by
          intro τ κ
          refine pq179 τ ?_
          refine XS.dup X177.here hx rfl (hb hby d_rm_str_74) rfl rfl ?_
          refine XS.iconst X177.here hx rfl (hb hby d_rm_str_75) ?_
          refine XS.iloadN X177.here hx rfl (hb hby d_rm_str_76) rfl ?_
          refine st180 _ ?_
          exact κ
        have KC180 : Keep h0 h180 [] := KC177.wr W180 (Or.inr (Nat.le_trans (Nat.le_trans (Nat.le_refl _) E171.1) (Nat.le_of_eq g173.symm)))
        have CH180 := CHv.wr W180 f181 CH177
        have CR180 := CHr.trans CR177 (CHr.wr W180 f181 CH177)
        have SK180 := Nat.le_trans SK177 (Keep.of_wr W180).1
        have V180 : Arv Z h180 b173 k173 .char (3 : Int32) [(.int (nar .char a1)), (.int (nar .char a2)), (.int (nar .char a3))] (.int (0 : Int32)) := Arv.set Ar180 q180 S180 M180 Hs180 G180 (fits_nar_char _) W180 2 rfl (Nat.le_of_ble_eq_true rfl)
        have N180 := Fr.snoc X180 N177 (Nat.le_trans (Nat.le_trans Z0 E171.1) (Nat.le_of_eq g173.symm))
        have hB183 : ∀ c ∈ ([(nar .char a1), (nar .char a2), (nar .char a3)] : List Int32), ¬ c < 0 ∧ ¬ (65535 : Int32) < c := by
          intro c hc
          simp only [List.mem_cons, List.not_mem_nil, or_false] at hc
          rcases hc with hc | hc | hc <;> rw [hc] <;> exact own_narR _
        by_cases hL183 : ∀ c ∈ ([(nar .char a1), (nar .char a2), (nar .char a3)] : List Int32), ¬ (255 : Int32) < c
        · skip
          have f184 := (Nat.le_trans (Nat.le_trans (Nat.le_trans (Nat.le_trans (Nat.le_trans Z0 E171.1) E173.1) (Keep.of_wr W175).1) (Keep.of_wr W177).1) (Keep.of_wr W180).1)
          have f185 := ((((A171.ext E173).wr W175).wr W177).wr W180)
          have f186 := ((((F_value_b171.ext E173).other W175 (Or.inl (Nat.ne_of_lt (Nat.lt_of_lt_of_le A171.lt (Nat.le_of_eq g173.symm))))).other W177 (Or.inl (Nat.ne_of_lt (Nat.lt_of_lt_of_le A171.lt (Nat.le_of_eq g173.symm))))).other W180 (Or.inl (Nat.ne_of_lt (Nat.lt_of_lt_of_le A171.lt (Nat.le_of_eq g173.symm)))))
          have f187 := ((((F_coder_b171.ext E173).other W175 (Or.inl (Nat.ne_of_lt (Nat.lt_of_lt_of_le A171.lt (Nat.le_of_eq g173.symm))))).other W177 (Or.inl (Nat.ne_of_lt (Nat.lt_of_lt_of_le A171.lt (Nat.le_of_eq g173.symm))))).other W180 (Or.inl (Nat.ne_of_lt (Nat.lt_of_lt_of_le A171.lt (Nat.le_of_eq g173.symm)))))
          have f188 := (((((X00.ext E171).ext E173).wr W175 (Nat.le_trans (Nat.le_trans Z0 E171.1) (Nat.le_of_eq g173.symm))).wr W177 (Nat.le_trans (Nat.le_trans Z0 E171.1) (Nat.le_of_eq g173.symm))).wr W180 (Nat.le_trans (Nat.le_trans Z0 E171.1) (Nat.le_of_eq g173.symm)))
          have f189 := (Safe.wr W180 f181 CH177 (Safe.wr W177 f178 CH175 (Safe.wr W175 Sf173 CH173 (Safe.ext E173 CH171 Sf171))))
          obtain ⟨_, _, ⟨T190, L190, k190, n190⟩, -, X190, ⟨Lc190, hQ190, l190, y190, z190⟩, st190⟩ := X180.specialBack hx (y := (⟨"java/lang/String", "<init>", "([C)V"⟩ : MethodName)) rfl hown (mvT hZ (hw _ (List.mem_of_getElem? (i := 14) rfl))) (mvT hZ (hw _ (List.mem_of_getElem? (i := 15) rfl))) (mvT hZ (hw _ (List.mem_of_getElem? (i := 16) rfl))) (by decide) (StrChars.Road.backV (W := 1) hZ hws (kI := 4) (hw _ (List.mem_of_getElem? (i := 11) rfl)) (cs := ([(nar .char a1), (nar .char a2), (nar .char a3)] : List Int32)) (bs := (([(nar .char a1), (nar .char a2), (nar .char a3)] : List Int32)).map (fun c => c.toInt8.toInt32)) (n := 3) (Nat.le_trans Z0 (Nat.le_of_eq g171.symm)) f184 f185 f186 f187 V180 (O2.ext f188.2) P5 rfl rfl (by decide) (by decide) (fun c hc => ⟨(hB183 c hc).1, hL183 c hc⟩) rfl (by decide) (by decide)) (g := (mkF m 78 #[.val (.int p), .val (.int a1), .val (.int a2), .val (.int a3)] [(.ref b173), (.ref b171), (.ref b171)])) rfl (by rw [hml]; rfl) (Steps.refl _) (a := b171) (argsL := [(.ref b173)]) (rest := [(.ref b171)]) (lenOf pdo_17 rfl) rfl (by show 2 * 0 + _ ≤ _; exact Nat.le_of_eq rfl) (hb hby d_rm_str_78) (fun _ _ => ⟨rfl, e180, (by decide : 2 + 1 ≤ _), (by decide : 7 + 3 ≤ _)⟩)
          dsimp only [Pt.U, Pt.locs, Pt.cells, Pt.slots] at X190 l190 y190 z190 st190 hQ190
          subst l190 y190 z190
          obtain ⟨rfl, Nq190, K190, Ex190, Fc190, t190, kb190, ta190, tb190, tc190, Fv190, Vt190⟩ := hQ190
          have N190 := Fr.app N180 Nq190
          have pq191 : ∀ τ, Steps pP.tables e below (T190.setTop (mkF m 81 #[.val (.int p), .val (.int a1), .val (.int a2), .val (.int a3)] [(.ref b171)])) τ → Steps pP.tables e below A0 τ := by
            intro τ κ
            refine pq182 τ ?_
            refine st190.trans ?_
            exact κ
          have KC190 : Keep h0 T190.heap [] := KC180.trans K190 (allS (Or.inr (Nat.le_trans (Nat.le_refl _) (Nat.le_of_eq g171.symm))) all0)
          have CH190 := CHv.keep K190 (sfS f189 sf0) CH180
          have CR190 := CHr.trans CR180 (CHr.keep K190 (sfS f189 sf0) CH180)
          have SK190 := Nat.le_trans SK180 K190.1
          have Uq192 := (⟨t190, kb190, Ex190, Fv190, Or.inl ⟨Fc190, Vt190, fun c hc => ⟨(hB183 c hc).1, hL183 c hc⟩⟩⟩ : UStr Z T190.heap b171 [(nar .char a1), (nar .char a2), (nar .char a3)])
          rw [own_narU hha1, own_narU hha2, own_narU hha3] at Uq192
          have SKe := SK190
          obtain ⟨fs, hr, hrun, hended, hEnd⟩ := X190.leaveW SI0 SKe (v := some (.ref b171)) (fun h => by rw [Bd.returns] at h; cases h)
          have CHe := CHr.trans CR190 (CHv.at X190 hZ hEW CH190)
          have pqE := pq191
          rw [hA0] at pqE
          refine ⟨_, _, pqE _ ?_, hrun, hended, _, _, rfl, ?_, ?_, hEnd.1, hEnd.2.1, hEnd.2.2.1, hEnd.2.2.2.mono (by decide) (by decide)⟩
          · show Steps pP.tables e below (T190.setTop (mkF m 81 #[.val (.int p), .val (.int a1), .val (.int a2), .val (.int a3)] [(.ref b171)])) _
            exact retOut X190 hx Bd.returns rfl (Or.inr (Or.inr (Or.inr (Or.inr ⟨rfl, rfl, rfl⟩)))) (hb hby d_rm_str_81) hr
          · show Q_str Z p a1 a2 a3 h0 n0 _ T190.heap _
            exact ⟨b171, rfl, N190, KC190, by simp only [own_cs3, hc1_102, hc17_115, hc37_142, if_true, if_false]; exact Uq192⟩
          · show CHr Z consts_1 s.vm s.heap T190.vm T190.heap
            rw [hh]; exact CHe
        · skip
          have f193 := (Safe.wr W180 f181 CH177 (Safe.wr W177 f178 CH175 (Safe.wr W175 Sf173 CH173 (Safe.ext E173 CH171 Sf171))))
          have f194 := (((((X00.ext E171).ext E173).wr W175 (Nat.le_trans (Nat.le_trans Z0 E171.1) (Nat.le_of_eq g173.symm))).wr W177 (Nat.le_trans (Nat.le_trans Z0 E171.1) (Nat.le_of_eq g173.symm))).wr W180 (Nat.le_trans (Nat.le_trans Z0 E171.1) (Nat.le_of_eq g173.symm)))
          have f195 := ((((A171.ext E173).wr W175).wr W177).wr W180)
          have f196 := ((((F_value_b171.ext E173).other W175 (Or.inl (Nat.ne_of_lt (Nat.lt_of_lt_of_le A171.lt (Nat.le_of_eq g173.symm))))).other W177 (Or.inl (Nat.ne_of_lt (Nat.lt_of_lt_of_le A171.lt (Nat.le_of_eq g173.symm))))).other W180 (Or.inl (Nat.ne_of_lt (Nat.lt_of_lt_of_le A171.lt (Nat.le_of_eq g173.symm)))))
          have f197 := ((((F_coder_b171.ext E173).other W175 (Or.inl (Nat.ne_of_lt (Nat.lt_of_lt_of_le A171.lt (Nat.le_of_eq g173.symm))))).other W177 (Or.inl (Nat.ne_of_lt (Nat.lt_of_lt_of_le A171.lt (Nat.le_of_eq g173.symm))))).other W180 (Or.inl (Nat.ne_of_lt (Nat.lt_of_lt_of_le A171.lt (Nat.le_of_eq g173.symm)))))
          have f198 := (Nat.le_trans (Nat.le_trans (Nat.le_trans (Nat.le_trans (Nat.le_trans Z0 E171.1) E173.1) (Keep.of_wr W175).1) (Keep.of_wr W177).1) (Keep.of_wr W180).1)
          obtain ⟨_, _, ⟨T199, L199, k199, n199⟩, -, X199, ⟨Lc199, hQ199, l199, y199, z199⟩, st199⟩ := X180.specialBack hx (y := (⟨"java/lang/String", "<init>", "([C)V"⟩ : MethodName)) rfl hown (mvT hZ (hw _ (List.mem_of_getElem? (i := 14) rfl))) (mvT hZ (hw _ (List.mem_of_getElem? (i := 15) rfl))) (mvT hZ (hw _ (List.mem_of_getElem? (i := 16) rfl))) (by decide) (backOf (W := 1) (rm_i1_3 l Z a0 hw [] b171 b173 k173 ((nar .char a1)) ((nar .char a2)) ((nar .char a3)) G1 h180 n0 f198 O2 P5 f194 OA OH OL f195 (Nat.le_trans Z0 (Nat.le_of_eq g171.symm)) f196 f197 V180 hL183 hB183) hZ (hw _ (List.mem_of_getElem? (i := 16) rfl)) (hw _ (List.mem_of_getElem? (i := 12) rfl)) (by decide) (by decide)) (g := (mkF m 78 #[.val (.int p), .val (.int a1), .val (.int a2), .val (.int a3)] [(.ref b173), (.ref b171), (.ref b171)])) rfl (by rw [hml]; rfl) (Steps.refl _) (a := b171) (argsL := [(.ref b173)]) (rest := [(.ref b171)]) (lenOf pdo_17 rfl) rfl (by show 2 * 0 + _ ≤ _; exact Nat.le_of_eq rfl) (hb hby d_rm_str_78) (fun _ _ => ⟨rfl, e180, (by decide : 2 + 2 ≤ _), (by decide : 7 + 9 ≤ _)⟩)
          dsimp only [Pt.U, Pt.locs, Pt.cells, Pt.slots] at X199 l199 y199 z199 st199 hQ199
          subst l199 y199 z199
          obtain ⟨rfl, Nq199, K199, U199⟩ := hQ199
          have N199 := Fr.app N180 Nq199
          have pq200 : ∀ τ, Steps pP.tables e below (T199.setTop (mkF m 81 #[.val (.int p), .val (.int a1), .val (.int a2), .val (.int a3)] [(.ref b171)])) τ → Steps pP.tables e below A0 τ := by
            intro τ κ
            refine pq182 τ ?_
            refine st199.trans ?_
            exact κ
          have KC199 : Keep h0 T199.heap [] := KC180.trans K199 (allS (Or.inr (Nat.le_trans (Nat.le_refl _) (Nat.le_of_eq g171.symm))) all0)
          have CH199 := CHv.keep K199 (sfS f193 sf0) CH180
          have CR199 := CHr.trans CR180 (CHr.keep K199 (sfS f193 sf0) CH180)
          have SK199 := Nat.le_trans SK180 K199.1
          have Uq201 := U199
          rw [own_narU hha1, own_narU hha2, own_narU hha3] at Uq201
          have SKe := SK199
          obtain ⟨fs, hr, hrun, hended, hEnd⟩ := X199.leaveW SI0 SKe (v := some (.ref b171)) (fun h => by rw [Bd.returns] at h; cases h)
          have CHe := CHr.trans CR199 (CHv.at X199 hZ hEW CH199)
          have pqE := pq200
          rw [hA0] at pqE
          refine ⟨_, _, pqE _ ?_, hrun, hended, _, _, rfl, ?_, ?_, hEnd.1, hEnd.2.1, hEnd.2.2.1, hEnd.2.2.2.mono (by decide) (by decide)⟩
          · show Steps pP.tables e below (T199.setTop (mkF m 81 #[.val (.int p), .val (.int a1), .val (.int a2), .val (.int a3)] [(.ref b171)])) _
            exact retOut X199 hx Bd.returns rfl (Or.inr (Or.inr (Or.inr (Or.inr ⟨rfl, rfl, rfl⟩)))) (hb hby d_rm_str_81) hr
          · show Q_str Z p a1 a2 a3 h0 n0 _ T199.heap _
            exact ⟨b171, rfl, N199, KC199, by simp only [own_cs3, hc1_102, hc17_115, hc37_142, if_true, if_false]; exact Uq201⟩
          · show CHr Z consts_1 s.vm s.heap T199.vm T199.heap
            rw [hh]; exact CHe
def Q_law (n0 : Nat) (v : Option Value) (h : Heap) (L : List Loc) : Prop := v = some (.int 1) ∧ Fr n0 L
theorem ef_rm_law (m : MethodId) (x0 : Int32) (x1 : Int64) (x2 : Int64) (x3 : Int32) : entryFrame m #[(.int x0), (.long x1), (.long x2), (.int x3)] maxLocals = mkF m 0 #[.val (.int x0), .val (.long x1), .second, .val (.long x2), .second, .val (.int x3), .unset, .unset, .unset, .unset, .unset, .unset, .unset, .unset, .unset, .unset, .unset] [] := by first | (simp [entryFrame, mkF, argsToLocals, Value.category, maxLocals]; done) | rfl
set_option maxRecDepth 65536 in
set_option maxHeartbeats 3000000 in
theorem rm_law (l : Launch) (Z : State) (a0 : Array Value) (hw : ∀ d ∈ tables_1, d.before a0 Z = true) (hEW : EW Z a0 consts_1) (ws : List Jvm.Cond) (p0 : Int32) (q1 q2 : Int64) (p3 : Int32) (G1 : Int32) (G3 : Value) (h0 : Heap) (n0 : Nat) (Z0 : n0 ≤ h0.size) (O2 : Sta Z Z.heap "java/lang/String" "COMPACT_STRINGS" "Z" (.int G1)) (P5 : ¬ (G1 = (0 : Int32))) (X00 : Old Z n0 h0) (O4 : Sta Z Z.heap "jdk/internal/util/Preconditions" "SIOOBE_FORMATTER" "Ljava/util/function/BiFunction;" G3) (rG3 : G3.isRef = true) (OA : Sta Z Z.heap "java/lang/StringUTF16" "$assertionsDisabled" "Z" (.int 1)) (OH : Sta Z Z.heap "java/lang/StringUTF16" "HI_BYTE_SHIFT" "I" (.int 0)) (OL : Sta Z Z.heap "java/lang/StringUTF16" "LO_BYTE_SHIFT" "I" (.int 8)) :
    MetFree l x (head1 (Jvm.Cond.code x code maxLocals ret :: ws) room_1) (fun αs U => αs = #[(.int p0), (.long q1), (.long q2), (.int p3)] ∧ Z.Warmed39 U.vm ∧ U.heap = h0 ∧ CHv Z consts_1 U.vm h0) (fun _ _ _ _ _ => True) (fun _ U o U' => ∃ v L, o = .returned v ∧ Q_law n0 v U'.heap L ∧ CHr Z consts_1 U.vm U.heap U'.vm U'.heap ∧ ReturnedEndW U o U' L room_1.cells room_1.slots) := by
  refine MetFree.of_bodySF (plainFor_of_name pno_0) hisR ?_
  intro pP e s m args below meth cC s₁ Bd hml0 hP hK
  obtain ⟨rfl, hZ, hh, CH0⟩ := hP
  have hx := Bd.exec
  have hby := Bd.bytes
  have hml : cC.maxLocals = 17 := hml0
  have hown : s.vm.findClass "com/example/sites_into_slices/sitesintoslices/identity/AsciiCaseStartsWithIgnoringCasePinLaw" = some m.cls := findClass_of_methodNamed Bd.named
  have hnm := (name_of_methodNamed Bd.named Bd.method).1
  have X0 : Stand pP l e room_1 (s.setVm s.vm) m #[(.int p0), (.long q1), (.long q2), (.int p3)] below meth cC s₁ [] 0 0 := Stand.of_body Bd
  have e0 : s₁.heap = h0 := by rw [← hh, Bd.state]; rfl
  have N0 := Fr.nil n0
  have KC0 : Keep h0 h0 [] := Keep.refl h0 _
  replace hZ : Z.Warmed39 (s.setVm s.vm).vm := hZ
  replace hown : (s.setVm s.vm).vm.findClass "com/example/sites_into_slices/sitesintoslices/identity/AsciiCaseStartsWithIgnoringCasePinLaw" = some m.cls := hown
  have SI0 : s.Since s.vm h0.size := (State.WarmedH.refl s).since _
  have SK0 : h0.size ≤ h0.size := Nat.le_refl _
  have CR0 : CHr Z consts_1 s.vm h0 s.vm h0 := CHr.refl CH0
  obtain ⟨A0, hA0⟩ : ∃ z, z = s₁.setTop (entryFrame m #[(.int p0), (.long q1), (.long q2), (.int p3)] maxLocals) := ⟨_, rfl⟩
  have pre0 : ∀ τ, Steps pP.tables e below (s₁.setTop (mkF m 0 #[.val (.int p0), .val (.long q1), .second, .val (.long q2), .second, .val (.int p3), .unset, .unset, .unset, .unset, .unset, .unset, .unset, .unset, .unset, .unset, .unset] [])) τ → Steps pP.tables e below A0 τ := fun τ κ => by rw [hA0]; exact castTop (ef_rm_law m p0 q1 q2 p3) κ
  have pq101 : ∀ τ, Steps pP.tables e below (s₁.setTop (mkF m 3 #[.val (.int p0), .val (.long q1), .second, .val (.long q2), .second, .val (.int p3), .unset, .unset, .unset, .unset, .unset, .unset, .unset, .unset, .unset, .unset, .unset] [(.int (p0 &&& (3 : Int32)))])) τ → Steps pP.tables e below A0 τ := by
    intro τ κ
    refine pre0 τ ?_
    refine XS.iloadN X0.here hx rfl (hb hby at_0) rfl ?_
    refine XS.iconst X0.here hx rfl (hb hby at_1) ?_
    refine XS.iand X0.here hx rfl (hb hby at_2) rfl ?_
    exact κ
  obtain ⟨tl, htl⟩ : ∃ z, z = (p0 &&& (3 : Int32)) := ⟨_, rfl⟩
  have pq102 : ∀ τ, Steps pP.tables e below (s₁.setTop (mkF m 3 #[.val (.int p0), .val (.long q1), .second, .val (.long q2), .second, .val (.int p3), .unset, .unset, .unset, .unset, .unset, .unset, .unset, .unset, .unset, .unset, .unset] [(.int tl)])) τ → Steps pP.tables e below A0 τ := by intro τ κ; rw [htl] at κ; exact pq101 τ κ
  have pq103 : ∀ τ, Steps pP.tables e below (s₁.setTop (mkF m 10 #[.val (.int p0), .val (.long q1), .second, .val (.long q2), .second, .val (.int p3), .val (.int tl), .unset, .unset, .unset, .unset, .unset, .unset, .unset, .unset, .unset, .unset] [(.int (((p0.toUInt32 >>> ((2 : Int32) &&& 31).toUInt32).toInt32) &&& (3 : Int32)))])) τ → Steps pP.tables e below A0 τ := by
    intro τ κ
    refine pq102 τ ?_
    refine XS.istore X0.here hx rfl (hb hby at_3) rfl (l' := #[.val (.int p0), .val (.long q1), .second, .val (.long q2), .second, .val (.int p3), .val (.int tl), .unset, .unset, .unset, .unset, .unset, .unset, .unset, .unset, .unset, .unset]) rfl ?_
    refine XS.iloadN X0.here hx rfl (hb hby at_5) rfl ?_
    refine XS.iconst X0.here hx rfl (hb hby at_6) ?_
    refine XS.iushr X0.here hx rfl (hb hby at_7) rfl ?_
    refine XS.iconst X0.here hx rfl (hb hby at_8) ?_
    refine XS.iand X0.here hx rfl (hb hby at_9) rfl ?_
    exact κ
  obtain ⟨pl, hpl⟩ : ∃ z, z = (((p0.toUInt32 >>> ((2 : Int32) &&& 31).toUInt32).toInt32) &&& (3 : Int32)) := ⟨_, rfl⟩
  have pq104 : ∀ τ, Steps pP.tables e below (s₁.setTop (mkF m 10 #[.val (.int p0), .val (.long q1), .second, .val (.long q2), .second, .val (.int p3), .val (.int tl), .unset, .unset, .unset, .unset, .unset, .unset, .unset, .unset, .unset, .unset] [(.int pl)])) τ → Steps pP.tables e below A0 τ := by intro τ κ; rw [hpl] at κ; exact pq103 τ κ
  obtain ⟨_, _, ⟨T105, L105, k105, n105⟩, -, X105, ⟨Lc105, hQ105, l105, y105, z105⟩, st105⟩ := Jvm.LawKit.callS X0 hx (y := (⟨"com/example/sites_into_slices/sitesintoslices/identity/AsciiCaseStartsWithIgnoringCasePinLaw", "textChar", "(JII)C"⟩ : MethodName)) hown (mvT hZ (hw _ (List.mem_of_getElem? (i := 0) rfl))) (mvT hZ (hw _ (List.mem_of_getElem? (i := 1) rfl))) (mvT hZ (hw _ (List.mem_of_getElem? (i := 2) rfl))) (mvT hZ (hw _ (List.mem_of_getElem? (i := 3) rfl))) (by decide) (backOf (W := 0) (rm_tch l Z a0 hw [] q1 (0 : Int32) p3 h0 n0 Z0 ) hZ (hw _ (List.mem_of_getElem? (i := 3) rfl)) (hw _ (List.mem_of_getElem? (i := 2) rfl)) (by decide) (by decide)) (g := (mkF m 16 #[.val (.int p0), .val (.long q1), .second, .val (.long q2), .second, .val (.int p3), .val (.int tl), .val (.int pl), .unset, .unset, .unset, .unset, .unset, .unset, .unset, .unset, .unset] [(.int p3), (.int (0 : Int32)), (.long q1)])) rfl (by rw [hml]; rfl) (argsL := [(.long q1), (.int (0 : Int32)), (.int p3)]) (rest := []) (lenOf pdo_18 rfl) rfl (by show 2 * 0 + _ ≤ _; exact Nat.le_of_eq rfl) (hb hby at_16) (fun _ _ => ⟨rfl, e0, (by decide : 0 + 0 ≤ _), (by decide : 0 + 0 ≤ _)⟩)
  dsimp only [Pt.U, Pt.locs, Pt.cells, Pt.slots] at X105 l105 y105 z105 st105 hQ105
  subst l105 y105 z105
  obtain ⟨r105, rfl, hb105, Nq105, eq105⟩ := hQ105
  have N105 := Fr.app N0 Nq105
  have pq106 : ∀ τ, Steps pP.tables e below (T105.setTop (mkF m 19 #[.val (.int p0), .val (.long q1), .second, .val (.long q2), .second, .val (.int p3), .val (.int tl), .val (.int pl), .unset, .unset, .unset, .unset, .unset, .unset, .unset, .unset, .unset] [(.int r105)])) τ → Steps pP.tables e below A0 τ := by
    intro τ κ
    refine pq104 τ ?_
    refine XS.istore X0.here hx rfl (hb hby at_10) rfl (l' := #[.val (.int p0), .val (.long q1), .second, .val (.long q2), .second, .val (.int p3), .val (.int tl), .val (.int pl), .unset, .unset, .unset, .unset, .unset, .unset, .unset, .unset, .unset]) rfl ?_
    refine XS.lloadN X0.here hx rfl (hb hby at_12) rfl ?_
    refine XS.iconst X0.here hx rfl (hb hby at_13) ?_
    refine XS.iload X0.here hx rfl (hb hby at_14) rfl ?_
    refine st105 _ ?_
    exact κ
  obtain ⟨_, _, ⟨T107, L107, k107, n107⟩, -, X107, ⟨Lc107, hQ107, l107, y107, z107⟩, st107⟩ := Jvm.LawKit.callS X105 hx (y := (⟨"com/example/sites_into_slices/sitesintoslices/identity/AsciiCaseStartsWithIgnoringCasePinLaw", "textChar", "(JII)C"⟩ : MethodName)) hown (mvT hZ (hw _ (List.mem_of_getElem? (i := 0) rfl))) (mvT hZ (hw _ (List.mem_of_getElem? (i := 1) rfl))) (mvT hZ (hw _ (List.mem_of_getElem? (i := 2) rfl))) (mvT hZ (hw _ (List.mem_of_getElem? (i := 3) rfl))) (by decide) (backOf (W := 0) (rm_tch l Z a0 hw [] q1 (1 : Int32) p3 h0 n0 Z0 ) hZ (hw _ (List.mem_of_getElem? (i := 3) rfl)) (hw _ (List.mem_of_getElem? (i := 2) rfl)) (by decide) (by decide)) (g := (mkF m 25 #[.val (.int p0), .val (.long q1), .second, .val (.long q2), .second, .val (.int p3), .val (.int tl), .val (.int pl), .val (.int r105), .unset, .unset, .unset, .unset, .unset, .unset, .unset, .unset] [(.int p3), (.int (1 : Int32)), (.long q1)])) rfl (by rw [hml]; rfl) (argsL := [(.long q1), (.int (1 : Int32)), (.int p3)]) (rest := []) (lenOf pdo_18 rfl) rfl (by show 2 * 0 + _ ≤ _; exact Nat.le_of_eq rfl) (hb hby at_25) (fun _ _ => ⟨rfl, eq105, (by decide : 0 + 0 ≤ _), (by decide : 0 + 0 ≤ _)⟩)
  dsimp only [Pt.U, Pt.locs, Pt.cells, Pt.slots] at X107 l107 y107 z107 st107 hQ107
  subst l107 y107 z107
  obtain ⟨r107, rfl, hb107, Nq107, eq107⟩ := hQ107
  have N107 := Fr.app N105 Nq107
  have pq108 : ∀ τ, Steps pP.tables e below (T107.setTop (mkF m 28 #[.val (.int p0), .val (.long q1), .second, .val (.long q2), .second, .val (.int p3), .val (.int tl), .val (.int pl), .val (.int r105), .unset, .unset, .unset, .unset, .unset, .unset, .unset, .unset] [(.int r107)])) τ → Steps pP.tables e below A0 τ := by
    intro τ κ
    refine pq106 τ ?_
    refine XS.istore X105.here hx rfl (hb hby at_19) rfl (l' := #[.val (.int p0), .val (.long q1), .second, .val (.long q2), .second, .val (.int p3), .val (.int tl), .val (.int pl), .val (.int r105), .unset, .unset, .unset, .unset, .unset, .unset, .unset, .unset]) rfl ?_
    refine XS.lloadN X105.here hx rfl (hb hby at_21) rfl ?_
    refine XS.iconst X105.here hx rfl (hb hby at_22) ?_
    refine XS.iload X105.here hx rfl (hb hby at_23) rfl ?_
    refine st107 _ ?_
    exact κ
  obtain ⟨_, _, ⟨T109, L109, k109, n109⟩, -, X109, ⟨Lc109, hQ109, l109, y109, z109⟩, st109⟩ := Jvm.LawKit.callS X107 hx (y := (⟨"com/example/sites_into_slices/sitesintoslices/identity/AsciiCaseStartsWithIgnoringCasePinLaw", "textChar", "(JII)C"⟩ : MethodName)) hown (mvT hZ (hw _ (List.mem_of_getElem? (i := 0) rfl))) (mvT hZ (hw _ (List.mem_of_getElem? (i := 1) rfl))) (mvT hZ (hw _ (List.mem_of_getElem? (i := 2) rfl))) (mvT hZ (hw _ (List.mem_of_getElem? (i := 3) rfl))) (by decide) (backOf (W := 0) (rm_tch l Z a0 hw [] q1 (2 : Int32) p3 h0 n0 Z0 ) hZ (hw _ (List.mem_of_getElem? (i := 3) rfl)) (hw _ (List.mem_of_getElem? (i := 2) rfl)) (by decide) (by decide)) (g := (mkF m 34 #[.val (.int p0), .val (.long q1), .second, .val (.long q2), .second, .val (.int p3), .val (.int tl), .val (.int pl), .val (.int r105), .val (.int r107), .unset, .unset, .unset, .unset, .unset, .unset, .unset] [(.int p3), (.int (2 : Int32)), (.long q1)])) rfl (by rw [hml]; rfl) (argsL := [(.long q1), (.int (2 : Int32)), (.int p3)]) (rest := []) (lenOf pdo_18 rfl) rfl (by show 2 * 0 + _ ≤ _; exact Nat.le_of_eq rfl) (hb hby at_34) (fun _ _ => ⟨rfl, eq107, (by decide : 0 + 0 ≤ _), (by decide : 0 + 0 ≤ _)⟩)
  dsimp only [Pt.U, Pt.locs, Pt.cells, Pt.slots] at X109 l109 y109 z109 st109 hQ109
  subst l109 y109 z109
  obtain ⟨r109, rfl, hb109, Nq109, eq109⟩ := hQ109
  have N109 := Fr.app N107 Nq109
  have pq110 : ∀ τ, Steps pP.tables e below (T109.setTop (mkF m 37 #[.val (.int p0), .val (.long q1), .second, .val (.long q2), .second, .val (.int p3), .val (.int tl), .val (.int pl), .val (.int r105), .val (.int r107), .unset, .unset, .unset, .unset, .unset, .unset, .unset] [(.int r109)])) τ → Steps pP.tables e below A0 τ := by
    intro τ κ
    refine pq108 τ ?_
    refine XS.istore X107.here hx rfl (hb hby at_28) rfl (l' := #[.val (.int p0), .val (.long q1), .second, .val (.long q2), .second, .val (.int p3), .val (.int tl), .val (.int pl), .val (.int r105), .val (.int r107), .unset, .unset, .unset, .unset, .unset, .unset, .unset]) rfl ?_
    refine XS.lloadN X107.here hx rfl (hb hby at_30) rfl ?_
    refine XS.iconst X107.here hx rfl (hb hby at_31) ?_
    refine XS.iload X107.here hx rfl (hb hby at_32) rfl ?_
    refine st109 _ ?_
    exact κ
  obtain ⟨_, _, ⟨T111, L111, k111, n111⟩, -, X111, ⟨Lc111, hQ111, l111, y111, z111⟩, st111⟩ := Jvm.LawKit.callS X109 hx (y := (⟨"com/example/sites_into_slices/sitesintoslices/identity/AsciiCaseStartsWithIgnoringCasePinLaw", "prefixChar", "(CJII)C"⟩ : MethodName)) hown (mvT hZ (hw _ (List.mem_of_getElem? (i := 4) rfl))) (mvT hZ (hw _ (List.mem_of_getElem? (i := 5) rfl))) (mvT hZ (hw _ (List.mem_of_getElem? (i := 2) rfl))) (mvT hZ (hw _ (List.mem_of_getElem? (i := 6) rfl))) (by decide) (backOf (W := 0) (rm_pch l Z a0 hw [] r105 q2 (0 : Int32) p3 h0 n0 Z0 ) hZ (hw _ (List.mem_of_getElem? (i := 6) rfl)) (hw _ (List.mem_of_getElem? (i := 2) rfl)) (by decide) (by decide)) (g := (mkF m 45 #[.val (.int p0), .val (.long q1), .second, .val (.long q2), .second, .val (.int p3), .val (.int tl), .val (.int pl), .val (.int r105), .val (.int r107), .val (.int r109), .unset, .unset, .unset, .unset, .unset, .unset] [(.int p3), (.int (0 : Int32)), (.long q2), (.int r105)])) rfl (by rw [hml]; rfl) (argsL := [(.int r105), (.long q2), (.int (0 : Int32)), (.int p3)]) (rest := []) (lenOf pdo_19 rfl) rfl (by show 2 * 0 + _ ≤ _; exact Nat.le_of_eq rfl) (hb hby at_45) (fun _ _ => ⟨rfl, eq109, (by decide : 0 + 0 ≤ _), (by decide : 0 + 0 ≤ _)⟩)
  dsimp only [Pt.U, Pt.locs, Pt.cells, Pt.slots] at X111 l111 y111 z111 st111 hQ111
  subst l111 y111 z111
  obtain ⟨r111, rfl, hb111, Nq111, eq111⟩ := hQ111
  have N111 := Fr.app N109 Nq111
  have pq112 : ∀ τ, Steps pP.tables e below (T111.setTop (mkF m 48 #[.val (.int p0), .val (.long q1), .second, .val (.long q2), .second, .val (.int p3), .val (.int tl), .val (.int pl), .val (.int r105), .val (.int r107), .val (.int r109), .unset, .unset, .unset, .unset, .unset, .unset] [(.int r111)])) τ → Steps pP.tables e below A0 τ := by
    intro τ κ
    refine pq110 τ ?_
    refine XS.istore X109.here hx rfl (hb hby at_37) rfl (l' := #[.val (.int p0), .val (.long q1), .second, .val (.long q2), .second, .val (.int p3), .val (.int tl), .val (.int pl), .val (.int r105), .val (.int r107), .val (.int r109), .unset, .unset, .unset, .unset, .unset, .unset]) rfl ?_
    refine XS.iload X109.here hx rfl (hb hby at_39) rfl ?_
    refine XS.lloadN X109.here hx rfl (hb hby at_41) rfl ?_
    refine XS.iconst X109.here hx rfl (hb hby at_42) ?_
    refine XS.iload X109.here hx rfl (hb hby at_43) rfl ?_
    refine st111 _ ?_
    exact κ
  obtain ⟨_, _, ⟨T113, L113, k113, n113⟩, -, X113, ⟨Lc113, hQ113, l113, y113, z113⟩, st113⟩ := Jvm.LawKit.callS X111 hx (y := (⟨"com/example/sites_into_slices/sitesintoslices/identity/AsciiCaseStartsWithIgnoringCasePinLaw", "prefixChar", "(CJII)C"⟩ : MethodName)) hown (mvT hZ (hw _ (List.mem_of_getElem? (i := 4) rfl))) (mvT hZ (hw _ (List.mem_of_getElem? (i := 5) rfl))) (mvT hZ (hw _ (List.mem_of_getElem? (i := 2) rfl))) (mvT hZ (hw _ (List.mem_of_getElem? (i := 6) rfl))) (by decide) (backOf (W := 0) (rm_pch l Z a0 hw [] r107 q2 (1 : Int32) p3 h0 n0 Z0 ) hZ (hw _ (List.mem_of_getElem? (i := 6) rfl)) (hw _ (List.mem_of_getElem? (i := 2) rfl)) (by decide) (by decide)) (g := (mkF m 56 #[.val (.int p0), .val (.long q1), .second, .val (.long q2), .second, .val (.int p3), .val (.int tl), .val (.int pl), .val (.int r105), .val (.int r107), .val (.int r109), .val (.int r111), .unset, .unset, .unset, .unset, .unset] [(.int p3), (.int (1 : Int32)), (.long q2), (.int r107)])) rfl (by rw [hml]; rfl) (argsL := [(.int r107), (.long q2), (.int (1 : Int32)), (.int p3)]) (rest := []) (lenOf pdo_19 rfl) rfl (by show 2 * 0 + _ ≤ _; exact Nat.le_of_eq rfl) (hb hby at_56) (fun _ _ => ⟨rfl, eq111, (by decide : 0 + 0 ≤ _), (by decide : 0 + 0 ≤ _)⟩)
  dsimp only [Pt.U, Pt.locs, Pt.cells, Pt.slots] at X113 l113 y113 z113 st113 hQ113
  subst l113 y113 z113
  obtain ⟨r113, rfl, hb113, Nq113, eq113⟩ := hQ113
  have N113 := Fr.app N111 Nq113
  have pq114 : ∀ τ, Steps pP.tables e below (T113.setTop (mkF m 59 #[.val (.int p0), .val (.long q1), .second, .val (.long q2), .second, .val (.int p3), .val (.int tl), .val (.int pl), .val (.int r105), .val (.int r107), .val (.int r109), .val (.int r111), .unset, .unset, .unset, .unset, .unset] [(.int r113)])) τ → Steps pP.tables e below A0 τ := by
    intro τ κ
    refine pq112 τ ?_
    refine XS.istore X111.here hx rfl (hb hby at_48) rfl (l' := #[.val (.int p0), .val (.long q1), .second, .val (.long q2), .second, .val (.int p3), .val (.int tl), .val (.int pl), .val (.int r105), .val (.int r107), .val (.int r109), .val (.int r111), .unset, .unset, .unset, .unset, .unset]) rfl ?_
    refine XS.iload X111.here hx rfl (hb hby at_50) rfl ?_
    refine XS.lloadN X111.here hx rfl (hb hby at_52) rfl ?_
    refine XS.iconst X111.here hx rfl (hb hby at_53) ?_
    refine XS.iload X111.here hx rfl (hb hby at_54) rfl ?_
    refine st113 _ ?_
    exact κ
  obtain ⟨_, _, ⟨T115, L115, k115, n115⟩, -, X115, ⟨Lc115, hQ115, l115, y115, z115⟩, st115⟩ := Jvm.LawKit.callS X113 hx (y := (⟨"com/example/sites_into_slices/sitesintoslices/identity/AsciiCaseStartsWithIgnoringCasePinLaw", "prefixChar", "(CJII)C"⟩ : MethodName)) hown (mvT hZ (hw _ (List.mem_of_getElem? (i := 4) rfl))) (mvT hZ (hw _ (List.mem_of_getElem? (i := 5) rfl))) (mvT hZ (hw _ (List.mem_of_getElem? (i := 2) rfl))) (mvT hZ (hw _ (List.mem_of_getElem? (i := 6) rfl))) (by decide) (backOf (W := 0) (rm_pch l Z a0 hw [] r109 q2 (2 : Int32) p3 h0 n0 Z0 ) hZ (hw _ (List.mem_of_getElem? (i := 6) rfl)) (hw _ (List.mem_of_getElem? (i := 2) rfl)) (by decide) (by decide)) (g := (mkF m 67 #[.val (.int p0), .val (.long q1), .second, .val (.long q2), .second, .val (.int p3), .val (.int tl), .val (.int pl), .val (.int r105), .val (.int r107), .val (.int r109), .val (.int r111), .val (.int r113), .unset, .unset, .unset, .unset] [(.int p3), (.int (2 : Int32)), (.long q2), (.int r109)])) rfl (by rw [hml]; rfl) (argsL := [(.int r109), (.long q2), (.int (2 : Int32)), (.int p3)]) (rest := []) (lenOf pdo_19 rfl) rfl (by show 2 * 0 + _ ≤ _; exact Nat.le_of_eq rfl) (hb hby at_67) (fun _ _ => ⟨rfl, eq113, (by decide : 0 + 0 ≤ _), (by decide : 0 + 0 ≤ _)⟩)
  dsimp only [Pt.U, Pt.locs, Pt.cells, Pt.slots] at X115 l115 y115 z115 st115 hQ115
  subst l115 y115 z115
  obtain ⟨r115, rfl, hb115, Nq115, eq115⟩ := hQ115
  have N115 := Fr.app N113 Nq115
  have pq116 : ∀ τ, Steps pP.tables e below (T115.setTop (mkF m 70 #[.val (.int p0), .val (.long q1), .second, .val (.long q2), .second, .val (.int p3), .val (.int tl), .val (.int pl), .val (.int r105), .val (.int r107), .val (.int r109), .val (.int r111), .val (.int r113), .unset, .unset, .unset, .unset] [(.int r115)])) τ → Steps pP.tables e below A0 τ := by
    intro τ κ
    refine pq114 τ ?_
    refine XS.istore X113.here hx rfl (hb hby at_59) rfl (l' := #[.val (.int p0), .val (.long q1), .second, .val (.long q2), .second, .val (.int p3), .val (.int tl), .val (.int pl), .val (.int r105), .val (.int r107), .val (.int r109), .val (.int r111), .val (.int r113), .unset, .unset, .unset, .unset]) rfl ?_
    refine XS.iload X113.here hx rfl (hb hby at_61) rfl ?_
    refine XS.lloadN X113.here hx rfl (hb hby at_63) rfl ?_
    refine XS.iconst X113.here hx rfl (hb hby at_64) ?_
    refine XS.iload X113.here hx rfl (hb hby at_65) rfl ?_
    refine st115 _ ?_
    exact κ
  obtain ⟨_, _, ⟨T117, L117, k117, n117⟩, -, X117, S117, G117, ⟨Lc117, hQ117, l117, y117, z117, C117⟩, st117⟩ := callSS X115 hx (y := (⟨"com/example/sites_into_slices/sitesintoslices/identity/AsciiCaseStartsWithIgnoringCasePinLaw", "str", "(ICCC)Ljava/lang/String;"⟩ : MethodName)) hown (mvT hZ (hw _ (List.mem_of_getElem? (i := 7) rfl))) (mvT hZ (hw _ (List.mem_of_getElem? (i := 8) rfl))) (mvT hZ (hw _ (List.mem_of_getElem? (i := 2) rfl))) (mvT hZ (hw _ (List.mem_of_getElem? (i := 9) rfl))) (by decide) (backOfSH (s := s) (vm0 := s.vm) (EL := consts_1) (W := 0) (rm_str l Z a0 hw hEW [] tl r105 r107 r109 G1 h0 n0 Z0 O2 P5 X00 OA OH OL hb105 hb107 hb109) hZ (hw _ (List.mem_of_getElem? (i := 9) rfl)) (hw _ (List.mem_of_getElem? (i := 2) rfl)) (by decide) (by decide) hEW CH0) (g := (mkF m 80 #[.val (.int p0), .val (.long q1), .second, .val (.long q2), .second, .val (.int p3), .val (.int tl), .val (.int pl), .val (.int r105), .val (.int r107), .val (.int r109), .val (.int r111), .val (.int r113), .val (.int r115), .unset, .unset, .unset] [(.int r109), (.int r107), (.int r105), (.int tl)])) rfl (by rw [hml]; rfl) (argsL := [(.int tl), (.int r105), (.int r107), (.int r109)]) (rest := []) (lenOf pdo_20 rfl) rfl (by show 2 * 0 + _ ≤ _; exact Nat.le_of_eq rfl) (hb hby at_80) (fun _ _ => ⟨rfl, eq115, (by decide : 0 + 4 ≤ _), (by decide : 0 + 16 ≤ _)⟩)
  dsimp only [Pt.U, Pt.locs, Pt.cells, Pt.slots] at X117 l117 y117 z117 st117 hQ117 S117 G117 C117
  subst l117 y117 z117
  have G117a : h0.size ≤ T117.heap.size := by first | exact G117 | (rw [← eq115]; exact G117)
  obtain ⟨X117, SI117, Z117, O117⟩ := rebS SI0 SK0 X117 S117 G117a hZ hown
  have SK117 : T117.heap.size ≤ T117.heap.size := Nat.le_refl _
  obtain ⟨a117, rfl, Nq117, K117, U117⟩ := hQ117
  have N117 := Fr.app N115 Nq117
  have pq118 : ∀ τ, Steps pP.tables e below (T117.setTop (mkF m 83 #[.val (.int p0), .val (.long q1), .second, .val (.long q2), .second, .val (.int p3), .val (.int tl), .val (.int pl), .val (.int r105), .val (.int r107), .val (.int r109), .val (.int r111), .val (.int r113), .val (.int r115), .unset, .unset, .unset] [(.ref a117)])) τ → Steps pP.tables e below A0 τ := by
    intro τ κ
    refine pq116 τ ?_
    refine XS.istore X115.here hx rfl (hb hby at_70) rfl (l' := #[.val (.int p0), .val (.long q1), .second, .val (.long q2), .second, .val (.int p3), .val (.int tl), .val (.int pl), .val (.int r105), .val (.int r107), .val (.int r109), .val (.int r111), .val (.int r113), .val (.int r115), .unset, .unset, .unset]) rfl ?_
    refine XS.iload X115.here hx rfl (hb hby at_72) rfl ?_
    refine XS.iload X115.here hx rfl (hb hby at_74) rfl ?_
    refine XS.iload X115.here hx rfl (hb hby at_76) rfl ?_
    refine XS.iload X115.here hx rfl (hb hby at_78) rfl ?_
    refine st117.trans ?_
    exact κ
  have KC117 : Keep h0 T117.heap [] := KC0.trans K117 all0
  have CH117 := C117.1
  have CR117 := CHr.trans CR0 C117
  have f119 := (X00.keep K117 all0)
  have f120 := (Nat.le_trans Z0 K117.1)
  obtain ⟨_, _, ⟨T121, L121, k121, n121⟩, -, X121, S121, G121, ⟨Lc121, hQ121, l121, y121, z121, C121⟩, st121⟩ := callSS X117 hx (y := (⟨"com/example/sites_into_slices/sitesintoslices/identity/AsciiCaseStartsWithIgnoringCasePinLaw", "str", "(ICCC)Ljava/lang/String;"⟩ : MethodName)) O117 (mvT Z117 (hw _ (List.mem_of_getElem? (i := 7) rfl))) (mvT Z117 (hw _ (List.mem_of_getElem? (i := 8) rfl))) (mvT Z117 (hw _ (List.mem_of_getElem? (i := 2) rfl))) (mvT Z117 (hw _ (List.mem_of_getElem? (i := 9) rfl))) (by decide) (backOfSH (s := s) (vm0 := T117.vm) (EL := consts_1) (W := 0) (rm_str l Z a0 hw hEW [] pl r111 r113 r115 G1 T117.heap n0 f120 O2 P5 f119 OA OH OL hb111 hb113 hb115) Z117 (hw _ (List.mem_of_getElem? (i := 9) rfl)) (hw _ (List.mem_of_getElem? (i := 2) rfl)) (by decide) (by decide) hEW CH117) (g := (mkF m 93 #[.val (.int p0), .val (.long q1), .second, .val (.long q2), .second, .val (.int p3), .val (.int tl), .val (.int pl), .val (.int r105), .val (.int r107), .val (.int r109), .val (.int r111), .val (.int r113), .val (.int r115), .val (.ref a117), .unset, .unset] [(.int r115), (.int r113), (.int r111), (.int pl)])) rfl (by rw [hml]; rfl) (argsL := [(.int pl), (.int r111), (.int r113), (.int r115)]) (rest := []) (lenOf pdo_20 rfl) rfl (by show 2 * 0 + _ ≤ _; exact Nat.le_of_eq rfl) (hb hby at_93) (fun _ _ => ⟨rfl, rfl, (by decide : 4 + 4 ≤ _), (by decide : 16 + 16 ≤ _)⟩)
  dsimp only [Pt.U, Pt.locs, Pt.cells, Pt.slots] at X121 l121 y121 z121 st121 hQ121 S121 G121 C121
  subst l121 y121 z121
  have G121a : T117.heap.size ≤ T121.heap.size := by first | exact G121 | (rw [← rfl]; exact G121)
  obtain ⟨X121, SI121, Z121, O121⟩ := rebS SI117 SK117 X121 S121 G121a Z117 O117
  have SK121 : T121.heap.size ≤ T121.heap.size := Nat.le_refl _
  obtain ⟨a121, rfl, Nq121, K121, U121⟩ := hQ121
  have N121 := Fr.app N117 Nq121
  have pq122 : ∀ τ, Steps pP.tables e below (T121.setTop (mkF m 96 #[.val (.int p0), .val (.long q1), .second, .val (.long q2), .second, .val (.int p3), .val (.int tl), .val (.int pl), .val (.int r105), .val (.int r107), .val (.int r109), .val (.int r111), .val (.int r113), .val (.int r115), .val (.ref a117), .unset, .unset] [(.ref a121)])) τ → Steps pP.tables e below A0 τ := by
    intro τ κ
    refine pq118 τ ?_
    refine XS.astore X117.here hx rfl (hb hby at_83) rfl rfl (l' := #[.val (.int p0), .val (.long q1), .second, .val (.long q2), .second, .val (.int p3), .val (.int tl), .val (.int pl), .val (.int r105), .val (.int r107), .val (.int r109), .val (.int r111), .val (.int r113), .val (.int r115), .val (.ref a117), .unset, .unset]) rfl ?_
    refine XS.iload X117.here hx rfl (hb hby at_85) rfl ?_
    refine XS.iload X117.here hx rfl (hb hby at_87) rfl ?_
    refine XS.iload X117.here hx rfl (hb hby at_89) rfl ?_
    refine XS.iload X117.here hx rfl (hb hby at_91) rfl ?_
    refine st121.trans ?_
    exact κ
  have KC121 : Keep h0 T121.heap [] := KC117.trans K121 all0
  have CH121 := C121.1
  have CR121 := CHr.trans CR117 C121
  have d1 : tl = 0 ∨ tl = 1 ∨ tl = 2 ∨ tl = 3 := by rw [htl]; exact own_m4 _
  have d2 : pl = 0 ∨ pl = 1 ∨ pl = 2 ∨ pl = 3 := by rw [hpl]; exact own_m4 _
  have pq123 : ∀ τ, Steps pP.tables e below (T121.setTop (mkF m 102 #[.val (.int p0), .val (.long q1), .second, .val (.long q2), .second, .val (.int p3), .val (.int tl), .val (.int pl), .val (.int r105), .val (.int r107), .val (.int r109), .val (.int r111), .val (.int r113), .val (.int r115), .val (.ref a117), .val (.ref a121), .unset] [(.int pl), (.int tl)])) τ → Steps pP.tables e below A0 τ := by
    intro τ κ
    refine pq122 τ ?_
    refine XS.astore X121.here hx rfl (hb hby at_96) rfl rfl (l' := #[.val (.int p0), .val (.long q1), .second, .val (.long q2), .second, .val (.int p3), .val (.int tl), .val (.int pl), .val (.int r105), .val (.int r107), .val (.int r109), .val (.int r111), .val (.int r113), .val (.int r115), .val (.ref a117), .val (.ref a121), .unset]) rfl ?_
    refine XS.iload X121.here hx rfl (hb hby at_98) rfl ?_
    refine XS.iload X121.here hx rfl (hb hby at_100) rfl ?_
    exact κ
  by_cases hc102_124 : tl < pl
  · skip
    have f125 := (f119.keep K121 all0)
    have f126 := (U117.keep K121)
    have f127 := (Nat.le_trans f120 K121.1)
    obtain ⟨_, _, ⟨T128, L128, k128, n128⟩, -, X128, ⟨Lc128, hQ128, l128, y128, z128⟩, st128⟩ := Jvm.LawKit.callS X121 hx (y := (⟨"com/example/sites_into_slices/sitesintoslices/identity/AsciiCase", "startsWithIgnoringCase", "(Ljava/lang/String;Ljava/lang/String;)Z"⟩ : MethodName)) O121 (mvT Z121 (hw _ (List.mem_of_getElem? (i := 32) rfl))) (mvT Z121 (hw _ (List.mem_of_getElem? (i := 33) rfl))) (mvT Z121 (hw _ (List.mem_of_getElem? (i := 34) rfl))) (mvT Z121 (hw _ (List.mem_of_getElem? (i := 35) rfl))) (by decide) (backOf (W := 0) (rm_sw l Z a0 hw [] a117 a121 (own_cs3 tl r105 r107 r109) (own_cs3 pl r111 r113 r115) G1 G3 T121.heap n0 f127 O2 P5 f125 O4 rG3 OA OH OL (own_cs3_len _ _ _ _) (own_cs3_len _ _ _ _) f126 U121) Z121 (hw _ (List.mem_of_getElem? (i := 35) rfl)) (hw _ (List.mem_of_getElem? (i := 34) rfl)) (by decide) (by decide)) (g := (mkF m 164 #[.val (.int p0), .val (.long q1), .second, .val (.long q2), .second, .val (.int p3), .val (.int tl), .val (.int pl), .val (.int r105), .val (.int r107), .val (.int r109), .val (.int r111), .val (.int r113), .val (.int r115), .val (.ref a117), .val (.ref a121), .val (.int (0 : Int32))] [(.ref a121), (.ref a117)])) rfl (by rw [hml]; rfl) (argsL := [(.ref a117), (.ref a121)]) (rest := []) (lenOf pdo_21 rfl) rfl (by show 2 * 0 + _ ≤ _; exact Nat.le_of_eq rfl) (hb hby at_164) (fun _ _ => ⟨rfl, rfl, (by decide : 8 + 0 ≤ _), (by decide : 32 + 0 ≤ _)⟩)
    dsimp only [Pt.U, Pt.locs, Pt.cells, Pt.slots] at X128 l128 y128 z128 st128 hQ128
    subst l128 y128 z128
    obtain ⟨rfl, Nq128, eq128⟩ := hQ128
    have N128 := Fr.app N121 Nq128
    have pq129 : ∀ τ, Steps pP.tables e below (T128.setTop (mkF m 167 #[.val (.int p0), .val (.long q1), .second, .val (.long q2), .second, .val (.int p3), .val (.int tl), .val (.int pl), .val (.int r105), .val (.int r107), .val (.int r109), .val (.int r111), .val (.int r113), .val (.int r115), .val (.ref a117), .val (.ref a121), .val (.int (0 : Int32))] [(.int (own_sw (own_cs3 tl r105 r107 r109) (own_cs3 pl r111 r113 r115)))])) τ → Steps pP.tables e below A0 τ := by
      intro τ κ
      refine pq123 τ ?_
      refine XS.icmpYes X121.here hx rfl (pc0 := 102) (pc' := 157) rfl (hb hby at_102) rfl (tlt hc102_124).1 (by decide) (by decide) ?_
      refine XS.iconst X121.here hx rfl (hb hby at_157) ?_
      refine XS.istore X121.here hx rfl (hb hby at_158) rfl (l' := #[.val (.int p0), .val (.long q1), .second, .val (.long q2), .second, .val (.int p3), .val (.int tl), .val (.int pl), .val (.int r105), .val (.int r107), .val (.int r109), .val (.int r111), .val (.int r113), .val (.int r115), .val (.ref a117), .val (.ref a121), .val (.int (0 : Int32))]) rfl ?_
      refine XS.aload X121.here hx rfl (hb hby at_160) rfl rfl ?_
      refine XS.aload X121.here hx rfl (hb hby at_162) rfl rfl ?_
      refine st128 _ ?_
      exact κ
    have SKe := Nat.le_trans SK121 (Nat.le_of_eq (congrArg (fun z : Heap => Array.size z) (Eq.symm eq128)))
    obtain ⟨fs, hr, hrun, hended, hEnd⟩ := X128.leaveW SI121 SKe (v := some (.int (1 : Int32))) (fun h => by rw [Bd.returns] at h; cases h)
    have CHe := CHr.trans CR121 (CHv.at X128 Z121 hEW CH121)
    have pqE := pq129
    rw [hA0] at pqE
    refine ⟨_, _, pqE _ ?_, hrun, hended, _, _, rfl, ?_, ?_, hEnd.1, hEnd.2.1, hEnd.2.2.1, hEnd.2.2.2.mono (by decide) (by decide)⟩
    · refine XS.iload X128.here hx rfl (hb hby at_167) rfl ?_
      refine XS.icmpNo X128.here hx rfl (hb hby at_169) rfl (teq (by rw [own_fin _ _ _ _ _ _ d1 d2]; simp only [hc102_124, if_true, if_false])).2 ?_
      refine XS.iconst X128.here hx rfl (hb hby at_172) ?_
      refine XS.goto X128.here hx rfl (pc0 := 173) (pc' := 177) rfl (hb hby at_173) (by decide) (by decide) ?_
      show Steps pP.tables e below (T128.setTop (mkF m 177 #[.val (.int p0), .val (.long q1), .second, .val (.long q2), .second, .val (.int p3), .val (.int tl), .val (.int pl), .val (.int r105), .val (.int r107), .val (.int r109), .val (.int r111), .val (.int r113), .val (.int r115), .val (.ref a117), .val (.ref a121), .val (.int (0 : Int32))] [(.int (1 : Int32))])) _
      exact retN X128 hx (t := .boolean) Bd.returns (by simp) (hb hby at_177) hr
    · show Q_law n0 _ T128.heap _
      rw [eq128]
      exact ⟨rfl, N128⟩
    · show CHr Z consts_1 s.vm s.heap T128.vm T128.heap
      first | (rw [hh, eq128]; exact CHe) | (rw [hh]; exact CHe)
  · skip
    have pq130 : ∀ τ, Steps pP.tables e below (T121.setTop (mkF m 108 #[.val (.int p0), .val (.long q1), .second, .val (.long q2), .second, .val (.int p3), .val (.int tl), .val (.int pl), .val (.int r105), .val (.int r107), .val (.int r109), .val (.int r111), .val (.int r113), .val (.int r115), .val (.ref a117), .val (.ref a121), .unset] [(.int (1 : Int32)), (.int pl)])) τ → Steps pP.tables e below A0 τ := by
      intro τ κ
      refine pq123 τ ?_
      refine XS.icmpNo X121.here hx rfl (hb hby at_102) rfl (flt hc102_124).1 ?_
      refine XS.iload X121.here hx rfl (hb hby at_105) rfl ?_
      refine XS.iconst X121.here hx rfl (hb hby at_107) ?_
      exact κ
    by_cases hc108_131 : pl < (1 : Int32)
    · skip
      have f132 := (f119.keep K121 all0)
      have f133 := (U117.keep K121)
      have f134 := (Nat.le_trans f120 K121.1)
      obtain ⟨_, _, ⟨T135, L135, k135, n135⟩, -, X135, ⟨Lc135, hQ135, l135, y135, z135⟩, st135⟩ := Jvm.LawKit.callS X121 hx (y := (⟨"com/example/sites_into_slices/sitesintoslices/identity/AsciiCase", "startsWithIgnoringCase", "(Ljava/lang/String;Ljava/lang/String;)Z"⟩ : MethodName)) O121 (mvT Z121 (hw _ (List.mem_of_getElem? (i := 32) rfl))) (mvT Z121 (hw _ (List.mem_of_getElem? (i := 33) rfl))) (mvT Z121 (hw _ (List.mem_of_getElem? (i := 34) rfl))) (mvT Z121 (hw _ (List.mem_of_getElem? (i := 35) rfl))) (by decide) (backOf (W := 0) (rm_sw l Z a0 hw [] a117 a121 (own_cs3 tl r105 r107 r109) (own_cs3 pl r111 r113 r115) G1 G3 T121.heap n0 f134 O2 P5 f132 O4 rG3 OA OH OL (own_cs3_len _ _ _ _) (own_cs3_len _ _ _ _) f133 U121) Z121 (hw _ (List.mem_of_getElem? (i := 35) rfl)) (hw _ (List.mem_of_getElem? (i := 34) rfl)) (by decide) (by decide)) (g := (mkF m 164 #[.val (.int p0), .val (.long q1), .second, .val (.long q2), .second, .val (.int p3), .val (.int tl), .val (.int pl), .val (.int r105), .val (.int r107), .val (.int r109), .val (.int r111), .val (.int r113), .val (.int r115), .val (.ref a117), .val (.ref a121), .val (.int (1 : Int32))] [(.ref a121), (.ref a117)])) rfl (by rw [hml]; rfl) (argsL := [(.ref a117), (.ref a121)]) (rest := []) (lenOf pdo_21 rfl) rfl (by show 2 * 0 + _ ≤ _; exact Nat.le_of_eq rfl) (hb hby at_164) (fun _ _ => ⟨rfl, rfl, (by decide : 8 + 0 ≤ _), (by decide : 32 + 0 ≤ _)⟩)
      dsimp only [Pt.U, Pt.locs, Pt.cells, Pt.slots] at X135 l135 y135 z135 st135 hQ135
      subst l135 y135 z135
      obtain ⟨rfl, Nq135, eq135⟩ := hQ135
      have N135 := Fr.app N121 Nq135
      have pq136 : ∀ τ, Steps pP.tables e below (T135.setTop (mkF m 167 #[.val (.int p0), .val (.long q1), .second, .val (.long q2), .second, .val (.int p3), .val (.int tl), .val (.int pl), .val (.int r105), .val (.int r107), .val (.int r109), .val (.int r111), .val (.int r113), .val (.int r115), .val (.ref a117), .val (.ref a121), .val (.int (1 : Int32))] [(.int (own_sw (own_cs3 tl r105 r107 r109) (own_cs3 pl r111 r113 r115)))])) τ → Steps pP.tables e below A0 τ := by
        intro τ κ
        refine pq130 τ ?_
        refine XS.icmpYes X121.here hx rfl (pc0 := 108) (pc' := 121) rfl (hb hby at_108) rfl (tlt hc108_131).1 (by decide) (by decide) ?_
        refine XS.iload X121.here hx rfl (hb hby at_121) rfl ?_
        refine XS.iconst X121.here hx rfl (hb hby at_123) ?_
        refine XS.icmpYes X121.here hx rfl (pc0 := 124) (pc' := 137) rfl (hb hby at_124) rfl (tlt (own_l12 hc108_131)).1 (by decide) (by decide) ?_
        refine XS.iload X121.here hx rfl (hb hby at_137) rfl ?_
        refine XS.iconst X121.here hx rfl (hb hby at_139) ?_
        refine XS.icmpYes X121.here hx rfl (pc0 := 140) (pc' := 153) rfl (hb hby at_140) rfl (tlt (own_l23 (own_l12 hc108_131))).1 (by decide) (by decide) ?_
        refine XS.iconst X121.here hx rfl (hb hby at_153) ?_
        refine XS.goto X121.here hx rfl (pc0 := 154) (pc' := 158) rfl (hb hby at_154) (by decide) (by decide) ?_
        refine XS.istore X121.here hx rfl (hb hby at_158) rfl (l' := #[.val (.int p0), .val (.long q1), .second, .val (.long q2), .second, .val (.int p3), .val (.int tl), .val (.int pl), .val (.int r105), .val (.int r107), .val (.int r109), .val (.int r111), .val (.int r113), .val (.int r115), .val (.ref a117), .val (.ref a121), .val (.int (1 : Int32))]) rfl ?_
        refine XS.aload X121.here hx rfl (hb hby at_160) rfl rfl ?_
        refine XS.aload X121.here hx rfl (hb hby at_162) rfl rfl ?_
        refine st135 _ ?_
        exact κ
      have SKe := Nat.le_trans SK121 (Nat.le_of_eq (congrArg (fun z : Heap => Array.size z) (Eq.symm eq135)))
      obtain ⟨fs, hr, hrun, hended, hEnd⟩ := X135.leaveW SI121 SKe (v := some (.int (1 : Int32))) (fun h => by rw [Bd.returns] at h; cases h)
      have CHe := CHr.trans CR121 (CHv.at X135 Z121 hEW CH121)
      have pqE := pq136
      rw [hA0] at pqE
      refine ⟨_, _, pqE _ ?_, hrun, hended, _, _, rfl, ?_, ?_, hEnd.1, hEnd.2.1, hEnd.2.2.1, hEnd.2.2.2.mono (by decide) (by decide)⟩
      · refine XS.iload X135.here hx rfl (hb hby at_167) rfl ?_
        refine XS.icmpNo X135.here hx rfl (hb hby at_169) rfl (teq (by rw [own_fin _ _ _ _ _ _ d1 d2]; simp only [hc102_124, hc108_131, (own_l12 hc108_131), (own_l23 (own_l12 hc108_131)), if_true, if_false])).2 ?_
        refine XS.iconst X135.here hx rfl (hb hby at_172) ?_
        refine XS.goto X135.here hx rfl (pc0 := 173) (pc' := 177) rfl (hb hby at_173) (by decide) (by decide) ?_
        show Steps pP.tables e below (T135.setTop (mkF m 177 #[.val (.int p0), .val (.long q1), .second, .val (.long q2), .second, .val (.int p3), .val (.int tl), .val (.int pl), .val (.int r105), .val (.int r107), .val (.int r109), .val (.int r111), .val (.int r113), .val (.int r115), .val (.ref a117), .val (.ref a121), .val (.int (1 : Int32))] [(.int (1 : Int32))])) _
        exact retN X135 hx (t := .boolean) Bd.returns (by simp) (hb hby at_177) hr
      · show Q_law n0 _ T135.heap _
        rw [eq135]
        exact ⟨rfl, N135⟩
      · show CHr Z consts_1 s.vm s.heap T135.vm T135.heap
        first | (rw [hh, eq135]; exact CHe) | (rw [hh]; exact CHe)
    · skip
      have f137 := (Nat.le_trans f120 K121.1)
      obtain ⟨_, _, ⟨T138, L138, k138, n138⟩, -, X138, ⟨Lc138, hQ138, l138, y138, z138⟩, st138⟩ := Jvm.LawKit.callS X121 hx (y := (⟨"com/example/sites_into_slices/sitesintoslices/identity/AsciiCaseStartsWithIgnoringCasePinLaw", "same", "(CC)Z"⟩ : MethodName)) O121 (mvT Z121 (hw _ (List.mem_of_getElem? (i := 76) rfl))) (mvT Z121 (hw _ (List.mem_of_getElem? (i := 77) rfl))) (mvT Z121 (hw _ (List.mem_of_getElem? (i := 2) rfl))) (mvT Z121 (hw _ (List.mem_of_getElem? (i := 78) rfl))) (by decide) (backOf (W := 0) (rm_same l Z a0 hw [] r105 r111 T121.heap n0 f137 hb105 hb111) Z121 (hw _ (List.mem_of_getElem? (i := 78) rfl)) (hw _ (List.mem_of_getElem? (i := 2) rfl)) (by decide) (by decide)) (g := (mkF m 115 #[.val (.int p0), .val (.long q1), .second, .val (.long q2), .second, .val (.int p3), .val (.int tl), .val (.int pl), .val (.int r105), .val (.int r107), .val (.int r109), .val (.int r111), .val (.int r113), .val (.int r115), .val (.ref a117), .val (.ref a121), .unset] [(.int r111), (.int r105)])) rfl (by rw [hml]; rfl) (argsL := [(.int r105), (.int r111)]) (rest := []) (lenOf pdo_22 rfl) rfl (by show 2 * 0 + _ ≤ _; exact Nat.le_of_eq rfl) (hb hby at_115) (fun _ _ => ⟨rfl, rfl, (by decide : 8 + 0 ≤ _), (by decide : 32 + 0 ≤ _)⟩)
      dsimp only [Pt.U, Pt.locs, Pt.cells, Pt.slots] at X138 l138 y138 z138 st138 hQ138
      subst l138 y138 z138
      obtain ⟨rfl, Nq138, eq138⟩ := hQ138
      have N138 := Fr.app N121 Nq138
      have pq139 : ∀ τ, Steps pP.tables e below (T138.setTop (mkF m 118 #[.val (.int p0), .val (.long q1), .second, .val (.long q2), .second, .val (.int p3), .val (.int tl), .val (.int pl), .val (.int r105), .val (.int r107), .val (.int r109), .val (.int r111), .val (.int r113), .val (.int r115), .val (.ref a117), .val (.ref a121), .unset] [(.int (own_same r105 r111))])) τ → Steps pP.tables e below A0 τ := by
        intro τ κ
        refine pq130 τ ?_
        refine XS.icmpNo X121.here hx rfl (hb hby at_108) rfl (flt hc108_131).1 ?_
        refine XS.iload X121.here hx rfl (hb hby at_111) rfl ?_
        refine XS.iload X121.here hx rfl (hb hby at_113) rfl ?_
        refine st138 _ ?_
        exact κ
      by_cases hc118_140 : (own_same r105 r111) = (0 : Int32)
      · skip
        have f141 := (f119.keep K121 all0)
        have f142 := (U117.keep K121)
        obtain ⟨_, _, ⟨T143, L143, k143, n143⟩, -, X143, ⟨Lc143, hQ143, l143, y143, z143⟩, st143⟩ := Jvm.LawKit.callS X138 hx (y := (⟨"com/example/sites_into_slices/sitesintoslices/identity/AsciiCase", "startsWithIgnoringCase", "(Ljava/lang/String;Ljava/lang/String;)Z"⟩ : MethodName)) O121 (mvT Z121 (hw _ (List.mem_of_getElem? (i := 32) rfl))) (mvT Z121 (hw _ (List.mem_of_getElem? (i := 33) rfl))) (mvT Z121 (hw _ (List.mem_of_getElem? (i := 34) rfl))) (mvT Z121 (hw _ (List.mem_of_getElem? (i := 35) rfl))) (by decide) (backOf (W := 0) (rm_sw l Z a0 hw [] a117 a121 (own_cs3 tl r105 r107 r109) (own_cs3 pl r111 r113 r115) G1 G3 T121.heap n0 f137 O2 P5 f141 O4 rG3 OA OH OL (own_cs3_len _ _ _ _) (own_cs3_len _ _ _ _) f142 U121) Z121 (hw _ (List.mem_of_getElem? (i := 35) rfl)) (hw _ (List.mem_of_getElem? (i := 34) rfl)) (by decide) (by decide)) (g := (mkF m 164 #[.val (.int p0), .val (.long q1), .second, .val (.long q2), .second, .val (.int p3), .val (.int tl), .val (.int pl), .val (.int r105), .val (.int r107), .val (.int r109), .val (.int r111), .val (.int r113), .val (.int r115), .val (.ref a117), .val (.ref a121), .val (.int (0 : Int32))] [(.ref a121), (.ref a117)])) rfl (by rw [hml]; rfl) (argsL := [(.ref a117), (.ref a121)]) (rest := []) (lenOf pdo_21 rfl) rfl (by show 2 * 0 + _ ≤ _; exact Nat.le_of_eq rfl) (hb hby at_164) (fun _ _ => ⟨rfl, eq138, (by decide : 8 + 0 ≤ _), (by decide : 32 + 0 ≤ _)⟩)
        dsimp only [Pt.U, Pt.locs, Pt.cells, Pt.slots] at X143 l143 y143 z143 st143 hQ143
        subst l143 y143 z143
        obtain ⟨rfl, Nq143, eq143⟩ := hQ143
        have N143 := Fr.app N138 Nq143
        have pq144 : ∀ τ, Steps pP.tables e below (T143.setTop (mkF m 167 #[.val (.int p0), .val (.long q1), .second, .val (.long q2), .second, .val (.int p3), .val (.int tl), .val (.int pl), .val (.int r105), .val (.int r107), .val (.int r109), .val (.int r111), .val (.int r113), .val (.int r115), .val (.ref a117), .val (.ref a121), .val (.int (0 : Int32))] [(.int (own_sw (own_cs3 tl r105 r107 r109) (own_cs3 pl r111 r113 r115)))])) τ → Steps pP.tables e below A0 τ := by
          intro τ κ
          refine pq139 τ ?_
          refine XS.ifYes X138.here hx rfl (pc0 := 118) (pc' := 157) rfl (hb hby at_118) rfl ((if0 _ _).trans (teq hc118_140).1) (by decide) (by decide) ?_
          refine XS.iconst X138.here hx rfl (hb hby at_157) ?_
          refine XS.istore X138.here hx rfl (hb hby at_158) rfl (l' := #[.val (.int p0), .val (.long q1), .second, .val (.long q2), .second, .val (.int p3), .val (.int tl), .val (.int pl), .val (.int r105), .val (.int r107), .val (.int r109), .val (.int r111), .val (.int r113), .val (.int r115), .val (.ref a117), .val (.ref a121), .val (.int (0 : Int32))]) rfl ?_
          refine XS.aload X138.here hx rfl (hb hby at_160) rfl rfl ?_
          refine XS.aload X138.here hx rfl (hb hby at_162) rfl rfl ?_
          refine st143 _ ?_
          exact κ
        have SKe := Nat.le_trans SK121 (Nat.le_of_eq (congrArg (fun z : Heap => Array.size z) (Eq.symm eq143)))
        obtain ⟨fs, hr, hrun, hended, hEnd⟩ := X143.leaveW SI121 SKe (v := some (.int (1 : Int32))) (fun h => by rw [Bd.returns] at h; cases h)
        have CHe := CHr.trans CR121 (CHv.at X143 Z121 hEW CH121)
        have pqE := pq144
        rw [hA0] at pqE
        refine ⟨_, _, pqE _ ?_, hrun, hended, _, _, rfl, ?_, ?_, hEnd.1, hEnd.2.1, hEnd.2.2.1, hEnd.2.2.2.mono (by decide) (by decide)⟩
        · refine XS.iload X143.here hx rfl (hb hby at_167) rfl ?_
          refine XS.icmpNo X143.here hx rfl (hb hby at_169) rfl (teq (by rw [own_fin _ _ _ _ _ _ d1 d2]; simp only [hc102_124, hc108_131, hc118_140, if_true, if_false])).2 ?_
          refine XS.iconst X143.here hx rfl (hb hby at_172) ?_
          refine XS.goto X143.here hx rfl (pc0 := 173) (pc' := 177) rfl (hb hby at_173) (by decide) (by decide) ?_
          show Steps pP.tables e below (T143.setTop (mkF m 177 #[.val (.int p0), .val (.long q1), .second, .val (.long q2), .second, .val (.int p3), .val (.int tl), .val (.int pl), .val (.int r105), .val (.int r107), .val (.int r109), .val (.int r111), .val (.int r113), .val (.int r115), .val (.ref a117), .val (.ref a121), .val (.int (0 : Int32))] [(.int (1 : Int32))])) _
          exact retN X143 hx (t := .boolean) Bd.returns (by simp) (hb hby at_177) hr
        · show Q_law n0 _ T143.heap _
          rw [eq143]
          exact ⟨rfl, N143⟩
        · show CHr Z consts_1 s.vm s.heap T143.vm T143.heap
          first | (rw [hh, eq143]; exact CHe) | (rw [hh]; exact CHe)
      · skip
        have pq145 : ∀ τ, Steps pP.tables e below (T138.setTop (mkF m 124 #[.val (.int p0), .val (.long q1), .second, .val (.long q2), .second, .val (.int p3), .val (.int tl), .val (.int pl), .val (.int r105), .val (.int r107), .val (.int r109), .val (.int r111), .val (.int r113), .val (.int r115), .val (.ref a117), .val (.ref a121), .unset] [(.int (2 : Int32)), (.int pl)])) τ → Steps pP.tables e below A0 τ := by
          intro τ κ
          refine pq139 τ ?_
          refine XS.ifNo X138.here hx rfl (hb hby at_118) rfl ((if0 _ _).trans (feq hc118_140).1) ?_
          refine XS.iload X138.here hx rfl (hb hby at_121) rfl ?_
          refine XS.iconst X138.here hx rfl (hb hby at_123) ?_
          exact κ
        by_cases hc124_146 : pl < (2 : Int32)
        · skip
          have f147 := (f119.keep K121 all0)
          have f148 := (U117.keep K121)
          obtain ⟨_, _, ⟨T149, L149, k149, n149⟩, -, X149, ⟨Lc149, hQ149, l149, y149, z149⟩, st149⟩ := Jvm.LawKit.callS X138 hx (y := (⟨"com/example/sites_into_slices/sitesintoslices/identity/AsciiCase", "startsWithIgnoringCase", "(Ljava/lang/String;Ljava/lang/String;)Z"⟩ : MethodName)) O121 (mvT Z121 (hw _ (List.mem_of_getElem? (i := 32) rfl))) (mvT Z121 (hw _ (List.mem_of_getElem? (i := 33) rfl))) (mvT Z121 (hw _ (List.mem_of_getElem? (i := 34) rfl))) (mvT Z121 (hw _ (List.mem_of_getElem? (i := 35) rfl))) (by decide) (backOf (W := 0) (rm_sw l Z a0 hw [] a117 a121 (own_cs3 tl r105 r107 r109) (own_cs3 pl r111 r113 r115) G1 G3 T121.heap n0 f137 O2 P5 f147 O4 rG3 OA OH OL (own_cs3_len _ _ _ _) (own_cs3_len _ _ _ _) f148 U121) Z121 (hw _ (List.mem_of_getElem? (i := 35) rfl)) (hw _ (List.mem_of_getElem? (i := 34) rfl)) (by decide) (by decide)) (g := (mkF m 164 #[.val (.int p0), .val (.long q1), .second, .val (.long q2), .second, .val (.int p3), .val (.int tl), .val (.int pl), .val (.int r105), .val (.int r107), .val (.int r109), .val (.int r111), .val (.int r113), .val (.int r115), .val (.ref a117), .val (.ref a121), .val (.int (1 : Int32))] [(.ref a121), (.ref a117)])) rfl (by rw [hml]; rfl) (argsL := [(.ref a117), (.ref a121)]) (rest := []) (lenOf pdo_21 rfl) rfl (by show 2 * 0 + _ ≤ _; exact Nat.le_of_eq rfl) (hb hby at_164) (fun _ _ => ⟨rfl, eq138, (by decide : 8 + 0 ≤ _), (by decide : 32 + 0 ≤ _)⟩)
          dsimp only [Pt.U, Pt.locs, Pt.cells, Pt.slots] at X149 l149 y149 z149 st149 hQ149
          subst l149 y149 z149
          obtain ⟨rfl, Nq149, eq149⟩ := hQ149
          have N149 := Fr.app N138 Nq149
          have pq150 : ∀ τ, Steps pP.tables e below (T149.setTop (mkF m 167 #[.val (.int p0), .val (.long q1), .second, .val (.long q2), .second, .val (.int p3), .val (.int tl), .val (.int pl), .val (.int r105), .val (.int r107), .val (.int r109), .val (.int r111), .val (.int r113), .val (.int r115), .val (.ref a117), .val (.ref a121), .val (.int (1 : Int32))] [(.int (own_sw (own_cs3 tl r105 r107 r109) (own_cs3 pl r111 r113 r115)))])) τ → Steps pP.tables e below A0 τ := by
            intro τ κ
            refine pq145 τ ?_
            refine XS.icmpYes X138.here hx rfl (pc0 := 124) (pc' := 137) rfl (hb hby at_124) rfl (tlt hc124_146).1 (by decide) (by decide) ?_
            refine XS.iload X138.here hx rfl (hb hby at_137) rfl ?_
            refine XS.iconst X138.here hx rfl (hb hby at_139) ?_
            refine XS.icmpYes X138.here hx rfl (pc0 := 140) (pc' := 153) rfl (hb hby at_140) rfl (tlt (own_l23 hc124_146)).1 (by decide) (by decide) ?_
            refine XS.iconst X138.here hx rfl (hb hby at_153) ?_
            refine XS.goto X138.here hx rfl (pc0 := 154) (pc' := 158) rfl (hb hby at_154) (by decide) (by decide) ?_
            refine XS.istore X138.here hx rfl (hb hby at_158) rfl (l' := #[.val (.int p0), .val (.long q1), .second, .val (.long q2), .second, .val (.int p3), .val (.int tl), .val (.int pl), .val (.int r105), .val (.int r107), .val (.int r109), .val (.int r111), .val (.int r113), .val (.int r115), .val (.ref a117), .val (.ref a121), .val (.int (1 : Int32))]) rfl ?_
            refine XS.aload X138.here hx rfl (hb hby at_160) rfl rfl ?_
            refine XS.aload X138.here hx rfl (hb hby at_162) rfl rfl ?_
            refine st149 _ ?_
            exact κ
          have SKe := Nat.le_trans SK121 (Nat.le_of_eq (congrArg (fun z : Heap => Array.size z) (Eq.symm eq149)))
          obtain ⟨fs, hr, hrun, hended, hEnd⟩ := X149.leaveW SI121 SKe (v := some (.int (1 : Int32))) (fun h => by rw [Bd.returns] at h; cases h)
          have CHe := CHr.trans CR121 (CHv.at X149 Z121 hEW CH121)
          have pqE := pq150
          rw [hA0] at pqE
          refine ⟨_, _, pqE _ ?_, hrun, hended, _, _, rfl, ?_, ?_, hEnd.1, hEnd.2.1, hEnd.2.2.1, hEnd.2.2.2.mono (by decide) (by decide)⟩
          · refine XS.iload X149.here hx rfl (hb hby at_167) rfl ?_
            refine XS.icmpNo X149.here hx rfl (hb hby at_169) rfl (teq (by rw [own_fin _ _ _ _ _ _ d1 d2]; simp only [hc102_124, hc108_131, hc118_140, hc124_146, (own_l23 hc124_146), if_true, if_false])).2 ?_
            refine XS.iconst X149.here hx rfl (hb hby at_172) ?_
            refine XS.goto X149.here hx rfl (pc0 := 173) (pc' := 177) rfl (hb hby at_173) (by decide) (by decide) ?_
            show Steps pP.tables e below (T149.setTop (mkF m 177 #[.val (.int p0), .val (.long q1), .second, .val (.long q2), .second, .val (.int p3), .val (.int tl), .val (.int pl), .val (.int r105), .val (.int r107), .val (.int r109), .val (.int r111), .val (.int r113), .val (.int r115), .val (.ref a117), .val (.ref a121), .val (.int (1 : Int32))] [(.int (1 : Int32))])) _
            exact retN X149 hx (t := .boolean) Bd.returns (by simp) (hb hby at_177) hr
          · show Q_law n0 _ T149.heap _
            rw [eq149]
            exact ⟨rfl, N149⟩
          · show CHr Z consts_1 s.vm s.heap T149.vm T149.heap
            first | (rw [hh, eq149]; exact CHe) | (rw [hh]; exact CHe)
        · skip
          obtain ⟨_, _, ⟨T151, L151, k151, n151⟩, -, X151, ⟨Lc151, hQ151, l151, y151, z151⟩, st151⟩ := Jvm.LawKit.callS X138 hx (y := (⟨"com/example/sites_into_slices/sitesintoslices/identity/AsciiCaseStartsWithIgnoringCasePinLaw", "same", "(CC)Z"⟩ : MethodName)) O121 (mvT Z121 (hw _ (List.mem_of_getElem? (i := 76) rfl))) (mvT Z121 (hw _ (List.mem_of_getElem? (i := 77) rfl))) (mvT Z121 (hw _ (List.mem_of_getElem? (i := 2) rfl))) (mvT Z121 (hw _ (List.mem_of_getElem? (i := 78) rfl))) (by decide) (backOf (W := 0) (rm_same l Z a0 hw [] r107 r113 T121.heap n0 f137 hb107 hb113) Z121 (hw _ (List.mem_of_getElem? (i := 78) rfl)) (hw _ (List.mem_of_getElem? (i := 2) rfl)) (by decide) (by decide)) (g := (mkF m 131 #[.val (.int p0), .val (.long q1), .second, .val (.long q2), .second, .val (.int p3), .val (.int tl), .val (.int pl), .val (.int r105), .val (.int r107), .val (.int r109), .val (.int r111), .val (.int r113), .val (.int r115), .val (.ref a117), .val (.ref a121), .unset] [(.int r113), (.int r107)])) rfl (by rw [hml]; rfl) (argsL := [(.int r107), (.int r113)]) (rest := []) (lenOf pdo_22 rfl) rfl (by show 2 * 0 + _ ≤ _; exact Nat.le_of_eq rfl) (hb hby at_131) (fun _ _ => ⟨rfl, eq138, (by decide : 8 + 0 ≤ _), (by decide : 32 + 0 ≤ _)⟩)
          dsimp only [Pt.U, Pt.locs, Pt.cells, Pt.slots] at X151 l151 y151 z151 st151 hQ151
          subst l151 y151 z151
          obtain ⟨rfl, Nq151, eq151⟩ := hQ151
          have N151 := Fr.app N138 Nq151
          have pq152 : ∀ τ, Steps pP.tables e below (T151.setTop (mkF m 134 #[.val (.int p0), .val (.long q1), .second, .val (.long q2), .second, .val (.int p3), .val (.int tl), .val (.int pl), .val (.int r105), .val (.int r107), .val (.int r109), .val (.int r111), .val (.int r113), .val (.int r115), .val (.ref a117), .val (.ref a121), .unset] [(.int (own_same r107 r113))])) τ → Steps pP.tables e below A0 τ := by
            intro τ κ
            refine pq145 τ ?_
            refine XS.icmpNo X138.here hx rfl (hb hby at_124) rfl (flt hc124_146).1 ?_
            refine XS.iload X138.here hx rfl (hb hby at_127) rfl ?_
            refine XS.iload X138.here hx rfl (hb hby at_129) rfl ?_
            refine st151 _ ?_
            exact κ
          by_cases hc134_153 : (own_same r107 r113) = (0 : Int32)
          · skip
            have f154 := (f119.keep K121 all0)
            have f155 := (U117.keep K121)
            obtain ⟨_, _, ⟨T156, L156, k156, n156⟩, -, X156, ⟨Lc156, hQ156, l156, y156, z156⟩, st156⟩ := Jvm.LawKit.callS X151 hx (y := (⟨"com/example/sites_into_slices/sitesintoslices/identity/AsciiCase", "startsWithIgnoringCase", "(Ljava/lang/String;Ljava/lang/String;)Z"⟩ : MethodName)) O121 (mvT Z121 (hw _ (List.mem_of_getElem? (i := 32) rfl))) (mvT Z121 (hw _ (List.mem_of_getElem? (i := 33) rfl))) (mvT Z121 (hw _ (List.mem_of_getElem? (i := 34) rfl))) (mvT Z121 (hw _ (List.mem_of_getElem? (i := 35) rfl))) (by decide) (backOf (W := 0) (rm_sw l Z a0 hw [] a117 a121 (own_cs3 tl r105 r107 r109) (own_cs3 pl r111 r113 r115) G1 G3 T121.heap n0 f137 O2 P5 f154 O4 rG3 OA OH OL (own_cs3_len _ _ _ _) (own_cs3_len _ _ _ _) f155 U121) Z121 (hw _ (List.mem_of_getElem? (i := 35) rfl)) (hw _ (List.mem_of_getElem? (i := 34) rfl)) (by decide) (by decide)) (g := (mkF m 164 #[.val (.int p0), .val (.long q1), .second, .val (.long q2), .second, .val (.int p3), .val (.int tl), .val (.int pl), .val (.int r105), .val (.int r107), .val (.int r109), .val (.int r111), .val (.int r113), .val (.int r115), .val (.ref a117), .val (.ref a121), .val (.int (0 : Int32))] [(.ref a121), (.ref a117)])) rfl (by rw [hml]; rfl) (argsL := [(.ref a117), (.ref a121)]) (rest := []) (lenOf pdo_21 rfl) rfl (by show 2 * 0 + _ ≤ _; exact Nat.le_of_eq rfl) (hb hby at_164) (fun _ _ => ⟨rfl, eq151, (by decide : 8 + 0 ≤ _), (by decide : 32 + 0 ≤ _)⟩)
            dsimp only [Pt.U, Pt.locs, Pt.cells, Pt.slots] at X156 l156 y156 z156 st156 hQ156
            subst l156 y156 z156
            obtain ⟨rfl, Nq156, eq156⟩ := hQ156
            have N156 := Fr.app N151 Nq156
            have pq157 : ∀ τ, Steps pP.tables e below (T156.setTop (mkF m 167 #[.val (.int p0), .val (.long q1), .second, .val (.long q2), .second, .val (.int p3), .val (.int tl), .val (.int pl), .val (.int r105), .val (.int r107), .val (.int r109), .val (.int r111), .val (.int r113), .val (.int r115), .val (.ref a117), .val (.ref a121), .val (.int (0 : Int32))] [(.int (own_sw (own_cs3 tl r105 r107 r109) (own_cs3 pl r111 r113 r115)))])) τ → Steps pP.tables e below A0 τ := by
              intro τ κ
              refine pq152 τ ?_
              refine XS.ifYes X151.here hx rfl (pc0 := 134) (pc' := 157) rfl (hb hby at_134) rfl ((if0 _ _).trans (teq hc134_153).1) (by decide) (by decide) ?_
              refine XS.iconst X151.here hx rfl (hb hby at_157) ?_
              refine XS.istore X151.here hx rfl (hb hby at_158) rfl (l' := #[.val (.int p0), .val (.long q1), .second, .val (.long q2), .second, .val (.int p3), .val (.int tl), .val (.int pl), .val (.int r105), .val (.int r107), .val (.int r109), .val (.int r111), .val (.int r113), .val (.int r115), .val (.ref a117), .val (.ref a121), .val (.int (0 : Int32))]) rfl ?_
              refine XS.aload X151.here hx rfl (hb hby at_160) rfl rfl ?_
              refine XS.aload X151.here hx rfl (hb hby at_162) rfl rfl ?_
              refine st156 _ ?_
              exact κ
            have SKe := Nat.le_trans SK121 (Nat.le_of_eq (congrArg (fun z : Heap => Array.size z) (Eq.symm eq156)))
            obtain ⟨fs, hr, hrun, hended, hEnd⟩ := X156.leaveW SI121 SKe (v := some (.int (1 : Int32))) (fun h => by rw [Bd.returns] at h; cases h)
            have CHe := CHr.trans CR121 (CHv.at X156 Z121 hEW CH121)
            have pqE := pq157
            rw [hA0] at pqE
            refine ⟨_, _, pqE _ ?_, hrun, hended, _, _, rfl, ?_, ?_, hEnd.1, hEnd.2.1, hEnd.2.2.1, hEnd.2.2.2.mono (by decide) (by decide)⟩
            · refine XS.iload X156.here hx rfl (hb hby at_167) rfl ?_
              refine XS.icmpNo X156.here hx rfl (hb hby at_169) rfl (teq (by rw [own_fin _ _ _ _ _ _ d1 d2]; simp only [hc102_124, hc108_131, hc118_140, hc124_146, hc134_153, if_true, if_false])).2 ?_
              refine XS.iconst X156.here hx rfl (hb hby at_172) ?_
              refine XS.goto X156.here hx rfl (pc0 := 173) (pc' := 177) rfl (hb hby at_173) (by decide) (by decide) ?_
              show Steps pP.tables e below (T156.setTop (mkF m 177 #[.val (.int p0), .val (.long q1), .second, .val (.long q2), .second, .val (.int p3), .val (.int tl), .val (.int pl), .val (.int r105), .val (.int r107), .val (.int r109), .val (.int r111), .val (.int r113), .val (.int r115), .val (.ref a117), .val (.ref a121), .val (.int (0 : Int32))] [(.int (1 : Int32))])) _
              exact retN X156 hx (t := .boolean) Bd.returns (by simp) (hb hby at_177) hr
            · show Q_law n0 _ T156.heap _
              rw [eq156]
              exact ⟨rfl, N156⟩
            · show CHr Z consts_1 s.vm s.heap T156.vm T156.heap
              first | (rw [hh, eq156]; exact CHe) | (rw [hh]; exact CHe)
          · skip
            have pq158 : ∀ τ, Steps pP.tables e below (T151.setTop (mkF m 140 #[.val (.int p0), .val (.long q1), .second, .val (.long q2), .second, .val (.int p3), .val (.int tl), .val (.int pl), .val (.int r105), .val (.int r107), .val (.int r109), .val (.int r111), .val (.int r113), .val (.int r115), .val (.ref a117), .val (.ref a121), .unset] [(.int (3 : Int32)), (.int pl)])) τ → Steps pP.tables e below A0 τ := by
              intro τ κ
              refine pq152 τ ?_
              refine XS.ifNo X151.here hx rfl (hb hby at_134) rfl ((if0 _ _).trans (feq hc134_153).1) ?_
              refine XS.iload X151.here hx rfl (hb hby at_137) rfl ?_
              refine XS.iconst X151.here hx rfl (hb hby at_139) ?_
              exact κ
            by_cases hc140_159 : pl < (3 : Int32)
            · skip
              have f160 := (f119.keep K121 all0)
              have f161 := (U117.keep K121)
              obtain ⟨_, _, ⟨T162, L162, k162, n162⟩, -, X162, ⟨Lc162, hQ162, l162, y162, z162⟩, st162⟩ := Jvm.LawKit.callS X151 hx (y := (⟨"com/example/sites_into_slices/sitesintoslices/identity/AsciiCase", "startsWithIgnoringCase", "(Ljava/lang/String;Ljava/lang/String;)Z"⟩ : MethodName)) O121 (mvT Z121 (hw _ (List.mem_of_getElem? (i := 32) rfl))) (mvT Z121 (hw _ (List.mem_of_getElem? (i := 33) rfl))) (mvT Z121 (hw _ (List.mem_of_getElem? (i := 34) rfl))) (mvT Z121 (hw _ (List.mem_of_getElem? (i := 35) rfl))) (by decide) (backOf (W := 0) (rm_sw l Z a0 hw [] a117 a121 (own_cs3 tl r105 r107 r109) (own_cs3 pl r111 r113 r115) G1 G3 T121.heap n0 f137 O2 P5 f160 O4 rG3 OA OH OL (own_cs3_len _ _ _ _) (own_cs3_len _ _ _ _) f161 U121) Z121 (hw _ (List.mem_of_getElem? (i := 35) rfl)) (hw _ (List.mem_of_getElem? (i := 34) rfl)) (by decide) (by decide)) (g := (mkF m 164 #[.val (.int p0), .val (.long q1), .second, .val (.long q2), .second, .val (.int p3), .val (.int tl), .val (.int pl), .val (.int r105), .val (.int r107), .val (.int r109), .val (.int r111), .val (.int r113), .val (.int r115), .val (.ref a117), .val (.ref a121), .val (.int (1 : Int32))] [(.ref a121), (.ref a117)])) rfl (by rw [hml]; rfl) (argsL := [(.ref a117), (.ref a121)]) (rest := []) (lenOf pdo_21 rfl) rfl (by show 2 * 0 + _ ≤ _; exact Nat.le_of_eq rfl) (hb hby at_164) (fun _ _ => ⟨rfl, eq151, (by decide : 8 + 0 ≤ _), (by decide : 32 + 0 ≤ _)⟩)
              dsimp only [Pt.U, Pt.locs, Pt.cells, Pt.slots] at X162 l162 y162 z162 st162 hQ162
              subst l162 y162 z162
              obtain ⟨rfl, Nq162, eq162⟩ := hQ162
              have N162 := Fr.app N151 Nq162
              have pq163 : ∀ τ, Steps pP.tables e below (T162.setTop (mkF m 167 #[.val (.int p0), .val (.long q1), .second, .val (.long q2), .second, .val (.int p3), .val (.int tl), .val (.int pl), .val (.int r105), .val (.int r107), .val (.int r109), .val (.int r111), .val (.int r113), .val (.int r115), .val (.ref a117), .val (.ref a121), .val (.int (1 : Int32))] [(.int (own_sw (own_cs3 tl r105 r107 r109) (own_cs3 pl r111 r113 r115)))])) τ → Steps pP.tables e below A0 τ := by
                intro τ κ
                refine pq158 τ ?_
                refine XS.icmpYes X151.here hx rfl (pc0 := 140) (pc' := 153) rfl (hb hby at_140) rfl (tlt hc140_159).1 (by decide) (by decide) ?_
                refine XS.iconst X151.here hx rfl (hb hby at_153) ?_
                refine XS.goto X151.here hx rfl (pc0 := 154) (pc' := 158) rfl (hb hby at_154) (by decide) (by decide) ?_
                refine XS.istore X151.here hx rfl (hb hby at_158) rfl (l' := #[.val (.int p0), .val (.long q1), .second, .val (.long q2), .second, .val (.int p3), .val (.int tl), .val (.int pl), .val (.int r105), .val (.int r107), .val (.int r109), .val (.int r111), .val (.int r113), .val (.int r115), .val (.ref a117), .val (.ref a121), .val (.int (1 : Int32))]) rfl ?_
                refine XS.aload X151.here hx rfl (hb hby at_160) rfl rfl ?_
                refine XS.aload X151.here hx rfl (hb hby at_162) rfl rfl ?_
                refine st162 _ ?_
                exact κ
              have SKe := Nat.le_trans SK121 (Nat.le_of_eq (congrArg (fun z : Heap => Array.size z) (Eq.symm eq162)))
              obtain ⟨fs, hr, hrun, hended, hEnd⟩ := X162.leaveW SI121 SKe (v := some (.int (1 : Int32))) (fun h => by rw [Bd.returns] at h; cases h)
              have CHe := CHr.trans CR121 (CHv.at X162 Z121 hEW CH121)
              have pqE := pq163
              rw [hA0] at pqE
              refine ⟨_, _, pqE _ ?_, hrun, hended, _, _, rfl, ?_, ?_, hEnd.1, hEnd.2.1, hEnd.2.2.1, hEnd.2.2.2.mono (by decide) (by decide)⟩
              · refine XS.iload X162.here hx rfl (hb hby at_167) rfl ?_
                refine XS.icmpNo X162.here hx rfl (hb hby at_169) rfl (teq (by rw [own_fin _ _ _ _ _ _ d1 d2]; simp only [hc102_124, hc108_131, hc118_140, hc124_146, hc134_153, hc140_159, if_true, if_false])).2 ?_
                refine XS.iconst X162.here hx rfl (hb hby at_172) ?_
                refine XS.goto X162.here hx rfl (pc0 := 173) (pc' := 177) rfl (hb hby at_173) (by decide) (by decide) ?_
                show Steps pP.tables e below (T162.setTop (mkF m 177 #[.val (.int p0), .val (.long q1), .second, .val (.long q2), .second, .val (.int p3), .val (.int tl), .val (.int pl), .val (.int r105), .val (.int r107), .val (.int r109), .val (.int r111), .val (.int r113), .val (.int r115), .val (.ref a117), .val (.ref a121), .val (.int (1 : Int32))] [(.int (1 : Int32))])) _
                exact retN X162 hx (t := .boolean) Bd.returns (by simp) (hb hby at_177) hr
              · show Q_law n0 _ T162.heap _
                rw [eq162]
                exact ⟨rfl, N162⟩
              · show CHr Z consts_1 s.vm s.heap T162.vm T162.heap
                first | (rw [hh, eq162]; exact CHe) | (rw [hh]; exact CHe)
            · skip
              obtain ⟨_, _, ⟨T164, L164, k164, n164⟩, -, X164, ⟨Lc164, hQ164, l164, y164, z164⟩, st164⟩ := Jvm.LawKit.callS X151 hx (y := (⟨"com/example/sites_into_slices/sitesintoslices/identity/AsciiCaseStartsWithIgnoringCasePinLaw", "same", "(CC)Z"⟩ : MethodName)) O121 (mvT Z121 (hw _ (List.mem_of_getElem? (i := 76) rfl))) (mvT Z121 (hw _ (List.mem_of_getElem? (i := 77) rfl))) (mvT Z121 (hw _ (List.mem_of_getElem? (i := 2) rfl))) (mvT Z121 (hw _ (List.mem_of_getElem? (i := 78) rfl))) (by decide) (backOf (W := 0) (rm_same l Z a0 hw [] r109 r115 T121.heap n0 f137 hb109 hb115) Z121 (hw _ (List.mem_of_getElem? (i := 78) rfl)) (hw _ (List.mem_of_getElem? (i := 2) rfl)) (by decide) (by decide)) (g := (mkF m 147 #[.val (.int p0), .val (.long q1), .second, .val (.long q2), .second, .val (.int p3), .val (.int tl), .val (.int pl), .val (.int r105), .val (.int r107), .val (.int r109), .val (.int r111), .val (.int r113), .val (.int r115), .val (.ref a117), .val (.ref a121), .unset] [(.int r115), (.int r109)])) rfl (by rw [hml]; rfl) (argsL := [(.int r109), (.int r115)]) (rest := []) (lenOf pdo_22 rfl) rfl (by show 2 * 0 + _ ≤ _; exact Nat.le_of_eq rfl) (hb hby at_147) (fun _ _ => ⟨rfl, eq151, (by decide : 8 + 0 ≤ _), (by decide : 32 + 0 ≤ _)⟩)
              dsimp only [Pt.U, Pt.locs, Pt.cells, Pt.slots] at X164 l164 y164 z164 st164 hQ164
              subst l164 y164 z164
              obtain ⟨rfl, Nq164, eq164⟩ := hQ164
              have N164 := Fr.app N151 Nq164
              have pq165 : ∀ τ, Steps pP.tables e below (T164.setTop (mkF m 150 #[.val (.int p0), .val (.long q1), .second, .val (.long q2), .second, .val (.int p3), .val (.int tl), .val (.int pl), .val (.int r105), .val (.int r107), .val (.int r109), .val (.int r111), .val (.int r113), .val (.int r115), .val (.ref a117), .val (.ref a121), .unset] [(.int (own_same r109 r115))])) τ → Steps pP.tables e below A0 τ := by
                intro τ κ
                refine pq158 τ ?_
                refine XS.icmpNo X151.here hx rfl (hb hby at_140) rfl (flt hc140_159).1 ?_
                refine XS.iload X151.here hx rfl (hb hby at_143) rfl ?_
                refine XS.iload X151.here hx rfl (hb hby at_145) rfl ?_
                refine st164 _ ?_
                exact κ
              by_cases hc150_166 : (own_same r109 r115) = (0 : Int32)
              · skip
                have f167 := (f119.keep K121 all0)
                have f168 := (U117.keep K121)
                obtain ⟨_, _, ⟨T169, L169, k169, n169⟩, -, X169, ⟨Lc169, hQ169, l169, y169, z169⟩, st169⟩ := Jvm.LawKit.callS X164 hx (y := (⟨"com/example/sites_into_slices/sitesintoslices/identity/AsciiCase", "startsWithIgnoringCase", "(Ljava/lang/String;Ljava/lang/String;)Z"⟩ : MethodName)) O121 (mvT Z121 (hw _ (List.mem_of_getElem? (i := 32) rfl))) (mvT Z121 (hw _ (List.mem_of_getElem? (i := 33) rfl))) (mvT Z121 (hw _ (List.mem_of_getElem? (i := 34) rfl))) (mvT Z121 (hw _ (List.mem_of_getElem? (i := 35) rfl))) (by decide) (backOf (W := 0) (rm_sw l Z a0 hw [] a117 a121 (own_cs3 tl r105 r107 r109) (own_cs3 pl r111 r113 r115) G1 G3 T121.heap n0 f137 O2 P5 f167 O4 rG3 OA OH OL (own_cs3_len _ _ _ _) (own_cs3_len _ _ _ _) f168 U121) Z121 (hw _ (List.mem_of_getElem? (i := 35) rfl)) (hw _ (List.mem_of_getElem? (i := 34) rfl)) (by decide) (by decide)) (g := (mkF m 164 #[.val (.int p0), .val (.long q1), .second, .val (.long q2), .second, .val (.int p3), .val (.int tl), .val (.int pl), .val (.int r105), .val (.int r107), .val (.int r109), .val (.int r111), .val (.int r113), .val (.int r115), .val (.ref a117), .val (.ref a121), .val (.int (0 : Int32))] [(.ref a121), (.ref a117)])) rfl (by rw [hml]; rfl) (argsL := [(.ref a117), (.ref a121)]) (rest := []) (lenOf pdo_21 rfl) rfl (by show 2 * 0 + _ ≤ _; exact Nat.le_of_eq rfl) (hb hby at_164) (fun _ _ => ⟨rfl, eq164, (by decide : 8 + 0 ≤ _), (by decide : 32 + 0 ≤ _)⟩)
                dsimp only [Pt.U, Pt.locs, Pt.cells, Pt.slots] at X169 l169 y169 z169 st169 hQ169
                subst l169 y169 z169
                obtain ⟨rfl, Nq169, eq169⟩ := hQ169
                have N169 := Fr.app N164 Nq169
                have pq170 : ∀ τ, Steps pP.tables e below (T169.setTop (mkF m 167 #[.val (.int p0), .val (.long q1), .second, .val (.long q2), .second, .val (.int p3), .val (.int tl), .val (.int pl), .val (.int r105), .val (.int r107), .val (.int r109), .val (.int r111), .val (.int r113), .val (.int r115), .val (.ref a117), .val (.ref a121), .val (.int (0 : Int32))] [(.int (own_sw (own_cs3 tl r105 r107 r109) (own_cs3 pl r111 r113 r115)))])) τ → Steps pP.tables e below A0 τ := by
                  intro τ κ
                  refine pq165 τ ?_
                  refine XS.ifYes X164.here hx rfl (pc0 := 150) (pc' := 157) rfl (hb hby at_150) rfl ((if0 _ _).trans (teq hc150_166).1) (by decide) (by decide) ?_
                  refine XS.iconst X164.here hx rfl (hb hby at_157) ?_
                  refine XS.istore X164.here hx rfl (hb hby at_158) rfl (l' := #[.val (.int p0), .val (.long q1), .second, .val (.long q2), .second, .val (.int p3), .val (.int tl), .val (.int pl), .val (.int r105), .val (.int r107), .val (.int r109), .val (.int r111), .val (.int r113), .val (.int r115), .val (.ref a117), .val (.ref a121), .val (.int (0 : Int32))]) rfl ?_
                  refine XS.aload X164.here hx rfl (hb hby at_160) rfl rfl ?_
                  refine XS.aload X164.here hx rfl (hb hby at_162) rfl rfl ?_
                  refine st169 _ ?_
                  exact κ
                have SKe := Nat.le_trans SK121 (Nat.le_of_eq (congrArg (fun z : Heap => Array.size z) (Eq.symm eq169)))
                obtain ⟨fs, hr, hrun, hended, hEnd⟩ := X169.leaveW SI121 SKe (v := some (.int (1 : Int32))) (fun h => by rw [Bd.returns] at h; cases h)
                have CHe := CHr.trans CR121 (CHv.at X169 Z121 hEW CH121)
                have pqE := pq170
                rw [hA0] at pqE
                refine ⟨_, _, pqE _ ?_, hrun, hended, _, _, rfl, ?_, ?_, hEnd.1, hEnd.2.1, hEnd.2.2.1, hEnd.2.2.2.mono (by decide) (by decide)⟩
                · refine XS.iload X169.here hx rfl (hb hby at_167) rfl ?_
                  refine XS.icmpNo X169.here hx rfl (hb hby at_169) rfl (teq (by rw [own_fin _ _ _ _ _ _ d1 d2]; simp only [hc102_124, hc108_131, hc118_140, hc124_146, hc134_153, hc140_159, hc150_166, if_true, if_false])).2 ?_
                  refine XS.iconst X169.here hx rfl (hb hby at_172) ?_
                  refine XS.goto X169.here hx rfl (pc0 := 173) (pc' := 177) rfl (hb hby at_173) (by decide) (by decide) ?_
                  show Steps pP.tables e below (T169.setTop (mkF m 177 #[.val (.int p0), .val (.long q1), .second, .val (.long q2), .second, .val (.int p3), .val (.int tl), .val (.int pl), .val (.int r105), .val (.int r107), .val (.int r109), .val (.int r111), .val (.int r113), .val (.int r115), .val (.ref a117), .val (.ref a121), .val (.int (0 : Int32))] [(.int (1 : Int32))])) _
                  exact retN X169 hx (t := .boolean) Bd.returns (by simp) (hb hby at_177) hr
                · show Q_law n0 _ T169.heap _
                  rw [eq169]
                  exact ⟨rfl, N169⟩
                · show CHr Z consts_1 s.vm s.heap T169.vm T169.heap
                  first | (rw [hh, eq169]; exact CHe) | (rw [hh]; exact CHe)
              · skip
                have f171 := (f119.keep K121 all0)
                have f172 := (U117.keep K121)
                obtain ⟨_, _, ⟨T173, L173, k173, n173⟩, -, X173, ⟨Lc173, hQ173, l173, y173, z173⟩, st173⟩ := Jvm.LawKit.callS X164 hx (y := (⟨"com/example/sites_into_slices/sitesintoslices/identity/AsciiCase", "startsWithIgnoringCase", "(Ljava/lang/String;Ljava/lang/String;)Z"⟩ : MethodName)) O121 (mvT Z121 (hw _ (List.mem_of_getElem? (i := 32) rfl))) (mvT Z121 (hw _ (List.mem_of_getElem? (i := 33) rfl))) (mvT Z121 (hw _ (List.mem_of_getElem? (i := 34) rfl))) (mvT Z121 (hw _ (List.mem_of_getElem? (i := 35) rfl))) (by decide) (backOf (W := 0) (rm_sw l Z a0 hw [] a117 a121 (own_cs3 tl r105 r107 r109) (own_cs3 pl r111 r113 r115) G1 G3 T121.heap n0 f137 O2 P5 f171 O4 rG3 OA OH OL (own_cs3_len _ _ _ _) (own_cs3_len _ _ _ _) f172 U121) Z121 (hw _ (List.mem_of_getElem? (i := 35) rfl)) (hw _ (List.mem_of_getElem? (i := 34) rfl)) (by decide) (by decide)) (g := (mkF m 164 #[.val (.int p0), .val (.long q1), .second, .val (.long q2), .second, .val (.int p3), .val (.int tl), .val (.int pl), .val (.int r105), .val (.int r107), .val (.int r109), .val (.int r111), .val (.int r113), .val (.int r115), .val (.ref a117), .val (.ref a121), .val (.int (1 : Int32))] [(.ref a121), (.ref a117)])) rfl (by rw [hml]; rfl) (argsL := [(.ref a117), (.ref a121)]) (rest := []) (lenOf pdo_21 rfl) rfl (by show 2 * 0 + _ ≤ _; exact Nat.le_of_eq rfl) (hb hby at_164) (fun _ _ => ⟨rfl, eq164, (by decide : 8 + 0 ≤ _), (by decide : 32 + 0 ≤ _)⟩)
                dsimp only [Pt.U, Pt.locs, Pt.cells, Pt.slots] at X173 l173 y173 z173 st173 hQ173
                subst l173 y173 z173
                obtain ⟨rfl, Nq173, eq173⟩ := hQ173
                have N173 := Fr.app N164 Nq173
                have pq174 : ∀ τ, Steps pP.tables e below (T173.setTop (mkF m 167 #[.val (.int p0), .val (.long q1), .second, .val (.long q2), .second, .val (.int p3), .val (.int tl), .val (.int pl), .val (.int r105), .val (.int r107), .val (.int r109), .val (.int r111), .val (.int r113), .val (.int r115), .val (.ref a117), .val (.ref a121), .val (.int (1 : Int32))] [(.int (own_sw (own_cs3 tl r105 r107 r109) (own_cs3 pl r111 r113 r115)))])) τ → Steps pP.tables e below A0 τ := by
                  intro τ κ
                  refine pq165 τ ?_
                  refine XS.ifNo X164.here hx rfl (hb hby at_150) rfl ((if0 _ _).trans (feq hc150_166).1) ?_
                  refine XS.iconst X164.here hx rfl (hb hby at_153) ?_
                  refine XS.goto X164.here hx rfl (pc0 := 154) (pc' := 158) rfl (hb hby at_154) (by decide) (by decide) ?_
                  refine XS.istore X164.here hx rfl (hb hby at_158) rfl (l' := #[.val (.int p0), .val (.long q1), .second, .val (.long q2), .second, .val (.int p3), .val (.int tl), .val (.int pl), .val (.int r105), .val (.int r107), .val (.int r109), .val (.int r111), .val (.int r113), .val (.int r115), .val (.ref a117), .val (.ref a121), .val (.int (1 : Int32))]) rfl ?_
                  refine XS.aload X164.here hx rfl (hb hby at_160) rfl rfl ?_
                  refine XS.aload X164.here hx rfl (hb hby at_162) rfl rfl ?_
                  refine st173 _ ?_
                  exact κ
                have SKe := Nat.le_trans SK121 (Nat.le_of_eq (congrArg (fun z : Heap => Array.size z) (Eq.symm eq173)))
                obtain ⟨fs, hr, hrun, hended, hEnd⟩ := X173.leaveW SI121 SKe (v := some (.int (1 : Int32))) (fun h => by rw [Bd.returns] at h; cases h)
                have CHe := CHr.trans CR121 (CHv.at X173 Z121 hEW CH121)
                have pqE := pq174
                rw [hA0] at pqE
                refine ⟨_, _, pqE _ ?_, hrun, hended, _, _, rfl, ?_, ?_, hEnd.1, hEnd.2.1, hEnd.2.2.1, hEnd.2.2.2.mono (by decide) (by decide)⟩
                · refine XS.iload X173.here hx rfl (hb hby at_167) rfl ?_
                  refine XS.icmpNo X173.here hx rfl (hb hby at_169) rfl (teq (by rw [own_fin _ _ _ _ _ _ d1 d2]; simp only [hc102_124, hc108_131, hc118_140, hc124_146, hc134_153, hc140_159, hc150_166, if_true, if_false])).2 ?_
                  refine XS.iconst X173.here hx rfl (hb hby at_172) ?_
                  refine XS.goto X173.here hx rfl (pc0 := 173) (pc' := 177) rfl (hb hby at_173) (by decide) (by decide) ?_
                  show Steps pP.tables e below (T173.setTop (mkF m 177 #[.val (.int p0), .val (.long q1), .second, .val (.long q2), .second, .val (.int p3), .val (.int tl), .val (.int pl), .val (.int r105), .val (.int r107), .val (.int r109), .val (.int r111), .val (.int r113), .val (.int r115), .val (.ref a117), .val (.ref a121), .val (.int (1 : Int32))] [(.int (1 : Int32))])) _
                  exact retN X173 hx (t := .boolean) Bd.returns (by simp) (hb hby at_177) hr
                · show Q_law n0 _ T173.heap _
                  rw [eq173]
                  exact ⟨rfl, N173⟩
                · show CHr Z consts_1 s.vm s.heap T173.vm T173.heap
                  first | (rw [hh, eq173]; exact CHe) | (rw [hh]; exact CHe)
set_option maxRecDepth 65536 in
set_option maxHeartbeats 3000000 in
theorem comes_1 {Post : Tables → Env → Array Value → State → Outcome → State → Prop} (hpost : ∀ tb e args s v u, (limb_1_1.after args s (.returned v) u = true ∧ limb_1_2.after args s (.returned v) u = true ∧ True) → ReturnedEndW s (.returned v) u (Jvm.fieldLocs frame_1_writes args s ++ Jvm.arrayLocs frame_1_arrays args s ++ Jvm.staticLocs frame_1_statics s) 32 1216 → Post tb e args s (.returned v) u) :
    ArmFor flags0 classFile x code maxLocals ret World_1 tables_1 room_1 Calls_1 rest_1 Pre_1 Post := by
  intro l hfl _ _ p e ha hc hk s m args below hf hA hF happ hP
  obtain ⟨hcalls, hrest, hpre⟩ := hP
  obtain ⟨-, -, -, hnamed, -, -, -, hat⟩ := (Spec.applies_iff hf).mp happ
  obtain ⟨hg, hn⟩ := and_e (Cond.before_iff.mp (show (Jvm.Cond.and given_1 narrow_1).before args s = true from hpre))
  obtain ⟨gc, g0⟩ := and_e hg
  obtain ⟨ga0, g1⟩ := and_e g0
  obtain ⟨ga1, g2⟩ := and_e g1
  obtain ⟨ga2, g3⟩ := and_e g2
  obtain ⟨w0, w1, w2, w3, rfl⟩ : ∃ w0 w1 w2 w3 : Value, args = #[w0, w1, w2, w3] := by
    have hs : args.size = 4 := by simpa [Cond.value, given_1] using gc
    obtain ⟨L⟩ := args
    match L, hs with
    | [w0, w1, w2, w3], _ => exact ⟨w0, w1, w2, w3, rfl⟩
  have hw := fun d (hd : d ∈ tables_1) => atoms_spec (ws := Jvm.Cond.code x code maxLocals ret :: tables_1) hat d (List.mem_cons_of_mem _ hd)
  have hfit : Fit s := fun {y c} hc i hi => by
    obtain ⟨ha, rfl⟩ := Array.getElem?_eq_some_iff.mp hc
    have q := List.all_eq_true.mp ((Array.all_eq_true_iff_forall_mem.mp hF) _ (Array.getElem_mem ha)) i (List.mem_range.mpr hi)
    simpa [Array.getElem?_eq_getElem hi] using q
  obtain ⟨hsets, hown0⟩ := atoms_of _ (rest_1_c_eq ▸ (show rest_1_c.before _ s = true from hrest))
  have hr0 := Cond.before_iff.mp hown0
  have nz := not_v (Cond.before_iff.mp (hsets _ (List.mem_of_getElem? (i := 2) rfl)))
  obtain ⟨G1, eG1⟩ := is_v (Cond.before_iff.mp (hsets _ (List.mem_of_getElem? (i := 1) rfl)))
  have O2 : Sta s s.heap "java/lang/String" "COMPACT_STRINGS" "Z" (.int G1) := Sta.start eG1 (Or.inl (hsets _ (List.mem_of_getElem? (i := 0) rfl)))
  have P5 : ¬ (G1 = (0 : Int32)) := gotF (Cond.eq_ints eG1 (Term.int_eval (0))) nz
  obtain ⟨G3, eG3, rG3⟩ := isR_v (Cond.before_iff.mp (hsets _ (List.mem_of_getElem? (i := 8) rfl)))
  have O4 : Sta s s.heap "jdk/internal/util/Preconditions" "SIOOBE_FORMATTER" "Ljava/util/function/BiFunction;" G3 := Sta.start eG3 (Or.inl (hsets _ (List.mem_of_getElem? (i := 7) rfl)))
  obtain ⟨i0, ei0⟩ := is_v ga0
  obtain rfl : w0 = (.int i0) := Option.some.inj ei0
  obtain ⟨i1, ei1⟩ := isL_v ga1
  obtain rfl : w1 = (.long i1) := Option.some.inj ei1
  obtain ⟨i2, ei2⟩ := isL_v ga2
  obtain rfl : w2 = (.long i2) := Option.some.inj ei2
  obtain ⟨i3, ei3⟩ := is_v g3
  obtain rfl : w3 = (.int i3) := Option.some.inj ei3
  have OA : Sta s s.heap "java/lang/StringUTF16" "$assertionsDisabled" "Z" (.int 1) := Sta.start (Cond.eq_int (hsets _ (List.mem_of_getElem? (i := 12) rfl)) rfl) (Or.inl (hsets _ (List.mem_of_getElem? (i := 11) rfl)))
  have OH : Sta s s.heap "java/lang/StringUTF16" "HI_BYTE_SHIFT" "I" (.int 0) := Sta.start (Cond.eq_int (hsets _ (List.mem_of_getElem? (i := 15) rfl)) rfl) (Or.inl (hsets _ (List.mem_of_getElem? (i := 14) rfl)))
  have OL : Sta s s.heap "java/lang/StringUTF16" "LO_BYTE_SHIFT" "I" (.int 8) := Sta.start (Cond.eq_int (hsets _ (List.mem_of_getElem? (i := 18) rfl)) rfl) (Or.inl (hsets _ (List.mem_of_getElem? (i := 17) rfl)))
  have hEW : EW s _ consts_1 := (EW.cons (hw _ (List.mem_of_getElem? (i := 24) rfl)) (by decide) EW.nil)
  have hCH : CHv s consts_1 s.vm s.heap := CHv.start hEW (fun p hp => hcalls.1 p hp) (hsets _ (List.mem_of_getElem? (i := 2) rfl)) (hw _ (List.mem_of_getElem? (i := 25) rfl)) (hw _ (List.mem_of_getElem? (i := 11) rfl))
  obtain ⟨n, o, h1, h2, h3, _, L, rfl, ⟨rfl, N⟩, hC, hq⟩ := rm_law l s _ hw hEW tables_1 i0 i1 i2 i3 G1 G3 s.heap s.heap.size (Nat.le_refl _) O2 P5 (Old.start s) O4 rG3 OA OH OL p e ha hc hk s m _ below hf ((Spec.applies_iff_loose hf).mp happ).1 ⟨rfl, State.Warmed39.refl s, rfl, hCH⟩ trivial
  refine ⟨n, _, h1, h2, h3, hpost _ _ _ _ _ _ ⟨Cond.after_iff.mpr rfl, Cond.after_iff.mpr (eq_i res_at (Term.int_eval (1)) rfl), trivial⟩ ⟨hq.1, hq.2.1, hq.2.2.1, (hq.2.2.2.sift fun y hy => Or.inr (N y hy)).mono (by decide) (by decide)⟩⟩
theorem main_1_1 : Claimed_1_1 := comes_1 fun _ _ _ _ _ _ h hF => ⟨h.1, hF⟩
theorem main_1_2 : Claimed_1_2 := comes_1 fun _ _ _ _ _ _ h hF => ⟨h.2.1, hF⟩
end Jvm.Pilot.@@N@@
namespace Jvm.Pilot.@@N@@
open Jvm Jvm.ClassFile Sem Op Lib Jvm.Free Jvm.Stand Jvm.Pilot.@@N@@.Jvm.D
/-! MADE BY PROGRAM (witnessworld.py) out of the Statement's table words and the real class files: 20 classes; the members and pool entries that the words name. The judged class is class 1, her method 1. -/
namespace start1
open Jvm.ClassFile
def u (s : String) : CpInfo := .utf8 (stringToUtf16 s)
/-- a pool by its gaps: so many unusable entries, then the entry; so many at the end -/
def gap : Nat → List CpInfo → List CpInfo
  | 0, r => r
  | n + 1, r => .unusable :: gap n r
def poolList (es : List (Nat × CpInfo)) (last : Nat) : List CpInfo := es.foldr (fun e r => gap e.1 (e.2 :: r)) (gap last [])
def pool (es : List (Nat × CpInfo)) (last : Nat) : Array CpInfo := ⟨poolList es last⟩
def fileOf (pool : Array CpInfo) (this : Nat) (attrs : Array Attribute := #[]) (ms : Array MethodInfo := #[]) (fl : Nat := 33) (sup : Nat := 0) (ifs : Array Nat := #[]) (fds : Array FieldInfo := #[]) : ClassFile where
  minorVersion := 0
  majorVersion := 65
  constantPool := pool
  accessFlags := fl
  thisClass := this
  superClass := sup
  interfaces := ifs
  fields := fds
  methods := ms
  attributes := attrs
def plain (name : String) (sup : Option ClassId) : Class where
  name := name
  kind := .ordinary
  loader := none
  accessFlags := 33
  super := sup
  interfaces := #[]
  cf := none
  fields := #[]
  methods := #[]
  instanceTypes := #[]
  staticTypes := #[]
  resolved := #[]
  callSites := []
  init := .initialized
  statics := none
  mirror := none

def pool0 : Array CpInfo := pool [(5, u "<init>"), (0, u "()V"), (1, .class_ 10), (1, u "java/lang/Object")] 113

def k0c0 : Code := { maxStack := 0, maxLocals := 1, code := object_method_1_code, exceptionTable := #[], attributes := #[] }
def k0m0 : Method := { name := "<init>", desc := "()V", sig := { parameters := [], returnType := none }, accessFlags := 1, code := some k0c0 }
/-- java/lang/Object -/
def k0 : Class := { plain "java/lang/Object" none with
  accessFlags := 33
  interfaces := #[]
  cf := some (fileOf pool0 8 #[] #[{ accessFlags := 1, nameIndex := 5, descriptorIndex := 6, attributes := #[] }] 33 0 #[] #[])
  fields := #[]
  methods := #[k0m0]
  instanceTypes := #[]
  staticTypes := #[]
  resolved := Array.replicate 124 none
  statics := none }

def pool1 : Array CpInfo := pool [(2, .class_ 4), (1, u "java/lang/Object"), (0, u "<init>"), (0, u "()V"), (0, .methodref 8 9), (0, .class_ 10), (0, .nameAndType 11 12), (0, u "com/example/sites_into_slices/sitesintoslices/identity/AsciiCaseStartsWithIgnoringCasePinLaw"), (0, u "textChar"), (0, u "(JII)C"), (0, .methodref 8 14), (0, .nameAndType 15 16), (0, u "prefixChar"), (0, u "(CJII)C"), (0, .methodref 8 18), (0, .nameAndType 19 20), (0, u "str"), (0, u "(ICCC)Ljava/lang/String;"), (0, .methodref 8 22), (0, .nameAndType 23 24), (0, u "same"), (0, u "(CC)Z"), (0, .methodref 26 27), (0, .class_ 28), (0, .nameAndType 29 30), (0, u "com/example/sites_into_slices/sitesintoslices/identity/AsciiCase"), (0, u "startsWithIgnoringCase"), (0, u "(Ljava/lang/String;Ljava/lang/String;)Z"), (0, .class_ 32), (0, u "java/lang/String"), (0, .methodref 31 34), (0, .nameAndType 5 35), (0, u "([C)V"), (2, u "law"), (0, u "(IJJI)Z")] 3

def k1m0 : Method := { name := "<init>", desc := "()V", sig := { parameters := [], returnType := none }, accessFlags := 2, code := none }
def k1c1 : Code := { maxStack := 5, maxLocals := 17, code := code, exceptionTable := #[], attributes := #[] }
def k1m1 : Method := { name := "law", desc := "(IJJI)Z", sig := { parameters := [.int, .long, .long, .int], returnType := some .boolean }, accessFlags := 9, code := some k1c1 }
def k1c2 : Code := { maxStack := 4, maxLocals := 5, code := method_3_code, exceptionTable := #[], attributes := #[] }
def k1m2 : Method := { name := "textChar", desc := "(JII)C", sig := { parameters := [.long, .int, .int], returnType := some .char }, accessFlags := 10, code := some k1c2 }
def k1c3 : Code := { maxStack := 4, maxLocals := 7, code := method_4_code, exceptionTable := #[], attributes := #[] }
def k1m3 : Method := { name := "prefixChar", desc := "(CJII)C", sig := { parameters := [.char, .long, .int, .int], returnType := some .char }, accessFlags := 10, code := some k1c3 }
def k1c4 : Code := { maxStack := 2, maxLocals := 3, code := method_5_code, exceptionTable := #[], attributes := #[] }
def k1m4 : Method := { name := "same", desc := "(CC)Z", sig := { parameters := [.char, .char], returnType := some .boolean }, accessFlags := 10, code := some k1c4 }
def k1c5 : Code := { maxStack := 6, maxLocals := 4, code := method_6_code, exceptionTable := #[], attributes := #[] }
def k1m5 : Method := { name := "str", desc := "(ICCC)Ljava/lang/String;", sig := { parameters := [.int, .char, .char, .char], returnType := some (.object "java/lang/String") }, accessFlags := 10, code := some k1c5 }
/-- com/example/sites_into_slices/sitesintoslices/identity/AsciiCaseStartsWithIgnoringCasePinLaw -/
def k1 : Class := { plain "com/example/sites_into_slices/sitesintoslices/identity/AsciiCaseStartsWithIgnoringCasePinLaw" (some 0) with
  accessFlags := 49
  interfaces := #[]
  cf := some (fileOf pool1 8 #[] #[{ accessFlags := 2, nameIndex := 5, descriptorIndex := 6, attributes := #[] }, { accessFlags := 9, nameIndex := 38, descriptorIndex := 39, attributes := #[] }, { accessFlags := 10, nameIndex := 11, descriptorIndex := 12, attributes := #[] }, { accessFlags := 10, nameIndex := 15, descriptorIndex := 16, attributes := #[] }, { accessFlags := 10, nameIndex := 23, descriptorIndex := 24, attributes := #[] }, { accessFlags := 10, nameIndex := 19, descriptorIndex := 20, attributes := #[] }] 49 2 #[] #[])
  fields := #[]
  methods := #[k1m0, k1m1, k1m2, k1m3, k1m4, k1m5]
  instanceTypes := #[]
  staticTypes := #[]
  resolved := Array.replicate 43 none
  statics := none }

def pool2 : Array CpInfo := pool [(1, .class_ 2), (0, u "java/io/Serializable"), (0, .class_ 4), (0, u "java/lang/Object")] 2

/-- java/io/Serializable -/
def k2 : Class := { plain "java/io/Serializable" (some 0) with
  accessFlags := 1537
  interfaces := #[]
  cf := some (fileOf pool2 1 #[] #[] 1537 3 #[] #[])
  fields := #[]
  methods := #[]
  instanceTypes := #[]
  staticTypes := #[]
  resolved := Array.replicate 7 none
  statics := none }

def pool3 : Array CpInfo := pool [(1, .class_ 2), (0, u "java/lang/Comparable"), (0, .class_ 4), (0, u "java/lang/Object")] 7

/-- java/lang/Comparable -/
def k3 : Class := { plain "java/lang/Comparable" (some 0) with
  accessFlags := 1537
  interfaces := #[]
  cf := some (fileOf pool3 1 #[] #[] 1537 3 #[] #[])
  fields := #[]
  methods := #[]
  instanceTypes := #[]
  staticTypes := #[]
  resolved := Array.replicate 12 none
  statics := none }

def pool4 : Array CpInfo := pool [(2, .class_ 4), (1, u "java/lang/CharSequence"), (42, .class_ 48), (0, u "java/lang/CharSequence$1CodePointIterator"), (10, .class_ 60), (0, u "java/lang/CharSequence$1CharIterator"), (5, .class_ 67), (0, u "java/lang/Object")] 63

/-- java/lang/CharSequence -/
def k4 : Class := { plain "java/lang/CharSequence" (some 0) with
  accessFlags := 1537
  interfaces := #[]
  cf := some (fileOf pool4 2 #[.nestMembers #[47, 59]] #[] 1537 66 #[] #[])
  fields := #[]
  methods := #[]
  instanceTypes := #[]
  staticTypes := #[]
  resolved := Array.replicate 131 none
  statics := none }

def pool5 : Array CpInfo := pool [(1, .class_ 2), (0, u "java/lang/constant/Constable"), (0, .class_ 4), (0, u "java/lang/Object")] 6

/-- java/lang/constant/Constable -/
def k5 : Class := { plain "java/lang/constant/Constable" (some 0) with
  accessFlags := 1537
  interfaces := #[]
  cf := some (fileOf pool5 1 #[] #[] 1537 3 #[] #[])
  fields := #[]
  methods := #[]
  instanceTypes := #[]
  staticTypes := #[]
  resolved := Array.replicate 11 none
  statics := none }

def pool6 : Array CpInfo := pool [(1, .class_ 2), (0, u "java/lang/constant/ConstantDesc"), (0, .class_ 4), (0, u "java/lang/Object")] 32

/-- java/lang/constant/ConstantDesc -/
def k6 : Class := { plain "java/lang/constant/ConstantDesc" (some 0) with
  accessFlags := 1537
  interfaces := #[]
  cf := some (fileOf pool6 1 #[] #[] 1537 3 #[] #[])
  fields := #[]
  methods := #[]
  instanceTypes := #[]
  staticTypes := #[]
  resolved := Array.replicate 37 none
  statics := none }

def pool7 : Array CpInfo := pool [(1, .methodref 2 3), (0, .class_ 4), (0, .nameAndType 5 6), (0, u "java/lang/Object"), (0, u "<init>"), (0, u "()V"), (0, .string 8), (0, u ""), (0, .fieldref 10 11), (0, .class_ 12), (0, .nameAndType 13 14), (0, u "java/lang/String"), (0, u "value"), (0, u "[B"), (0, .fieldref 10 16), (0, .nameAndType 17 18), (0, u "coder"), (0, u "B"), (2, u "hash"), (0, u "I"), (2, u "hashIsZero"), (0, u "Z"), (0, .methodref 10 28), (0, .nameAndType 5 29), (0, u "([CIILjava/lang/Void;)V"), (8, .fieldref 10 39), (0, .nameAndType 40 26), (0, u "COMPACT_STRINGS"), (1, .class_ 44), (1, u "java/lang/StringUTF16"), (0, u "compress"), (1, .methodref 42 48), (0, .nameAndType 49 50), (0, u "coderFromArrayLen"), (0, u "([BI)B"), (56, .class_ 109), (1, u "java/lang/StringLatin1"), (32, u "()Z"), (34, .methodref 42 178), (0, .nameAndType 45 179), (0, u "([CII)[B"), (154, u "()I"), (0, .methodref 10 336), (0, .nameAndType 17 337), (0, u "()B"), (25, u "([BI)C"), (27, u "(II)V"), (35, u "(I)C"), (64, .methodref 10 493), (0, .nameAndType 494 142), (0, u "isLatin1"), (0, .methodref 107 496), (0, .nameAndType 497 363), (0, u "charAt"), (0, .methodref 42 496), (2, u "checkIndex"), (5, u "length"), (67, .class_ 576), (0, u "java/lang/CharSequence"), (22, u "CASE_INSENSITIVE_ORDER"), (0, u "Ljava/util/Comparator;"), (409, u "([C)V"), (42, .fieldref 1054 1055), (0, .class_ 1056), (0, .nameAndType 1057 1058), (0, u "jdk/internal/util/Preconditions"), (0, u "SIOOBE_FORMATTER"), (0, u "Ljava/util/function/BiFunction;"), (0, .methodref 1054 1060), (0, .nameAndType 501 1061), (0, u "(IILjava/util/function/BiFunction;)I"), (39, u "serialPersistentFields"), (0, u "[Ljava/io/ObjectStreamField;"), (0, .class_ 1104), (0, u "java/lang/String$CaseInsensitiveComparator"), (1, .class_ 1107), (0, u "java/io/Serializable"), (0, .class_ 1109), (0, u "java/lang/Comparable"), (0, .class_ 1111), (0, u "java/lang/constant/Constable"), (0, .class_ 1113), (0, u "java/lang/constant/ConstantDesc"), (2, u "serialVersionUID"), (0, u "J"), (3, u "REPL"), (0, u "C"), (2, u "LATIN1"), (1, u "UTF16")] 323

def k7m0 : Method := { name := "<init>", desc := "()V", sig := { parameters := [], returnType := none }, accessFlags := 1, code := none }
def k7c1 : Code := { maxStack := 5, maxLocals := 2, code := jdk_42_method_3_code, exceptionTable := #[], attributes := #[] }
def k7m1 : Method := { name := "<init>", desc := "([C)V", sig := { parameters := [(.array .char)], returnType := none }, accessFlags := 1, code := some k7c1 }
def k7c2 : Code := { maxStack := 2, maxLocals := 1, code := jdk_42_method_54_code, exceptionTable := #[], attributes := #[] }
def k7m2 : Method := { name := "length", desc := "()I", sig := { parameters := [], returnType := some .int }, accessFlags := 1, code := some k7c2 }
def k7c3 : Code := { maxStack := 2, maxLocals := 2, code := jdk_42_method_56_code, exceptionTable := #[], attributes := #[] }
def k7m3 : Method := { name := "charAt", desc := "(I)C", sig := { parameters := [.int], returnType := some .char }, accessFlags := 1, code := some k7c3 }
def k7c4 : Code := { maxStack := 4, maxLocals := 6, code := jdk_42_method_149_code, exceptionTable := #[], attributes := #[] }
def k7m4 : Method := { name := "<init>", desc := "([CIILjava/lang/Void;)V", sig := { parameters := [(.array .char), .int, .int, (.object "java/lang/Void")], returnType := none }, accessFlags := 2, code := some k7c4 }
def k7c5 : Code := { maxStack := 1, maxLocals := 1, code := jdk_42_method_152_code, exceptionTable := #[], attributes := #[] }
def k7m5 : Method := { name := "coder", desc := "()B", sig := { parameters := [], returnType := some .byte }, accessFlags := 0, code := some k7c5 }
def k7c6 : Code := { maxStack := 1, maxLocals := 1, code := jdk_42_method_154_code, exceptionTable := #[], attributes := #[] }
def k7m6 : Method := { name := "isLatin1", desc := "()Z", sig := { parameters := [], returnType := some .boolean }, accessFlags := 0, code := some k7c6 }
def k7c7 : Code := { maxStack := 3, maxLocals := 2, code := jdk_42_method_155_code, exceptionTable := #[], attributes := #[] }
def k7m7 : Method := { name := "checkIndex", desc := "(II)V", sig := { parameters := [.int, .int], returnType := none }, accessFlags := 8, code := some k7c7 }
/-- java/lang/String -/
def k7 : Class := { plain "java/lang/String" (some 0) with
  accessFlags := 49
  interfaces := #[2, 3, 4, 5, 6]
  cf := some (fileOf pool7 10 #[.nestMembers #[1103]] #[{ accessFlags := 1, nameIndex := 5, descriptorIndex := 6, attributes := #[] }, { accessFlags := 1, nameIndex := 5, descriptorIndex := 1010, attributes := #[] }, { accessFlags := 1, nameIndex := 507, descriptorIndex := 334, attributes := #[] }, { accessFlags := 1, nameIndex := 497, descriptorIndex := 427, attributes := #[] }, { accessFlags := 2, nameIndex := 5, descriptorIndex := 29, attributes := #[] }, { accessFlags := 0, nameIndex := 17, descriptorIndex := 337, attributes := #[] }, { accessFlags := 0, nameIndex := 494, descriptorIndex := 142, attributes := #[] }, { accessFlags := 8, nameIndex := 501, descriptorIndex := 391, attributes := #[] }] 49 2 #[1106, 1108, 575, 1110, 1112] #[{ accessFlags := 18, nameIndex := 13, descriptorIndex := 14, attributes := #[] }, { accessFlags := 18, nameIndex := 17, descriptorIndex := 18, attributes := #[] }, { accessFlags := 2, nameIndex := 21, descriptorIndex := 22, attributes := #[] }, { accessFlags := 2, nameIndex := 25, descriptorIndex := 26, attributes := #[] }, { accessFlags := 26, nameIndex := 1116, descriptorIndex := 1117, attributes := #[] }, { accessFlags := 24, nameIndex := 40, descriptorIndex := 26, attributes := #[] }, { accessFlags := 26, nameIndex := 1101, descriptorIndex := 1102, attributes := #[] }, { accessFlags := 26, nameIndex := 1121, descriptorIndex := 1122, attributes := #[] }, { accessFlags := 25, nameIndex := 599, descriptorIndex := 600, attributes := #[] }, { accessFlags := 24, nameIndex := 1125, descriptorIndex := 18, attributes := #[] }, { accessFlags := 24, nameIndex := 1127, descriptorIndex := 18, attributes := #[] }])
  fields := #[{ name := "value", type := (.array .byte), accessFlags := 18, slot := 0, constantValue := 0 }, { name := "coder", type := .byte, accessFlags := 18, slot := 1, constantValue := 0 }, { name := "hash", type := .int, accessFlags := 2, slot := 2, constantValue := 0 }, { name := "hashIsZero", type := .boolean, accessFlags := 2, slot := 3, constantValue := 0 }, { name := "serialVersionUID", type := .long, accessFlags := 26, slot := 0, constantValue := 0 }, { name := "COMPACT_STRINGS", type := .boolean, accessFlags := 24, slot := 1, constantValue := 0 }, { name := "serialPersistentFields", type := (.array (.object "java/io/ObjectStreamField")), accessFlags := 26, slot := 2, constantValue := 0 }, { name := "REPL", type := .char, accessFlags := 26, slot := 3, constantValue := 0 }, { name := "CASE_INSENSITIVE_ORDER", type := (.object "java/util/Comparator"), accessFlags := 25, slot := 4, constantValue := 0 }, { name := "LATIN1", type := .byte, accessFlags := 24, slot := 5, constantValue := 0 }, { name := "UTF16", type := .byte, accessFlags := 24, slot := 6, constantValue := 0 }]
  methods := #[k7m0, k7m1, k7m2, k7m3, k7m4, k7m5, k7m6, k7m7]
  instanceTypes := #[(.array .byte), .byte, .int, .boolean]
  staticTypes := #[.long, .boolean, (.array (.object "java/io/ObjectStreamField")), .char, (.object "java/util/Comparator"), .byte, .byte]
  resolved := Array.replicate 1451 none
  statics := some 0 }

def pool8 : Array CpInfo := pool [(2, .class_ 4), (1, u "java/lang/Object"), (0, u "<init>"), (0, u "()V"), (0, .methodref 8 9), (0, .class_ 10), (0, .nameAndType 11 12), (0, u "java/lang/String"), (0, u "length"), (0, u "()I"), (1, .class_ 16), (1, u "com/example/sites_into_slices/sitesintoslices/identity/AsciiCase"), (0, u "startsWithIgnoringCase"), (0, u "(Ljava/lang/String;Ljava/lang/String;)Z"), (0, .methodref 8 20), (0, .nameAndType 21 22), (0, u "charAt"), (0, u "(I)C"), (0, .methodref 14 24), (0, .nameAndType 25 26), (0, u "toLowerCase"), (0, u "(C)C")] 6

def k8m0 : Method := { name := "<init>", desc := "()V", sig := { parameters := [], returnType := none }, accessFlags := 2, code := none }
def k8c1 : Code := { maxStack := 3, maxLocals := 4, code := prog_37_method_3_code, exceptionTable := #[], attributes := #[] }
def k8m1 : Method := { name := "startsWithIgnoringCase", desc := "(Ljava/lang/String;Ljava/lang/String;)Z", sig := { parameters := [(.object "java/lang/String"), (.object "java/lang/String")], returnType := some .boolean }, accessFlags := 9, code := some k8c1 }
def k8c2 : Code := { maxStack := 2, maxLocals := 1, code := prog_37_method_4_code, exceptionTable := #[], attributes := #[] }
def k8m2 : Method := { name := "toLowerCase", desc := "(C)C", sig := { parameters := [.char], returnType := some .char }, accessFlags := 10, code := some k8c2 }
/-- com/example/sites_into_slices/sitesintoslices/identity/AsciiCase -/
def k8 : Class := { plain "com/example/sites_into_slices/sitesintoslices/identity/AsciiCase" (some 0) with
  accessFlags := 33
  interfaces := #[]
  cf := some (fileOf pool8 14 #[] #[{ accessFlags := 2, nameIndex := 5, descriptorIndex := 6, attributes := #[] }, { accessFlags := 9, nameIndex := 17, descriptorIndex := 18, attributes := #[] }, { accessFlags := 10, nameIndex := 25, descriptorIndex := 26, attributes := #[] }] 33 2 #[] #[])
  fields := #[]
  methods := #[k8m0, k8m1, k8m2]
  instanceTypes := #[]
  staticTypes := #[]
  resolved := Array.replicate 33 none
  statics := none }

def pool9 : Array CpInfo := pool [(3, .class_ 4), (0, u "java/lang/String"), (1, .class_ 8), (1, u "java/lang/Object"), (0, u "<init>"), (0, u "()V"), (0, .methodref 12 13), (0, .class_ 14), (0, .nameAndType 15 16), (0, u "java/lang/StringUTF16"), (0, u "newBytesLength"), (0, u "(I)I"), (3, .integer 1073741823), (23, .fieldref 12 45), (0, .nameAndType 46 47), (0, u "$assertionsDisabled"), (0, u "Z"), (0, .methodref 12 49), (0, .nameAndType 50 51), (0, u "length"), (0, u "([B)I"), (7, .fieldref 12 60), (0, .nameAndType 61 62), (0, u "HI_BYTE_SHIFT"), (0, u "I"), (0, .fieldref 12 64), (0, .nameAndType 65 62), (0, u "LO_BYTE_SHIFT"), (1, .methodref 12 68), (0, .nameAndType 69 70), (0, u "checkIndex"), (0, u "(I[B)V"), (0, .methodref 12 72), (0, .nameAndType 73 74), (0, u "getChar"), (0, u "([BI)C"), (32, .methodref 12 108), (0, .nameAndType 109 110), (0, u "newBytesFor"), (0, u "(I)[B"), (0, .methodref 12 112), (0, .nameAndType 113 114), (0, u "putChar"), (0, u "([BII)V"), (0, .methodref 12 116), (0, .nameAndType 117 118), (0, u "compress"), (0, u "([CI[BII)I"), (0, .methodref 12 120), (0, .nameAndType 121 122), (0, u "toBytes"), (0, u "([CII)[B"), (138, u "coderFromArrayLen"), (0, u "([BI)B"), (106, .class_ 371), (1, u "java/lang/StringUTF16$LinesSpliterator"), (20, u "charAt"), (21, .methodref 3 415), (0, .nameAndType 69 416), (0, u "(II)V"), (13, u "MAX_LENGTH"), (196, .class_ 628), (0, u "java/lang/StringUTF16$CodePointsSpliterator"), (0, .class_ 630), (0, u "java/lang/StringUTF16$CharsSpliterator")] 4

def k9m0 : Method := { name := "<init>", desc := "()V", sig := { parameters := [], returnType := none }, accessFlags := 0, code := none }
def k9c1 : Code := { maxStack := 1, maxLocals := 1, code := jdk_52_method_2_code, exceptionTable := #[], attributes := #[] }
def k9m1 : Method := { name := "newBytesFor", desc := "(I)[B", sig := { parameters := [.int], returnType := some (.array .byte) }, accessFlags := 9, code := some k9c1 }
def k9c2 : Code := { maxStack := 4, maxLocals := 1, code := jdk_52_method_3_code, exceptionTable := #[], attributes := #[] }
def k9m2 : Method := { name := "newBytesLength", desc := "(I)I", sig := { parameters := [.int], returnType := some .int }, accessFlags := 9, code := some k9c2 }
def k9c3 : Code := { maxStack := 4, maxLocals := 3, code := jdk_52_method_4_code, exceptionTable := #[], attributes := #[] }
def k9m3 : Method := { name := "putChar", desc := "([BII)V", sig := { parameters := [(.array .byte), .int, .int], returnType := none }, accessFlags := 8, code := some k9c3 }
def k9c4 : Code := { maxStack := 3, maxLocals := 2, code := jdk_52_method_5_code, exceptionTable := #[], attributes := #[] }
def k9m4 : Method := { name := "getChar", desc := "([BI)C", sig := { parameters := [(.array .byte), .int], returnType := some .char }, accessFlags := 8, code := some k9c4 }
def k9c5 : Code := { maxStack := 2, maxLocals := 1, code := jdk_52_method_6_code, exceptionTable := #[], attributes := #[] }
def k9m5 : Method := { name := "length", desc := "([B)I", sig := { parameters := [(.array .byte)], returnType := some .int }, accessFlags := 9, code := some k9c5 }
def k9c6 : Code := { maxStack := 4, maxLocals := 5, code := jdk_52_method_14_code, exceptionTable := #[], attributes := #[] }
def k9m6 : Method := { name := "toBytes", desc := "([CII)[B", sig := { parameters := [(.array .char), .int, .int], returnType := some (.array .byte) }, accessFlags := 9, code := some k9c6 }
def k9c7 : Code := { maxStack := 2, maxLocals := 2, code := jdk_52_method_15_code, exceptionTable := #[], attributes := #[] }
def k9m7 : Method := { name := "coderFromArrayLen", desc := "([BI)B", sig := { parameters := [(.array .byte), .int], returnType := some .byte }, accessFlags := 8, code := some k9c7 }
def k9c8 : Code := { maxStack := 5, maxLocals := 6, code := jdk_52_method_16_code, exceptionTable := #[], attributes := #[] }
def k9m8 : Method := { name := "compress", desc := "([CII)[B", sig := { parameters := [(.array .char), .int, .int], returnType := some (.array .byte) }, accessFlags := 9, code := some k9c8 }
def k9c9 : Code := { maxStack := 3, maxLocals := 7, code := jdk_52_method_21_code, exceptionTable := #[], attributes := #[] }
def k9m9 : Method := { name := "compress", desc := "([CI[BII)I", sig := { parameters := [(.array .char), .int, (.array .byte), .int, .int], returnType := some .int }, accessFlags := 9, code := some k9c9 }
def k9c10 : Code := { maxStack := 2, maxLocals := 2, code := jdk_52_method_83_code, exceptionTable := #[], attributes := #[] }
def k9m10 : Method := { name := "charAt", desc := "([BI)C", sig := { parameters := [(.array .byte), .int], returnType := some .char }, accessFlags := 9, code := some k9c10 }
def k9c11 : Code := { maxStack := 2, maxLocals := 2, code := jdk_52_method_91_code, exceptionTable := #[], attributes := #[] }
def k9m11 : Method := { name := "checkIndex", desc := "(I[B)V", sig := { parameters := [.int, (.array .byte)], returnType := none }, accessFlags := 9, code := some k9c11 }
/-- java/lang/StringUTF16 -/
def k9 : Class := { plain "java/lang/StringUTF16" (some 0) with
  accessFlags := 48
  interfaces := #[]
  cf := some (fileOf pool9 12 #[.nestMembers #[627, 629, 369]] #[{ accessFlags := 0, nameIndex := 9, descriptorIndex := 10, attributes := #[] }, { accessFlags := 9, nameIndex := 109, descriptorIndex := 110, attributes := #[] }, { accessFlags := 9, nameIndex := 15, descriptorIndex := 16, attributes := #[] }, { accessFlags := 8, nameIndex := 113, descriptorIndex := 114, attributes := #[] }, { accessFlags := 8, nameIndex := 73, descriptorIndex := 74, attributes := #[] }, { accessFlags := 9, nameIndex := 50, descriptorIndex := 51, attributes := #[] }, { accessFlags := 9, nameIndex := 121, descriptorIndex := 122, attributes := #[] }, { accessFlags := 8, nameIndex := 261, descriptorIndex := 262, attributes := #[] }, { accessFlags := 9, nameIndex := 117, descriptorIndex := 122, attributes := #[] }, { accessFlags := 9, nameIndex := 117, descriptorIndex := 118, attributes := #[] }, { accessFlags := 9, nameIndex := 392, descriptorIndex := 74, attributes := #[] }, { accessFlags := 9, nameIndex := 69, descriptorIndex := 70, attributes := #[] }] 48 6 #[] #[{ accessFlags := 26, nameIndex := 61, descriptorIndex := 62, attributes := #[] }, { accessFlags := 26, nameIndex := 65, descriptorIndex := 62, attributes := #[] }, { accessFlags := 24, nameIndex := 430, descriptorIndex := 62, attributes := #[] }, { accessFlags := 4120, nameIndex := 46, descriptorIndex := 47, attributes := #[] }])
  fields := #[{ name := "HI_BYTE_SHIFT", type := .int, accessFlags := 26, slot := 0, constantValue := 0 }, { name := "LO_BYTE_SHIFT", type := .int, accessFlags := 26, slot := 1, constantValue := 0 }, { name := "MAX_LENGTH", type := .int, accessFlags := 24, slot := 2, constantValue := 0 }, { name := "$assertionsDisabled", type := .boolean, accessFlags := 4120, slot := 3, constantValue := 0 }]
  methods := #[k9m0, k9m1, k9m2, k9m3, k9m4, k9m5, k9m6, k9m7, k9m8, k9m9, k9m10, k9m11]
  instanceTypes := #[]
  staticTypes := #[.int, .int, .int, .boolean]
  resolved := Array.replicate 635 none
  statics := some 1 }

def pool10 : Array CpInfo := pool [(1, .class_ 2), (0, u "java/lang/String"), (1, .class_ 6), (1, u "java/lang/Object"), (0, u "<init>"), (0, u "()V"), (0, .methodref 1 10), (0, .nameAndType 11 12), (0, u "checkIndex"), (0, u "(II)V"), (1, .class_ 16), (1, u "java/lang/StringLatin1"), (36, u "([BI)C"), (67, u "$assertionsDisabled"), (0, u "Z"), (98, .class_ 223), (1, u "java/lang/StringLatin1$LinesSpliterator"), (28, u "charAt"), (137, .class_ 391), (0, u "java/lang/StringLatin1$CharsSpliterator")] 3

def k10m0 : Method := { name := "<init>", desc := "()V", sig := { parameters := [], returnType := none }, accessFlags := 0, code := none }
def k10c1 : Code := { maxStack := 2, maxLocals := 2, code := jdk_43_method_2_code, exceptionTable := #[], attributes := #[] }
def k10m1 : Method := { name := "charAt", desc := "([BI)C", sig := { parameters := [(.array .byte), .int], returnType := some .char }, accessFlags := 9, code := some k10c1 }
/-- java/lang/StringLatin1 -/
def k10 : Class := { plain "java/lang/StringLatin1" (some 0) with
  accessFlags := 48
  interfaces := #[]
  cf := some (fileOf pool10 14 #[.nestMembers #[390, 221]] #[{ accessFlags := 0, nameIndex := 7, descriptorIndex := 8, attributes := #[] }, { accessFlags := 9, nameIndex := 252, descriptorIndex := 53, attributes := #[] }] 48 4 #[] #[{ accessFlags := 4120, nameIndex := 121, descriptorIndex := 122, attributes := #[] }])
  fields := #[{ name := "$assertionsDisabled", type := .boolean, accessFlags := 4120, slot := 0, constantValue := 0 }]
  methods := #[k10m0, k10m1]
  instanceTypes := #[]
  staticTypes := #[.boolean]
  resolved := Array.replicate 395 none
  statics := none }

def pool11 : Array CpInfo := pool [(2, .class_ 4), (1, u "java/lang/Object"), (0, u "<init>"), (0, u "()V"), (17, .class_ 26), (1, u "jdk/internal/util/Preconditions"), (6, u "checkIndex"), (21, .class_ 56), (0, u "jdk/internal/util/Preconditions$4"), (57, .class_ 115), (0, u "jdk/internal/util/Preconditions$1"), (7, u "SIOOBE_FORMATTER"), (0, u "Ljava/util/function/BiFunction;"), (0, .class_ 126), (0, u "jdk/internal/util/Preconditions$2"), (3, u "AIOOBE_FORMATTER"), (0, .class_ 132), (0, u "jdk/internal/util/Preconditions$3"), (3, u "IOOBE_FORMATTER"), (41, u "(IILjava/util/function/BiFunction;)I")] 15

def k11m0 : Method := { name := "<init>", desc := "()V", sig := { parameters := [], returnType := none }, accessFlags := 1, code := none }
def k11c1 : Code := { maxStack := 3, maxLocals := 3, code := jdk_41_method_11_code, exceptionTable := #[], attributes := #[] }
def k11m1 : Method := { name := "checkIndex", desc := "(IILjava/util/function/BiFunction;)I", sig := { parameters := [.int, .int, (.object "java/util/function/BiFunction")], returnType := some .int }, accessFlags := 9, code := some k11c1 }
/-- jdk/internal/util/Preconditions -/
def k11 : Class := { plain "jdk/internal/util/Preconditions" (some 0) with
  accessFlags := 33
  interfaces := #[]
  cf := some (fileOf pool11 24 #[.nestMembers #[55, 131, 125, 114]] #[{ accessFlags := 1, nameIndex := 5, descriptorIndex := 6, attributes := #[] }, { accessFlags := 9, nameIndex := 33, descriptorIndex := 178, attributes := #[] }] 33 2 #[] #[{ accessFlags := 25, nameIndex := 123, descriptorIndex := 124, attributes := #[] }, { accessFlags := 25, nameIndex := 130, descriptorIndex := 124, attributes := #[] }, { accessFlags := 25, nameIndex := 136, descriptorIndex := 124, attributes := #[] }])
  fields := #[{ name := "SIOOBE_FORMATTER", type := (.object "java/util/function/BiFunction"), accessFlags := 25, slot := 0, constantValue := 0 }, { name := "AIOOBE_FORMATTER", type := (.object "java/util/function/BiFunction"), accessFlags := 25, slot := 1, constantValue := 0 }, { name := "IOOBE_FORMATTER", type := (.object "java/util/function/BiFunction"), accessFlags := 25, slot := 2, constantValue := 0 }]
  methods := #[k11m0, k11m1]
  instanceTypes := #[]
  staticTypes := #[(.object "java/util/function/BiFunction"), (.object "java/util/function/BiFunction"), (.object "java/util/function/BiFunction")]
  resolved := Array.replicate 194 none
  statics := some 2 }

def pool12 : Array CpInfo := pool [(9, u "<init>"), (6, .class_ 18), (1, u "java/lang/Object"), (0, u "()V"), (1, .class_ 23), (1, u "jdk/internal/util/ArraysSupport"), (0, u "LOG2_ARRAY_LONG_INDEX_SCALE"), (0, u "I"), (2, u "U"), (0, u "Ljdk/internal/misc/Unsafe;"), (8, u "BIG_ENDIAN"), (0, u "Z"), (8, u "LOG2_BYTE_BIT_SIZE"), (4, u "LOG2_ARRAY_INT_INDEX_SCALE"), (54, u "JLA"), (0, u "Ljdk/internal/access/JavaLangAccess;"), (11, u "LOG2_ARRAY_BOOLEAN_INDEX_SCALE"), (9, u "LOG2_ARRAY_BYTE_INDEX_SCALE"), (5, u "LOG2_ARRAY_CHAR_INDEX_SCALE"), (5, u "LOG2_ARRAY_SHORT_INDEX_SCALE"), (18, u "LOG2_ARRAY_FLOAT_INDEX_SCALE"), (24, u "LOG2_ARRAY_DOUBLE_INDEX_SCALE"), (89, u "T_BOOLEAN"), (2, u "T_CHAR"), (1, u "T_FLOAT"), (1, u "T_DOUBLE"), (1, u "T_BYTE"), (1, u "T_SHORT"), (1, u "T_INT"), (1, u "T_LONG"), (1, u "SOFT_MAX_ARRAY_LENGTH")] 83

def k12m0 : Method := { name := "<init>", desc := "()V", sig := { parameters := [], returnType := none }, accessFlags := 2, code := none }
/-- jdk/internal/util/ArraysSupport -/
def k12 : Class := { plain "jdk/internal/util/ArraysSupport" (some 0) with
  accessFlags := 33
  interfaces := #[]
  cf := some (fileOf pool12 21 #[] #[{ accessFlags := 2, nameIndex := 9, descriptorIndex := 19, attributes := #[] }] 33 16 #[] #[{ accessFlags := 24, nameIndex := 28, descriptorIndex := 29, attributes := #[] }, { accessFlags := 26, nameIndex := 38, descriptorIndex := 39, attributes := #[] }, { accessFlags := 25, nameIndex := 121, descriptorIndex := 25, attributes := #[] }, { accessFlags := 25, nameIndex := 131, descriptorIndex := 25, attributes := #[] }, { accessFlags := 25, nameIndex := 137, descriptorIndex := 25, attributes := #[] }, { accessFlags := 25, nameIndex := 143, descriptorIndex := 25, attributes := #[] }, { accessFlags := 25, nameIndex := 53, descriptorIndex := 25, attributes := #[] }, { accessFlags := 25, nameIndex := 24, descriptorIndex := 25, attributes := #[] }, { accessFlags := 25, nameIndex := 162, descriptorIndex := 25, attributes := #[] }, { accessFlags := 25, nameIndex := 187, descriptorIndex := 25, attributes := #[] }, { accessFlags := 26, nameIndex := 48, descriptorIndex := 25, attributes := #[] }, { accessFlags := 25, nameIndex := 277, descriptorIndex := 25, attributes := #[] }, { accessFlags := 25, nameIndex := 280, descriptorIndex := 25, attributes := #[] }, { accessFlags := 25, nameIndex := 282, descriptorIndex := 25, attributes := #[] }, { accessFlags := 25, nameIndex := 284, descriptorIndex := 25, attributes := #[] }, { accessFlags := 25, nameIndex := 286, descriptorIndex := 25, attributes := #[] }, { accessFlags := 25, nameIndex := 288, descriptorIndex := 25, attributes := #[] }, { accessFlags := 25, nameIndex := 290, descriptorIndex := 25, attributes := #[] }, { accessFlags := 25, nameIndex := 292, descriptorIndex := 25, attributes := #[] }, { accessFlags := 26, nameIndex := 108, descriptorIndex := 109, attributes := #[] }, { accessFlags := 25, nameIndex := 294, descriptorIndex := 25, attributes := #[] }])
  fields := #[{ name := "U", type := (.object "jdk/internal/misc/Unsafe"), accessFlags := 24, slot := 0, constantValue := 0 }, { name := "BIG_ENDIAN", type := .boolean, accessFlags := 26, slot := 1, constantValue := 0 }, { name := "LOG2_ARRAY_BOOLEAN_INDEX_SCALE", type := .int, accessFlags := 25, slot := 2, constantValue := 0 }, { name := "LOG2_ARRAY_BYTE_INDEX_SCALE", type := .int, accessFlags := 25, slot := 3, constantValue := 0 }, { name := "LOG2_ARRAY_CHAR_INDEX_SCALE", type := .int, accessFlags := 25, slot := 4, constantValue := 0 }, { name := "LOG2_ARRAY_SHORT_INDEX_SCALE", type := .int, accessFlags := 25, slot := 5, constantValue := 0 }, { name := "LOG2_ARRAY_INT_INDEX_SCALE", type := .int, accessFlags := 25, slot := 6, constantValue := 0 }, { name := "LOG2_ARRAY_LONG_INDEX_SCALE", type := .int, accessFlags := 25, slot := 7, constantValue := 0 }, { name := "LOG2_ARRAY_FLOAT_INDEX_SCALE", type := .int, accessFlags := 25, slot := 8, constantValue := 0 }, { name := "LOG2_ARRAY_DOUBLE_INDEX_SCALE", type := .int, accessFlags := 25, slot := 9, constantValue := 0 }, { name := "LOG2_BYTE_BIT_SIZE", type := .int, accessFlags := 26, slot := 10, constantValue := 0 }, { name := "T_BOOLEAN", type := .int, accessFlags := 25, slot := 11, constantValue := 0 }, { name := "T_CHAR", type := .int, accessFlags := 25, slot := 12, constantValue := 0 }, { name := "T_FLOAT", type := .int, accessFlags := 25, slot := 13, constantValue := 0 }, { name := "T_DOUBLE", type := .int, accessFlags := 25, slot := 14, constantValue := 0 }, { name := "T_BYTE", type := .int, accessFlags := 25, slot := 15, constantValue := 0 }, { name := "T_SHORT", type := .int, accessFlags := 25, slot := 16, constantValue := 0 }, { name := "T_INT", type := .int, accessFlags := 25, slot := 17, constantValue := 0 }, { name := "T_LONG", type := .int, accessFlags := 25, slot := 18, constantValue := 0 }, { name := "JLA", type := (.object "jdk/internal/access/JavaLangAccess"), accessFlags := 26, slot := 19, constantValue := 0 }, { name := "SOFT_MAX_ARRAY_LENGTH", type := .int, accessFlags := 25, slot := 20, constantValue := 0 }]
  methods := #[k12m0]
  instanceTypes := #[]
  staticTypes := #[(.object "jdk/internal/misc/Unsafe"), .boolean, .int, .int, .int, .int, .int, .int, .int, .int, .int, .int, .int, .int, .int, .int, .int, .int, .int, (.object "jdk/internal/access/JavaLangAccess"), .int]
  resolved := Array.replicate 378 none
  statics := none }

def pool13 : Array CpInfo := pool [(1, u "java/lang/Cloneable"), (0, .class_ 1), (0, u "java/lang/Object"), (0, .class_ 3)] 3

/-- java/lang/Cloneable -/
def k13 : Class := { plain "java/lang/Cloneable" (some 0) with
  accessFlags := 1537
  interfaces := #[]
  cf := some (fileOf pool13 2 #[] #[] 1537 4 #[] #[])
  fields := #[]
  methods := #[]
  instanceTypes := #[]
  staticTypes := #[]
  resolved := Array.replicate 8 none
  statics := none }

/-- the primitive byte -/
def k14 : Class := { plain "byte" none with kind := .primitive 'B', accessFlags := 0x411 }
/-- [B -/
def k15 : Class := { plain "[B" (some 0) with kind := .array 14 .byte, interfaces := #[13, 2], accessFlags := 1041 }

/-- the primitive char -/
def k16 : Class := { plain "char" none with kind := .primitive 'C', accessFlags := 0x411 }
/-- [C -/
def k17 : Class := { plain "[C" (some 0) with kind := .array 16 .char, interfaces := #[13, 2], accessFlags := 1041 }

/-- the primitive int -/
def k18 : Class := { plain "int" none with kind := .primitive 'I', accessFlags := 0x411 }
/-- [I -/
def k19 : Class := { plain "[I" (some 0) with kind := .array 18 .int, interfaces := #[13, 2], accessFlags := 1041 }

def heap : Heap := #[{ cls := 7, slots := #[.long 0, .int 1, .null, .int 0, .null, .int 0, .int 0], vm := .statics 7 },
  { cls := 9, slots := #[.int 0, .int 8, .int 0, .int 1], vm := .statics 9 },
  { cls := 11, slots := #[.null, .null, .null], vm := .statics 11 }]
def classes : Array Class := #[k0, k1, k2, k3, k4, k5, k6, k7, k8, k9, k10, k11, k12, k13, k14, k15, k16, k17, k18, k19]
def interned : List (Array UInt16 × Addr) := []
def slotsUsed : Nat := 14
def theMethod : MethodId := ⟨1, 1⟩
def args0 : Array Value := #[.int 5, .long 6, .long 7, .int 8]
def aboutOver (below : List Frame) : State where
  vm := { classes := classes, interned := interned.toArray }
  heap := heap
  slotsUsed := slotsUsed
  threads := #[{ frames := .invoking theMethod args0 :: below }]
def below0 : List Frame := [.native { method := ⟨0, 0⟩, args := #[] }]
def about1 : State := aboutOver below0
def p0 : Program := .bare "" "" ""
def e0 : Env := launch0.env 0 0 0
theorem w_frames : about1.frames = Frame.invoking theMethod args0 :: below0 := rfl
set_option maxRecDepth 65536 in
theorem w_args : argsFit about1.vm theMethod args0 = true := by decide +kernel
set_option maxRecDepth 65536 in
theorem w_heap : heapFits about1 = true := by decide +kernel
set_option maxRecDepth 65536 in
theorem w_runnable : about1.curStatus? = some .runnable := by decide +kernel
set_option maxRecDepth 65536 in
theorem w_alone : about1.alone = true := by decide +kernel
set_option maxRecDepth 65536 in
theorem w_named : about1.methodNamed? x = some theMethod := by decide +kernel
set_option maxRecDepth 65536 in
theorem w_hears : about1.hears theMethod below0 = true := by decide +kernel
set_option maxRecDepth 65536 in
theorem w_ripe : about1.ripe theMethod args0 below0 = true := by decide +kernel
theorem w_running : about1.status = .running := rfl
set_option maxRecDepth 65536 in
theorem w_room : about1.hasRoom e0.platform room_1 = true :=
  launch0.hasRoom_least _ room_1 (by decide +kernel) (by decide +kernel) (by decide +kernel) (by decide +kernel) (by decide +kernel) (by decide +kernel)
theorem allAtoms_all (ts : List Jvm.Cond) (a : Array Jvm.Value) (st : Jvm.State) : (allAtoms ts).before a st = ts.all (fun c => c.before a st) := by
  induction ts with
  | nil => rfl
  | cons c t ih =>
    show (Jvm.Cond.and c (allAtoms t)).before a st = _
    rw [Jvm.Cond.before_and, ih, List.all_cons]
def words1 : List Jvm.Cond := Jvm.Cond.code x code maxLocals ret :: tables_1
/-- a 'code' word, met by the world's own term for the bytes: nothing is compared byte by byte -/
theorem code_word {y : MethodName} {bytes : ByteArray} {mx : Nat} {rt : Option FieldType} {a : Array Value} {s : State} {m : MethodId} {meth : Method} {c : Code} (h1 : s.methodNamed? y = some m) (h2 : s.vm.method? m = some meth) (h3 : meth.code = some c) (h4 : c.code = bytes)
    (h5 : (c.maxLocals == mx && c.exceptionTable.isEmpty && decide (c.maxStack ≤ mostOperands) && decide (meth.sig.returnType = rt) && !meth.locks && decide (parseMethodDescriptor y.desc = some meth.sig)) = true) : (Jvm.Cond.code y bytes mx rt).before a s = true := by
  simp only [Bool.and_eq_true, beq_iff_eq, Bool.not_eq_true', decide_eq_true_eq] at h5
  obtain ⟨⟨⟨⟨⟨g1, g2⟩, g3⟩, g4⟩, g5⟩, g6⟩ := h5
  simp [Cond.before, Cond.holds, Cond.value, h1, h2, h3, h4, g1, g2, g3, g4, g5, g6]
def isCode : Jvm.Cond → Bool
  | .code _ _ _ _ => true
  | _ => false
theorem all_split {L : List Jvm.Cond} {P : Jvm.Cond → Bool} (h1 : L.all (fun c => isCode c || P c) = true) (h2 : ∀ c ∈ L.filter isCode, P c = true) : L.all P = true := by
  refine List.all_eq_true.mpr fun c hc => ?_
  have h := List.all_eq_true.mp h1 c hc
  rcases Bool.eq_false_or_eq_true (isCode c) with hi | hi
  · exact h2 c (List.mem_filter.mpr ⟨hc, hi⟩)
  · simpa [hi] using h
set_option maxRecDepth 65536 in
theorem w_c0 : (Jvm.Cond.code x code maxLocals ret).before args0 about1 = true := code_word (m := ⟨1, 1⟩) (meth := k1m1) (c := k1c1) (by decide +kernel) rfl rfl rfl (by decide +kernel)
set_option maxRecDepth 65536 in
theorem w_c1 : (Jvm.Cond.code ({ cls := "com/example/sites_into_slices/sitesintoslices/identity/AsciiCaseStartsWithIgnoringCasePinLaw", name := "textChar", desc := "(JII)C" } : Jvm.MethodName) method_3_code (5 : Nat) (Option.some Jvm.ClassFile.FieldType.char)).before args0 about1 = true := code_word (m := ⟨1, 2⟩) (meth := k1m2) (c := k1c2) (by decide +kernel) rfl rfl rfl (by decide +kernel)
set_option maxRecDepth 65536 in
theorem w_c2 : (Jvm.Cond.code ({ cls := "com/example/sites_into_slices/sitesintoslices/identity/AsciiCaseStartsWithIgnoringCasePinLaw", name := "prefixChar", desc := "(CJII)C" } : Jvm.MethodName) method_4_code (7 : Nat) (Option.some Jvm.ClassFile.FieldType.char)).before args0 about1 = true := code_word (m := ⟨1, 3⟩) (meth := k1m3) (c := k1c3) (by decide +kernel) rfl rfl rfl (by decide +kernel)
set_option maxRecDepth 65536 in
theorem w_c3 : (Jvm.Cond.code ({ cls := "com/example/sites_into_slices/sitesintoslices/identity/AsciiCaseStartsWithIgnoringCasePinLaw", name := "str", desc := "(ICCC)Ljava/lang/String;" } : Jvm.MethodName) method_6_code (4 : Nat) (Option.some (Jvm.ClassFile.FieldType.object "java/lang/String"))).before args0 about1 = true := code_word (m := ⟨1, 5⟩) (meth := k1m5) (c := k1c5) (by decide +kernel) rfl rfl rfl (by decide +kernel)
set_option maxRecDepth 65536 in
theorem w_c4 : (Jvm.Cond.code ({ cls := "java/lang/String", name := "<init>", desc := "([C)V" } : Jvm.MethodName) jdk_42_method_3_code (2 : Nat) (Option.none : Option Jvm.ClassFile.FieldType)).before args0 about1 = true := code_word (m := ⟨7, 1⟩) (meth := k7m1) (c := k7c1) (by decide +kernel) rfl rfl rfl (by decide +kernel)
set_option maxRecDepth 65536 in
theorem w_c5 : (Jvm.Cond.code ({ cls := "java/lang/String", name := "<init>", desc := "([CIILjava/lang/Void;)V" } : Jvm.MethodName) jdk_42_method_149_code (6 : Nat) (Option.none : Option Jvm.ClassFile.FieldType)).before args0 about1 = true := code_word (m := ⟨7, 4⟩) (meth := k7m4) (c := k7c4) (by decide +kernel) rfl rfl rfl (by decide +kernel)
set_option maxRecDepth 65536 in
theorem w_c6 : (Jvm.Cond.code ({ cls := "java/lang/Object", name := "<init>", desc := "()V" } : Jvm.MethodName) object_method_1_code (1 : Nat) (Option.none : Option Jvm.ClassFile.FieldType)).before args0 about1 = true := code_word (m := ⟨0, 0⟩) (meth := k0m0) (c := k0c0) (by decide +kernel) rfl rfl rfl (by decide +kernel)
set_option maxRecDepth 65536 in
theorem w_c7 : (Jvm.Cond.code ({ cls := "com/example/sites_into_slices/sitesintoslices/identity/AsciiCase", name := "startsWithIgnoringCase", desc := "(Ljava/lang/String;Ljava/lang/String;)Z" } : Jvm.MethodName) prog_37_method_3_code (4 : Nat) (Option.some Jvm.ClassFile.FieldType.boolean)).before args0 about1 = true := code_word (m := ⟨8, 1⟩) (meth := k8m1) (c := k8c1) (by decide +kernel) rfl rfl rfl (by decide +kernel)
set_option maxRecDepth 65536 in
theorem w_c8 : (Jvm.Cond.code ({ cls := "java/lang/String", name := "length", desc := "()I" } : Jvm.MethodName) jdk_42_method_54_code (1 : Nat) (Option.some Jvm.ClassFile.FieldType.int)).before args0 about1 = true := code_word (m := ⟨7, 2⟩) (meth := k7m2) (c := k7c2) (by decide +kernel) rfl rfl rfl (by decide +kernel)
set_option maxRecDepth 65536 in
theorem w_c9 : (Jvm.Cond.code ({ cls := "java/lang/String", name := "coder", desc := "()B" } : Jvm.MethodName) jdk_42_method_152_code (1 : Nat) (Option.some Jvm.ClassFile.FieldType.byte)).before args0 about1 = true := code_word (m := ⟨7, 5⟩) (meth := k7m5) (c := k7c5) (by decide +kernel) rfl rfl rfl (by decide +kernel)
set_option maxRecDepth 65536 in
theorem w_c10 : (Jvm.Cond.code ({ cls := "java/lang/StringUTF16", name := "compress", desc := "([CII)[B" } : Jvm.MethodName) jdk_52_method_16_code (6 : Nat) (Option.some (Jvm.ClassFile.FieldType.array Jvm.ClassFile.FieldType.byte))).before args0 about1 = true := code_word (m := ⟨9, 8⟩) (meth := k9m8) (c := k9c8) (by decide +kernel) rfl rfl rfl (by decide +kernel)
set_option maxRecDepth 65536 in
theorem w_c11 : (Jvm.Cond.code ({ cls := "java/lang/StringUTF16", name := "compress", desc := "([CI[BII)I" } : Jvm.MethodName) jdk_52_method_21_code (7 : Nat) (Option.some Jvm.ClassFile.FieldType.int)).before args0 about1 = true := code_word (m := ⟨9, 9⟩) (meth := k9m9) (c := k9c9) (by decide +kernel) rfl rfl rfl (by decide +kernel)
set_option maxRecDepth 65536 in
theorem w_c12 : (Jvm.Cond.code ({ cls := "java/lang/StringUTF16", name := "coderFromArrayLen", desc := "([BI)B" } : Jvm.MethodName) jdk_52_method_15_code (2 : Nat) (Option.some Jvm.ClassFile.FieldType.byte)).before args0 about1 = true := code_word (m := ⟨9, 7⟩) (meth := k9m7) (c := k9c7) (by decide +kernel) rfl rfl rfl (by decide +kernel)
set_option maxRecDepth 65536 in
theorem w_c13 : (Jvm.Cond.code ({ cls := "java/lang/StringUTF16", name := "toBytes", desc := "([CII)[B" } : Jvm.MethodName) jdk_52_method_14_code (5 : Nat) (Option.some (Jvm.ClassFile.FieldType.array Jvm.ClassFile.FieldType.byte))).before args0 about1 = true := code_word (m := ⟨9, 6⟩) (meth := k9m6) (c := k9c6) (by decide +kernel) rfl rfl rfl (by decide +kernel)
set_option maxRecDepth 65536 in
theorem w_c14 : (Jvm.Cond.code ({ cls := "java/lang/StringUTF16", name := "newBytesFor", desc := "(I)[B" } : Jvm.MethodName) jdk_52_method_2_code (1 : Nat) (Option.some (Jvm.ClassFile.FieldType.array Jvm.ClassFile.FieldType.byte))).before args0 about1 = true := code_word (m := ⟨9, 1⟩) (meth := k9m1) (c := k9c1) (by decide +kernel) rfl rfl rfl (by decide +kernel)
set_option maxRecDepth 65536 in
theorem w_c15 : (Jvm.Cond.code ({ cls := "java/lang/StringUTF16", name := "newBytesLength", desc := "(I)I" } : Jvm.MethodName) jdk_52_method_3_code (1 : Nat) (Option.some Jvm.ClassFile.FieldType.int)).before args0 about1 = true := code_word (m := ⟨9, 2⟩) (meth := k9m2) (c := k9c2) (by decide +kernel) rfl rfl rfl (by decide +kernel)
set_option maxRecDepth 65536 in
theorem w_c16 : (Jvm.Cond.code ({ cls := "java/lang/StringUTF16", name := "putChar", desc := "([BII)V" } : Jvm.MethodName) jdk_52_method_4_code (3 : Nat) (Option.none : Option Jvm.ClassFile.FieldType)).before args0 about1 = true := code_word (m := ⟨9, 3⟩) (meth := k9m3) (c := k9c3) (by decide +kernel) rfl rfl rfl (by decide +kernel)
set_option maxRecDepth 65536 in
theorem w_c17 : (Jvm.Cond.code ({ cls := "java/lang/StringUTF16", name := "getChar", desc := "([BI)C" } : Jvm.MethodName) jdk_52_method_5_code (2 : Nat) (Option.some Jvm.ClassFile.FieldType.char)).before args0 about1 = true := code_word (m := ⟨9, 4⟩) (meth := k9m4) (c := k9c4) (by decide +kernel) rfl rfl rfl (by decide +kernel)
set_option maxRecDepth 65536 in
theorem w_c18 : (Jvm.Cond.code ({ cls := "com/example/sites_into_slices/sitesintoslices/identity/AsciiCaseStartsWithIgnoringCasePinLaw", name := "same", desc := "(CC)Z" } : Jvm.MethodName) method_5_code (3 : Nat) (Option.some Jvm.ClassFile.FieldType.boolean)).before args0 about1 = true := code_word (m := ⟨1, 4⟩) (meth := k1m4) (c := k1c4) (by decide +kernel) rfl rfl rfl (by decide +kernel)
set_option maxRecDepth 65536 in
theorem w_c19 : (Jvm.Cond.code ({ cls := "java/lang/String", name := "charAt", desc := "(I)C" } : Jvm.MethodName) jdk_42_method_56_code (2 : Nat) (Option.some Jvm.ClassFile.FieldType.char)).before args0 about1 = true := code_word (m := ⟨7, 3⟩) (meth := k7m3) (c := k7c3) (by decide +kernel) rfl rfl rfl (by decide +kernel)
set_option maxRecDepth 65536 in
theorem w_c20 : (Jvm.Cond.code ({ cls := "java/lang/String", name := "isLatin1", desc := "()Z" } : Jvm.MethodName) jdk_42_method_154_code (1 : Nat) (Option.some Jvm.ClassFile.FieldType.boolean)).before args0 about1 = true := code_word (m := ⟨7, 6⟩) (meth := k7m6) (c := k7c6) (by decide +kernel) rfl rfl rfl (by decide +kernel)
set_option maxRecDepth 65536 in
theorem w_c21 : (Jvm.Cond.code ({ cls := "java/lang/StringLatin1", name := "charAt", desc := "([BI)C" } : Jvm.MethodName) jdk_43_method_2_code (2 : Nat) (Option.some Jvm.ClassFile.FieldType.char)).before args0 about1 = true := code_word (m := ⟨10, 1⟩) (meth := k10m1) (c := k10c1) (by decide +kernel) rfl rfl rfl (by decide +kernel)
set_option maxRecDepth 65536 in
theorem w_c22 : (Jvm.Cond.code ({ cls := "java/lang/String", name := "checkIndex", desc := "(II)V" } : Jvm.MethodName) jdk_42_method_155_code (2 : Nat) (Option.none : Option Jvm.ClassFile.FieldType)).before args0 about1 = true := code_word (m := ⟨7, 7⟩) (meth := k7m7) (c := k7c7) (by decide +kernel) rfl rfl rfl (by decide +kernel)
set_option maxRecDepth 65536 in
theorem w_c23 : (Jvm.Cond.code ({ cls := "jdk/internal/util/Preconditions", name := "checkIndex", desc := "(IILjava/util/function/BiFunction;)I" } : Jvm.MethodName) jdk_41_method_11_code (3 : Nat) (Option.some Jvm.ClassFile.FieldType.int)).before args0 about1 = true := code_word (m := ⟨11, 1⟩) (meth := k11m1) (c := k11c1) (by decide +kernel) rfl rfl rfl (by decide +kernel)
set_option maxRecDepth 65536 in
theorem w_c24 : (Jvm.Cond.code ({ cls := "com/example/sites_into_slices/sitesintoslices/identity/AsciiCase", name := "toLowerCase", desc := "(C)C" } : Jvm.MethodName) prog_37_method_4_code (1 : Nat) (Option.some Jvm.ClassFile.FieldType.char)).before args0 about1 = true := code_word (m := ⟨8, 2⟩) (meth := k8m2) (c := k8c2) (by decide +kernel) rfl rfl rfl (by decide +kernel)
set_option maxRecDepth 65536 in
theorem w_c25 : (Jvm.Cond.code ({ cls := "java/lang/StringUTF16", name := "charAt", desc := "([BI)C" } : Jvm.MethodName) jdk_52_method_83_code (2 : Nat) (Option.some Jvm.ClassFile.FieldType.char)).before args0 about1 = true := code_word (m := ⟨9, 10⟩) (meth := k9m10) (c := k9c10) (by decide +kernel) rfl rfl rfl (by decide +kernel)
set_option maxRecDepth 65536 in
theorem w_c26 : (Jvm.Cond.code ({ cls := "java/lang/StringUTF16", name := "checkIndex", desc := "(I[B)V" } : Jvm.MethodName) jdk_52_method_91_code (2 : Nat) (Option.none : Option Jvm.ClassFile.FieldType)).before args0 about1 = true := code_word (m := ⟨9, 11⟩) (meth := k9m11) (c := k9c11) (by decide +kernel) rfl rfl rfl (by decide +kernel)
set_option maxRecDepth 65536 in
theorem w_c27 : (Jvm.Cond.code ({ cls := "java/lang/StringUTF16", name := "length", desc := "([B)I" } : Jvm.MethodName) jdk_52_method_6_code (1 : Nat) (Option.some Jvm.ClassFile.FieldType.int)).before args0 about1 = true := code_word (m := ⟨9, 5⟩) (meth := k9m5) (c := k9c5) (by decide +kernel) rfl rfl rfl (by decide +kernel)
def codes1 : List Jvm.Cond := [Jvm.Cond.code x code maxLocals ret, Jvm.Cond.code ({ cls := "com/example/sites_into_slices/sitesintoslices/identity/AsciiCaseStartsWithIgnoringCasePinLaw", name := "textChar", desc := "(JII)C" } : Jvm.MethodName) method_3_code (5 : Nat) (Option.some Jvm.ClassFile.FieldType.char), Jvm.Cond.code ({ cls := "com/example/sites_into_slices/sitesintoslices/identity/AsciiCaseStartsWithIgnoringCasePinLaw", name := "prefixChar", desc := "(CJII)C" } : Jvm.MethodName) method_4_code (7 : Nat) (Option.some Jvm.ClassFile.FieldType.char), Jvm.Cond.code ({ cls := "com/example/sites_into_slices/sitesintoslices/identity/AsciiCaseStartsWithIgnoringCasePinLaw", name := "str", desc := "(ICCC)Ljava/lang/String;" } : Jvm.MethodName) method_6_code (4 : Nat) (Option.some (Jvm.ClassFile.FieldType.object "java/lang/String")), Jvm.Cond.code ({ cls := "java/lang/String", name := "<init>", desc := "([C)V" } : Jvm.MethodName) jdk_42_method_3_code (2 : Nat) (Option.none : Option Jvm.ClassFile.FieldType), Jvm.Cond.code ({ cls := "java/lang/String", name := "<init>", desc := "([CIILjava/lang/Void;)V" } : Jvm.MethodName) jdk_42_method_149_code (6 : Nat) (Option.none : Option Jvm.ClassFile.FieldType), Jvm.Cond.code ({ cls := "java/lang/Object", name := "<init>", desc := "()V" } : Jvm.MethodName) object_method_1_code (1 : Nat) (Option.none : Option Jvm.ClassFile.FieldType), Jvm.Cond.code ({ cls := "com/example/sites_into_slices/sitesintoslices/identity/AsciiCase", name := "startsWithIgnoringCase", desc := "(Ljava/lang/String;Ljava/lang/String;)Z" } : Jvm.MethodName) prog_37_method_3_code (4 : Nat) (Option.some Jvm.ClassFile.FieldType.boolean), Jvm.Cond.code ({ cls := "java/lang/String", name := "length", desc := "()I" } : Jvm.MethodName) jdk_42_method_54_code (1 : Nat) (Option.some Jvm.ClassFile.FieldType.int), Jvm.Cond.code ({ cls := "java/lang/String", name := "coder", desc := "()B" } : Jvm.MethodName) jdk_42_method_152_code (1 : Nat) (Option.some Jvm.ClassFile.FieldType.byte), Jvm.Cond.code ({ cls := "java/lang/StringUTF16", name := "compress", desc := "([CII)[B" } : Jvm.MethodName) jdk_52_method_16_code (6 : Nat) (Option.some (Jvm.ClassFile.FieldType.array Jvm.ClassFile.FieldType.byte)), Jvm.Cond.code ({ cls := "java/lang/StringUTF16", name := "compress", desc := "([CI[BII)I" } : Jvm.MethodName) jdk_52_method_21_code (7 : Nat) (Option.some Jvm.ClassFile.FieldType.int), Jvm.Cond.code ({ cls := "java/lang/StringUTF16", name := "coderFromArrayLen", desc := "([BI)B" } : Jvm.MethodName) jdk_52_method_15_code (2 : Nat) (Option.some Jvm.ClassFile.FieldType.byte), Jvm.Cond.code ({ cls := "java/lang/StringUTF16", name := "toBytes", desc := "([CII)[B" } : Jvm.MethodName) jdk_52_method_14_code (5 : Nat) (Option.some (Jvm.ClassFile.FieldType.array Jvm.ClassFile.FieldType.byte)), Jvm.Cond.code ({ cls := "java/lang/StringUTF16", name := "newBytesFor", desc := "(I)[B" } : Jvm.MethodName) jdk_52_method_2_code (1 : Nat) (Option.some (Jvm.ClassFile.FieldType.array Jvm.ClassFile.FieldType.byte)), Jvm.Cond.code ({ cls := "java/lang/StringUTF16", name := "newBytesLength", desc := "(I)I" } : Jvm.MethodName) jdk_52_method_3_code (1 : Nat) (Option.some Jvm.ClassFile.FieldType.int), Jvm.Cond.code ({ cls := "java/lang/StringUTF16", name := "putChar", desc := "([BII)V" } : Jvm.MethodName) jdk_52_method_4_code (3 : Nat) (Option.none : Option Jvm.ClassFile.FieldType), Jvm.Cond.code ({ cls := "java/lang/StringUTF16", name := "getChar", desc := "([BI)C" } : Jvm.MethodName) jdk_52_method_5_code (2 : Nat) (Option.some Jvm.ClassFile.FieldType.char), Jvm.Cond.code ({ cls := "com/example/sites_into_slices/sitesintoslices/identity/AsciiCaseStartsWithIgnoringCasePinLaw", name := "same", desc := "(CC)Z" } : Jvm.MethodName) method_5_code (3 : Nat) (Option.some Jvm.ClassFile.FieldType.boolean), Jvm.Cond.code ({ cls := "java/lang/String", name := "charAt", desc := "(I)C" } : Jvm.MethodName) jdk_42_method_56_code (2 : Nat) (Option.some Jvm.ClassFile.FieldType.char), Jvm.Cond.code ({ cls := "java/lang/String", name := "isLatin1", desc := "()Z" } : Jvm.MethodName) jdk_42_method_154_code (1 : Nat) (Option.some Jvm.ClassFile.FieldType.boolean), Jvm.Cond.code ({ cls := "java/lang/StringLatin1", name := "charAt", desc := "([BI)C" } : Jvm.MethodName) jdk_43_method_2_code (2 : Nat) (Option.some Jvm.ClassFile.FieldType.char), Jvm.Cond.code ({ cls := "java/lang/String", name := "checkIndex", desc := "(II)V" } : Jvm.MethodName) jdk_42_method_155_code (2 : Nat) (Option.none : Option Jvm.ClassFile.FieldType), Jvm.Cond.code ({ cls := "jdk/internal/util/Preconditions", name := "checkIndex", desc := "(IILjava/util/function/BiFunction;)I" } : Jvm.MethodName) jdk_41_method_11_code (3 : Nat) (Option.some Jvm.ClassFile.FieldType.int), Jvm.Cond.code ({ cls := "com/example/sites_into_slices/sitesintoslices/identity/AsciiCase", name := "toLowerCase", desc := "(C)C" } : Jvm.MethodName) prog_37_method_4_code (1 : Nat) (Option.some Jvm.ClassFile.FieldType.char), Jvm.Cond.code ({ cls := "java/lang/StringUTF16", name := "charAt", desc := "([BI)C" } : Jvm.MethodName) jdk_52_method_83_code (2 : Nat) (Option.some Jvm.ClassFile.FieldType.char), Jvm.Cond.code ({ cls := "java/lang/StringUTF16", name := "checkIndex", desc := "(I[B)V" } : Jvm.MethodName) jdk_52_method_91_code (2 : Nat) (Option.none : Option Jvm.ClassFile.FieldType), Jvm.Cond.code ({ cls := "java/lang/StringUTF16", name := "length", desc := "([B)I" } : Jvm.MethodName) jdk_52_method_6_code (1 : Nat) (Option.some Jvm.ClassFile.FieldType.int)]
set_option maxRecDepth 65536 in
theorem codes_eq : words1.filter isCode = codes1 := rfl
theorem w_codes : ∀ c ∈ words1.filter isCode, c.before args0 about1 = true := by
  rw [codes_eq]
  intro c hc
  simp only [codes1, List.mem_cons, List.not_mem_nil, or_false] at hc
  rcases hc with rfl | rfl | rfl | rfl | rfl | rfl | rfl | rfl | rfl | rfl | rfl | rfl | rfl | rfl | rfl | rfl | rfl | rfl | rfl | rfl | rfl | rfl | rfl | rfl | rfl | rfl | rfl | rfl
  · exact w_c0
  · exact w_c1
  · exact w_c2
  · exact w_c3
  · exact w_c4
  · exact w_c5
  · exact w_c6
  · exact w_c7
  · exact w_c8
  · exact w_c9
  · exact w_c10
  · exact w_c11
  · exact w_c12
  · exact w_c13
  · exact w_c14
  · exact w_c15
  · exact w_c16
  · exact w_c17
  · exact w_c18
  · exact w_c19
  · exact w_c20
  · exact w_c21
  · exact w_c22
  · exact w_c23
  · exact w_c24
  · exact w_c25
  · exact w_c26
  · exact w_c27
set_option maxRecDepth 65536 in
theorem w_t1 : (words1.take 24).all (fun c => isCode c || c.before args0 about1) = true := by decide +kernel
set_option maxRecDepth 65536 in
theorem w_t2 : ((words1.drop 24).take 24).all (fun c => isCode c || c.before args0 about1) = true := by decide +kernel
set_option maxRecDepth 65536 in
theorem w_t3 : (((words1.drop 24).drop 24).take 24).all (fun c => isCode c || c.before args0 about1) = true := by decide +kernel
set_option maxRecDepth 65536 in
theorem w_t4 : ((((words1.drop 24).drop 24).drop 24).take 24).all (fun c => isCode c || c.before args0 about1) = true := by decide +kernel
set_option maxRecDepth 65536 in
theorem w_t5 : ((((words1.drop 24).drop 24).drop 24).drop 24).all (fun c => isCode c || c.before args0 about1) = true := by decide +kernel
theorem w_tables : (allAtoms (Jvm.Cond.code x code maxLocals ret :: tables_1)).before args0 about1 = true := by
  rw [allAtoms_all]
  show words1.all (fun c => c.before args0 about1) = true
  refine all_split ?_ w_codes
  rw [← List.take_append_drop 24 words1, List.all_append, w_t1, ← List.take_append_drop 24 (words1.drop 24), List.all_append, w_t2, ← List.take_append_drop 24 ((words1.drop 24).drop 24), List.all_append, w_t3, ← List.take_append_drop 24 (((words1.drop 24).drop 24).drop 24), List.all_append, w_t4, w_t5]
  rfl
set_option maxRecDepth 65536 in
theorem w_rest : rest_1_c.before args0 about1 = true := by decide +kernel
set_option maxRecDepth 65536 in
theorem w_case : (Jvm.Cond.and given_1 narrow_1).before args0 about1 = true := by decide +kernel
set_option maxRecDepth 65536 in
theorem w_consts : constsHeld consts_1 about1 := Jvm.Lit.constsHeldB_iff.mp (by decide +kernel)
theorem w_applies : (headSpec (Jvm.Cond.code x code maxLocals ret :: tables_1) room_1).applies x e0.platform about1 = true :=
  (Spec.applies_iff w_frames).mpr ⟨w_running, w_runnable, w_alone, w_named, w_hears, w_ripe, w_room, w_tables⟩
theorem atStart : AtStart classFile x code maxLocals ret World_1 tables_1 room_1 Calls_1 rest_1 Pre_1 launch0 p0 e0 about1 theMethod args0 below0 :=
  ⟨lists_1, trivial, launch0.admits_env _ _ _, launch0.least_env, fairChoices_fair.cas, fairChoices_fair.clock, w_frames, w_args, w_heap, w_applies, ⟨w_consts, trivial⟩, w_rest, w_case⟩
end start1
theorem witness_1 : WitnessClaimed_1 := ⟨start1.p0, start1.e0, start1.about1, start1.theMethod, start1.args0, start1.below0, start1.atStart⟩
end Jvm.Pilot.@@N@@
