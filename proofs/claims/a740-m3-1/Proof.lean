import JvmDerived
import JvmDerived.Pilot.@@N@@Statement
import JvmDerived.Pilot.@@N@@Code
set_option linter.unusedVariables false
set_option linter.unusedSimpArgs false
@@BLOCK:NumsL.lean.txt@@
/- laws to paste: Road.backV (cut by pick.py; bodies as the Statement names them) -/
namespace Jvm.Pilot.@@N@@
namespace StrChars
open Jvm Sem ClassFile Op Lib Jvm.Stand Jvm.Free.XT Jvm.Free.ALB Jvm.Free.JM Jvm.Free
open Jvm.Lib.Cold (StaticIs)
/-- a char array whose places are chars -/
def Ch (a : Addr) (A : Cell) (U : State) : Prop := Arr .char a A U ∧ Typed .char A
theorem Ch.mv {a : Addr} {A : Cell} {U U' : State} (h : Ch a A U) (hal : U.vm.Alike U'.vm) (hh : U'.heap = U.heap) : Ch a A U' := ⟨h.1.mv hal hh, h.2⟩
theorem Ch.keep {a : Addr} {A : Cell} {U U' : State} (h : Ch a A U) (hal : U.vm.Alike U'.vm) (hk : U'.heap[a]? = some A) : Ch a A U' := ⟨h.1.keep hal hk, h.2⟩
/-- what place i of a char[]'s cell holds -/
def cv (A : Cell) (i : Nat) : Int32 := match A.slots[i]? with | some (.int x) => x | _ => 0
theorem Ch.get {a : Addr} {A : Cell} {U : State} (h : Ch a A U) {i : Nat} (hi : i < A.slots.size) : A.slots[i]? = some (.int (cv A i)) := by
  have e := Array.getElem?_eq_getElem hi
  have f := h.2 i _ e
  unfold cv; rw [e]
  generalize A.slots[i] = v at f
  cases v <;> simp [fits] at f ⊢
/-- the byte that i2b leaves of a char -/
def lo8 (x : Int32) : Int32 := x.toInt8.toInt32
theorem fits_lo8 (y : Int32) : fits .byte (.int (lo8 y)) = true := by
  have h1 := y.toInt8.le_toInt
  have h2 := y.toInt8.toInt_lt
  simp only [lo8, fits, Bool.and_eq_true, decide_eq_true_eq, Int32.le_iff_toInt_le, Int8.toInt_toInt32, show (-128 : Int32).toInt = -128 from by decide, show (127 : Int32).toInt = 127 from by decide]
  omega
/-- A' is A but that each place j of lo .. hi - 1 holds f j -/
def Laid (A A' : Cell) (lo hi : Nat) (f : Nat → Value) : Prop := A'.cls = A.cls ∧ A'.vm = A.vm ∧ A'.slots.size = A.slots.size ∧ ∀ i, A'.slots[i]? = if lo ≤ i ∧ i < hi then some (f i) else A.slots[i]?
theorem Laid.zero (A : Cell) (lo : Nat) (f : Nat → Value) : Laid A A lo (lo + 0) f := ⟨rfl, rfl, rfl, fun i => by rw [if_neg (by omega)]⟩
theorem Laid.step {A Ak : Cell} {lo k : Nat} {f : Nat → Value} {v : Value} (h : Laid A Ak lo k f) (hlo : lo ≤ k) (hk : k < Ak.slots.size) (hv : v = f k) : Laid A (Ak.setSlot k v) lo (k + 1) f := by
  refine ⟨h.1, h.2.1, by simpa [Cell.setSlot] using h.2.2.1, fun i => ?_⟩
  by_cases e : k = i
  · subst e; rw [Cell.slots_setSlot_self v hk, if_pos (by omega), hv]
  · rw [Cell.slots_setSlot_ne v e, h.2.2.2 i]
    by_cases q : lo ≤ i ∧ i < k
    · rw [if_pos q, if_pos (by omega)]
    · rw [if_neg q, if_neg (by omega)]
def U16 : String := "java/lang/StringUTF16"
namespace Cmp5
def yN : MethodName := ⟨"java/lang/StringUTF16", "compress", "([CI[BII)I"⟩
abbrev yB : ByteArray := jdk_52_method_21_code
theorem d0 : decode yB 0 = .ok (.iconst 0, 1) := by decide +kernel
theorem d1 : decode yB 1 = .ok (.istore 5, 2) := by decide +kernel
theorem d3 : decode yB 3 = .ok (.iload 5, 2) := by decide +kernel
theorem d5 : decode yB 5 = .ok (.iload 4, 2) := by decide +kernel
theorem d7 : decode yB 7 = .ok (.if_icmp (.ge) 37, 3) := by decide +kernel
theorem d10 : decode yB 10 = .ok (.aload_n 0, 1) := by decide +kernel
theorem d11 : decode yB 11 = .ok (.iload_n 1, 1) := by decide +kernel
theorem d12 : decode yB 12 = .ok (.caload, 1) := by decide +kernel
theorem d13 : decode yB 13 = .ok (.istore 6, 2) := by decide +kernel
theorem d15 : decode yB 15 = .ok (.iload 6, 2) := by decide +kernel
theorem d17 : decode yB 17 = .ok (.sipush 255, 3) := by decide +kernel
theorem d20 : decode yB 20 = .ok (.if_icmp (.le) 6, 3) := by decide +kernel
theorem d26 : decode yB 26 = .ok (.aload_n 2, 1) := by decide +kernel
theorem d27 : decode yB 27 = .ok (.iload_n 3, 1) := by decide +kernel
theorem d28 : decode yB 28 = .ok (.iload 6, 2) := by decide +kernel
theorem d30 : decode yB 30 = .ok (.i2b, 1) := by decide +kernel
theorem d31 : decode yB 31 = .ok (.bastore, 1) := by decide +kernel
theorem d32 : decode yB 32 = .ok (.iinc 1 1, 3) := by decide +kernel
theorem d35 : decode yB 35 = .ok (.iinc 3 1, 3) := by decide +kernel
theorem d38 : decode yB 38 = .ok (.iinc 5 1, 3) := by decide +kernel
theorem d41 : decode yB 41 = .ok (.goto (-38), 3) := by decide +kernel
theorem d44 : decode yB 44 = .ok (.iload 4, 2) := by decide +kernel
theorem d46 : decode yB 46 = .ok (.ireturn, 1) := by decide +kernel
def site : List Cond := []
def tab : Cond := tabOf yN yB 7 (some .int) site
def P (b : Addr) (A : Cell) (d : Addr) (B : Cell) (o q len : Nat) (args : Array Value) (s : State) : Prop := args = #[.ref b, .int (Int32.ofNat o), .ref d, .int (Int32.ofNat q), .int (Int32.ofNat len)] ∧ Ch b A s ∧ Arr .byte d B s ∧ b ≠ d ∧ o + len ≤ A.slots.size ∧ q + len ≤ B.slots.size ∧ ∀ i, i < len → ¬ 255 < cv A (o + i)
def E (b : Addr) (A : Cell) (d : Addr) (B : Cell) (o q len : Nat) (r : Option Value) (s u : State) : Prop := r = some (.int (Int32.ofNat len)) ∧ ∃ B', Put d B' s u ∧ Laid B B' q (q + len) (fun j => Value.int (lo8 (cv A (o + (j - q)))))
/-- no char of the range above 255: len; the places written hold each char's low byte -/
theorem law (l : Launch) (b : Addr) (A : Cell) (d : Addr) (B : Cell) (o q len : Nat) : Law l yN 5 5 0 0 yB 7 (some .int) site (P b A d B o q len) (E b A d B o q len) (copyLocs d q len) 0 0 := by
  refine Law.of_walk (plainFor_of_name (by decide +kernel)) (by decide +kernel) (by decide +kernel) (by decide) (fun _ _ h => by rw [h.1]; rfl) (fun _ U U' hal hh h => ⟨h.1, h.2.1.mv hal hh, h.2.2.1.mv hal hh, h.2.2.2⟩) (fun r U U' V V' h1 hal h2 h => ⟨h.1, h.2.elim fun B' q => ⟨B', q.1.mv h1 h2, q.2⟩⟩) ?_
  intro p e s m args below meth c s₁ X0 hexec hbytes hml hret hlk hnm hown hh0 W hP
  obtain ⟨rfl, hA, hB, hne, l1, l2, hp⟩ := hP
  have c1 : Steps p.tables e below (s₁.setTop (entryFrame m #[.ref b, .int (Int32.ofNat o), .ref d, .int (Int32.ofNat q), .int (Int32.ofNat len)] 7)) (s₁.setTop (mkF m 0 #[.val (.ref b), .val (.int (Int32.ofNat o)), .val (.ref d), .val (.int (Int32.ofNat q)), .val (.int (Int32.ofNat len)), .unset, .unset] [])) := entry rfl
  have hA0 := hA.1.mv X0.warmed.alike hh0
  have hB0 := hB.mv X0.warmed.alike hh0
  have a31 := hA.1.2.2.2
  have c2 : Steps p.tables e below (s₁.setTop (entryFrame m #[.ref b, .int (Int32.ofNat o), .ref d, .int (Int32.ofNat q), .int (Int32.ofNat len)] 7)) (s₁.setTop (mkF m 3 #[.val (.ref b), .val (.int (Int32.ofNat o)), .val (.ref d), .val (.int (Int32.ofNat q)), .val (.int (Int32.ofNat len)), .val (.int 0), .unset] [])) := c1.trans (by
    refine iconstV X0.here hexec rfl 0 (hb hbytes d0) (by decide) ?_
    refine XS.istore X0.here hexec rfl (hb hbytes d1) rfl rfl ?_
    exact Steps.refl _)
  have loop : ∀ (r i : Nat), i + r = len → ∀ (z : Slot), (z = .unset ∨ ∃ w, z = .val w ∧ w.category = 1) → ∀ (Tl : State) (Bk : Cell), Stand p l e { frames := 0, locals := 0, cells := 0, slots := 0 } s m #[.ref b, .int (Int32.ofNat o), .ref d, .int (Int32.ofNat q), .int (Int32.ofNat len)] below meth c Tl ([] ++ copyLocs d q i) 0 0 → Put d Bk s₁ Tl → Laid B Bk q (q + i) (fun j => Value.int (lo8 (cv A (o + (j - q))))) →
      Steps p.tables e below (s₁.setTop (entryFrame m #[.ref b, .int (Int32.ofNat o), .ref d, .int (Int32.ofNat q), .int (Int32.ofNat len)] 7)) (Tl.setTop (mkF m 3 #[.val (.ref b), .val (.int (Int32.ofNat (o + i))), .val (.ref d), .val (.int (Int32.ofNat (q + i))), .val (.int (Int32.ofNat len)), .val (.int (Int32.ofNat i)), z] [])) → ∃ (T' : State) (B' : Cell) (z' : Slot), Stand p l e { frames := 0, locals := 0, cells := 0, slots := 0 } s m #[.ref b, .int (Int32.ofNat o), .ref d, .int (Int32.ofNat q), .int (Int32.ofNat len)] below meth c T' ([] ++ copyLocs d q len) 0 0 ∧ Put d B' s₁ T' ∧ Laid B B' q (q + len) (fun j => Value.int (lo8 (cv A (o + (j - q))))) ∧
      Steps p.tables e below (s₁.setTop (entryFrame m #[.ref b, .int (Int32.ofNat o), .ref d, .int (Int32.ofNat q), .int (Int32.ofNat len)] 7)) (T'.setTop (mkF m 3 #[.val (.ref b), .val (.int (Int32.ofNat (o + len))), .val (.ref d), .val (.int (Int32.ofNat (q + len))), .val (.int (Int32.ofNat len)), .val (.int (Int32.ofNat len)), z'] [])) := by
    intro r
    induction r with
    | zero =>
      intro i hi z hz Tl Bk Xl pl fl cl
      have hil : i = len := by omega
      rw [hil] at Xl fl cl
      exact ⟨Tl, Bk, z, Xl, pl, fl, cl⟩
    | succ r ih =>
      intro i hi z hz Tl Bk Xl pl fl cl
      have all := X0.warmed.alike.symm.trans Xl.warmed.alike
      have hAl := hA0.keep all (pl.other hne hA0.1)
      have hBk := hB0.like all pl.1 fl.1 fl.2.1 fl.2.2.1
      have hlt : q + i < Bk.slots.size := by rw [fl.2.2.1]; omega
      have c3 : Steps p.tables e below (s₁.setTop (entryFrame m #[.ref b, .int (Int32.ofNat o), .ref d, .int (Int32.ofNat q), .int (Int32.ofNat len)] 7)) (Tl.setTop (mkF m 12 #[.val (.ref b), .val (.int (Int32.ofNat (o + i))), .val (.ref d), .val (.int (Int32.ofNat (q + i))), .val (.int (Int32.ofNat len)), .val (.int (Int32.ofNat i)), z] [.int (Int32.ofNat (o + i)), .ref b])) := cl.trans (by
        refine XS.iload Xl.here hexec rfl (hb hbytes d3) rfl ?_
        refine XS.iload Xl.here hexec rfl (hb hbytes d5) rfl ?_
        refine XS.icmpNo Xl.here hexec rfl (hb hbytes d7) rfl (ii_ge_f (lt32 (by omega) (by omega))) ?_
        refine XS.aloadN Xl.here hexec rfl (hb hbytes d10) rfl rfl ?_
        refine XS.iloadN Xl.here hexec rfl (hb hbytes d11) rfl ?_
        exact Steps.refl _)
      have c4 : Steps p.tables e below (s₁.setTop (entryFrame m #[.ref b, .int (Int32.ofNat o), .ref d, .int (Int32.ofNat q), .int (Int32.ofNat len)] 7)) (Tl.setTop (mkF m 13 #[.val (.ref b), .val (.int (Int32.ofNat (o + i))), .val (.ref d), .val (.int (Int32.ofNat (q + i))), .val (.int (Int32.ofNat len)), .val (.int (Int32.ofNat i)), z] [.int (cv A (o + i))])) := c3.trans (by
        refine Xl.aget hexec hAl rfl (hA.get (i := o + i) (by omega)) rfl rfl (hb hbytes d12) ?_
        exact Steps.refl _)
      have c5 : Steps p.tables e below (s₁.setTop (entryFrame m #[.ref b, .int (Int32.ofNat o), .ref d, .int (Int32.ofNat q), .int (Int32.ofNat len)] 7)) (Tl.setTop (mkF m 15 #[.val (.ref b), .val (.int (Int32.ofNat (o + i))), .val (.ref d), .val (.int (Int32.ofNat (q + i))), .val (.int (Int32.ofNat len)), .val (.int (Int32.ofNat i)), .val (.int (cv A (o + i)))] [])) := c4.trans (by
        refine XS.istoreS Xl.here hexec rfl (hb hbytes d13) rfl rfl hz ?_
        exact Steps.refl _)
      have c6 : Steps p.tables e below (s₁.setTop (entryFrame m #[.ref b, .int (Int32.ofNat o), .ref d, .int (Int32.ofNat q), .int (Int32.ofNat len)] 7)) (Tl.setTop (mkF m 31 #[.val (.ref b), .val (.int (Int32.ofNat (o + i))), .val (.ref d), .val (.int (Int32.ofNat (q + i))), .val (.int (Int32.ofNat len)), .val (.int (Int32.ofNat i)), .val (.int (cv A (o + i)))] [.int (lo8 (cv A (o + i))), .int (Int32.ofNat (q + i)), .ref d])) := c5.trans (by
        refine XS.iload Xl.here hexec rfl (hb hbytes d15) rfl ?_
        refine sipushV Xl.here hexec rfl 255 (hb hbytes d17) (by decide) ?_
        refine XS.icmpYes Xl.here hexec rfl (pc0 := 20) rfl (hb hbytes d20) rfl (ii_le_t (hp i (by omega))) (by decide) rfl ?_
        refine XS.aloadN Xl.here hexec rfl (hb hbytes d26) rfl rfl ?_
        refine XS.iloadN Xl.here hexec rfl (hb hbytes d27) rfl ?_
        refine XS.iload Xl.here hexec rfl (hb hbytes d28) rfl ?_
        refine i2b Xl.here hexec rfl (hb hbytes d30) rfl ?_
        exact Steps.refl _)
      obtain ⟨T7, X7, p7, st7⟩ := Xl.aput hexec hBk rfl hlt rfl (fits_lo8 (cv A (o + i))) (g := (mkF m 31 #[.val (.ref b), .val (.int (Int32.ofNat (o + i))), .val (.ref d), .val (.int (Int32.ofNat (q + i))), .val (.int (Int32.ofNat len)), .val (.int (Int32.ofNat i)), .val (.int (cv A (o + i)))] [.int (lo8 (cv A (o + i))), .int (Int32.ofNat (q + i)), .ref d])) rfl (rest := []) rfl (hb hbytes d31)
      have c8 : Steps p.tables e below (s₁.setTop (entryFrame m #[.ref b, .int (Int32.ofNat o), .ref d, .int (Int32.ofNat q), .int (Int32.ofNat len)] 7)) (T7.setTop (mkF m 32 #[.val (.ref b), .val (.int (Int32.ofNat (o + i))), .val (.ref d), .val (.int (Int32.ofNat (q + i))), .val (.int (Int32.ofNat len)), .val (.int (Int32.ofNat i)), .val (.int (cv A (o + i)))] [])) := c6.trans (st7 _ (Steps.refl _))
      have c9 : Steps p.tables e below (s₁.setTop (entryFrame m #[.ref b, .int (Int32.ofNat o), .ref d, .int (Int32.ofNat q), .int (Int32.ofNat len)] 7)) (T7.setTop (mkF m 3 #[.val (.ref b), .val (.int (Int32.ofNat (o + i) + 1)), .val (.ref d), .val (.int (Int32.ofNat (q + i) + 1)), .val (.int (Int32.ofNat len)), .val (.int (Int32.ofNat i + 1)), .val (.int (cv A (o + i)))] [])) := c8.trans (by
        refine iincV X7.here hexec rfl 1 (hb hbytes d32) (by decide) rfl rfl ?_
        refine iincV X7.here hexec rfl 1 (hb hbytes d35) (by decide) rfl rfl ?_
        refine iincV X7.here hexec rfl 1 (hb hbytes d38) (by decide) rfl rfl ?_
        refine XS.goto X7.here hexec rfl (pc0 := 41) rfl (hb hbytes d41) (by decide) rfl ?_
        exact Steps.refl _)
      have c10 : Steps p.tables e below (s₁.setTop (entryFrame m #[.ref b, .int (Int32.ofNat o), .ref d, .int (Int32.ofNat q), .int (Int32.ofNat len)] 7)) (T7.setTop (mkF m 3 #[.val (.ref b), .val (.int (Int32.ofNat (o + (i + 1)))), .val (.ref d), .val (.int (Int32.ofNat (q + (i + 1)))), .val (.int (Int32.ofNat len)), .val (.int (Int32.ofNat (i + 1))), .val (.int (cv A (o + i)))] [])) := by
        have := c9
        rw [succ32, succ32, succ32] at this
        exact this
      exact ih (i + 1) (by omega) _ (Or.inr ⟨_, rfl, rfl⟩) T7 _ (by rw [copyLocs_step, ← List.append_assoc]; exact X7) (pl.trans p7) (fl.step (by omega) hlt (by simp)) c10
  obtain ⟨T9, B9, z9, X9, p9, f9, g9⟩ := loop len 0 (by omega) .unset (Or.inl rfl) s₁ B (by simpa [copyLocs] using X0) ⟨hB0.1, fun _ _ => rfl, rfl⟩ (Laid.zero _ _ _) c2
  have c11 : Steps p.tables e below (s₁.setTop (entryFrame m #[.ref b, .int (Int32.ofNat o), .ref d, .int (Int32.ofNat q), .int (Int32.ofNat len)] 7)) (T9.setTop (mkF m 46 #[.val (.ref b), .val (.int (Int32.ofNat (o + len))), .val (.ref d), .val (.int (Int32.ofNat (q + len))), .val (.int (Int32.ofNat len)), .val (.int (Int32.ofNat len)), z9] [.int (Int32.ofNat len)])) := g9.trans (by
    refine XS.iload X9.here hexec rfl (hb hbytes d3) rfl ?_
    refine XS.iload X9.here hexec rfl (hb hbytes d5) rfl ?_
    refine XS.icmpYes X9.here hexec rfl (pc0 := 7) rfl (hb hbytes d7) rfl (ii_ge_t (nlt32 (by omega) (Nat.le_refl _))) (by decide) rfl ?_
    refine XS.iload X9.here hexec rfl (hb hbytes d44) rfl ?_
    exact Steps.refl _)
  exact ⟨T9, some (.int (Int32.ofNat len)), _, _, _, X9, by simp, rfl, rfl, (fun h => by cases h), ⟨rfl, B9, p9.from hh0, f9⟩, fun fs hl => c11.trans (X9.ireturnOut hexec hret rfl (Or.inl rfl) (hb hbytes d46) hl)⟩
end Cmp5
namespace Cmp3
def yN : MethodName := ⟨"java/lang/StringUTF16", "compress", "([CII)[B"⟩
abbrev yB : ByteArray := jdk_52_method_16_code
theorem d0 : decode yB 0 = .ok (.iload_n 2, 1) := by decide +kernel
theorem d1 : decode yB 1 = .ok (.newarray .byte, 2) := by decide +kernel
theorem d3 : decode yB 3 = .ok (.astore_n 3, 1) := by decide +kernel
theorem d4 : decode yB 4 = .ok (.aload_n 0, 1) := by decide +kernel
theorem d5 : decode yB 5 = .ok (.iload_n 1, 1) := by decide +kernel
theorem d6 : decode yB 6 = .ok (.aload_n 3, 1) := by decide +kernel
theorem d7 : decode yB 7 = .ok (.iconst 0, 1) := by decide +kernel
theorem d8 : decode yB 8 = .ok (.iload_n 2, 1) := by decide +kernel
theorem d9 : decode yB 9 = .ok (.invokestatic 115, 3) := by decide +kernel
theorem d12 : decode yB 12 = .ok (.istore 4, 2) := by decide +kernel
theorem d14 : decode yB 14 = .ok (.iload 4, 2) := by decide +kernel
theorem d16 : decode yB 16 = .ok (.iload_n 2, 1) := by decide +kernel
theorem d17 : decode yB 17 = .ok (.if_icmp (.eq) 40, 3) := by decide +kernel
theorem d57 : decode yB 57 = .ok (.aload_n 3, 1) := by decide +kernel
theorem d58 : decode yB 58 = .ok (.areturn, 1) := by decide +kernel
def site : List Cond := [.arrayClass .byte, Cmp5.tab] ++ staticW U16 115 Cmp5.yN
def tab : Cond := tabOf yN yB 6 (some (.array .byte)) site
def P (b : Addr) (A : Cell) (o len : Nat) (args : Array Value) (s : State) : Prop := args = #[.ref b, .int (Int32.ofNat o), .int (Int32.ofNat len)] ∧ Ch b A s ∧ o + len ≤ A.slots.size ∧ len ≤ 536870912 ∧ ∀ i, i < len → ¬ 255 < cv A (o + i)
def E (b : Addr) (A : Cell) (o len : Nat) (r : Option Value) (s u : State) : Prop := NewArr .byte "[B" len (fun j => .int (lo8 (cv A (o + j)))) r s u ∧ u.heap.size = s.heap.size + 1
/-- no char of the range above 255: a new byte[] of their low bytes -/
theorem law (l : Launch) (b : Addr) (A : Cell) (o len : Nat) : Law l yN 3 3 1 18 yB 6 (some (.array .byte)) site (P b A o len) (E b A o len) [] 1 len := by
  refine Law.of_walk (plainFor_of_name (by decide +kernel)) (by decide +kernel) (by decide +kernel) (by decide) (fun _ _ h => by rw [h.1]; rfl) (fun _ U U' hal hh h => ⟨h.1, h.2.1.mv hal hh, h.2.2⟩) (fun r U U' V V' h1 hal h2 h => ⟨NewArr.mv r U U' V V' h1 hal h2 h.1, by rw [h1, h2]; exact h.2⟩) ?_
  intro p e s m args below meth c s₁ X0 hexec hbytes hml hret hlk hnm hown hh0 W hP
  obtain ⟨rfl, hA, l1, l2, hp⟩ := hP
  have a31 := hA.1.2.2.2
  have c1 : Steps p.tables e below (s₁.setTop (entryFrame m #[.ref b, .int (Int32.ofNat o), .int (Int32.ofNat len)] 6)) (s₁.setTop (mkF m 0 #[.val (.ref b), .val (.int (Int32.ofNat o)), .val (.int (Int32.ofNat len)), .unset, .unset, .unset] [])) := entry rfl
  have c2 : Steps p.tables e below (s₁.setTop (entryFrame m #[.ref b, .int (Int32.ofNat o), .int (Int32.ofNat len)] 6)) (s₁.setTop (mkF m 1 #[.val (.ref b), .val (.int (Int32.ofNat o)), .val (.int (Int32.ofNat len)), .unset, .unset, .unset] [.int (Int32.ofNat len)])) := c1.trans (by
    refine XS.iloadN X0.here hexec rfl (hb hbytes d0) rfl ?_
    exact Steps.refl _)
  obtain ⟨T3, B3, X3, ba3, bs3, bv3, bh3, bf3, st3⟩ := X0.anew hexec (atype := .byte) (wk W (.arrayClass .byte)) rfl (by show len * 1 ≤ _; omega) (by omega) (g := (mkF m 1 #[.val (.ref b), .val (.int (Int32.ofNat o)), .val (.int (Int32.ofNat len)), .unset, .unset, .unset] [.int (Int32.ofNat len)])) rfl (hb hbytes d1) (rest := []) rfl (Nat.le_refl _) (by show 0 + len ≤ len; omega)
  rw [hh0] at ba3 st3
  have kp3 : XT.Kept s T3 := (XT.Kept.of_eq hh0).push bh3
  have hA3 := hA.keep X3.warmed.alike (kp3 _ _ hA.1.1)
  have hne : b ≠ s.heap.size := hA.1.ne
  have c4 : Steps p.tables e below (s₁.setTop (entryFrame m #[.ref b, .int (Int32.ofNat o), .int (Int32.ofNat len)] 6)) (T3.setTop (mkF m 3 #[.val (.ref b), .val (.int (Int32.ofNat o)), .val (.int (Int32.ofNat len)), .unset, .unset, .unset] [.ref s.heap.size])) := c2.trans (st3 _ (Steps.refl _))
  have c5 : Steps p.tables e below (s₁.setTop (entryFrame m #[.ref b, .int (Int32.ofNat o), .int (Int32.ofNat len)] 6)) (T3.setTop (mkF m 9 #[.val (.ref b), .val (.int (Int32.ofNat o)), .val (.int (Int32.ofNat len)), .val (.ref s.heap.size), .unset, .unset] [.int (Int32.ofNat len), .int 0, .ref s.heap.size, .int (Int32.ofNat o), .ref b])) := c4.trans (by
    refine XS.astoreN X3.here hexec rfl (hb hbytes d3) rfl rfl rfl ?_
    refine XS.aloadN X3.here hexec rfl (hb hbytes d4) rfl rfl ?_
    refine XS.iloadN X3.here hexec rfl (hb hbytes d5) rfl ?_
    refine XS.aloadN X3.here hexec rfl (hb hbytes d6) rfl rfl ?_
    refine iconstV X3.here hexec rfl 0 (hb hbytes d7) (by decide) ?_
    refine XS.iloadN X3.here hexec rfl (hb hbytes d8) rfl ?_
    exact Steps.refl _)
  obtain ⟨v6, T6, X6, E6, g6⟩ := X3.callS hexec (Cmp5.law l b A s.heap.size B3 o 0 len) hown (wks W (staticW U16 115 Cmp5.yN)) (wk W Cmp5.tab) (W := 0) (Nat.le_of_ble_eq_true rfl) (Nat.le_of_ble_eq_true rfl) (Nat.le_refl _) (by show 0 + len + 0 ≤ len; omega) (g := (mkF m 9 #[.val (.ref b), .val (.int (Int32.ofNat o)), .val (.int (Int32.ofNat len)), .val (.ref s.heap.size), .unset, .unset] [.int (Int32.ofNat len), .int (Int32.ofNat 0), .ref s.heap.size, .int (Int32.ofNat o), .ref b])) rfl (by rw [hml]; rfl) c5 (argsL := [.ref b, .int (Int32.ofNat o), .ref s.heap.size, .int (Int32.ofNat 0), .int (Int32.ofNat len)]) (rest := []) rfl rfl (by show 2 * 0 + 0 ≤ _; decide) (hb hbytes d9) (⟨rfl, hA3, ba3, hne, l1, by rw [bs3]; simp, hp⟩)
  obtain ⟨rfl, B6, p6, f6⟩ := E6
  have c7 : Steps p.tables e below (s₁.setTop (entryFrame m #[.ref b, .int (Int32.ofNat o), .int (Int32.ofNat len)] 6)) (T6.setTop (mkF m 12 #[.val (.ref b), .val (.int (Int32.ofNat o)), .val (.int (Int32.ofNat len)), .val (.ref s.heap.size), .unset, .unset] [.int (Int32.ofNat len)])) := g6
  have c8 : Steps p.tables e below (s₁.setTop (entryFrame m #[.ref b, .int (Int32.ofNat o), .int (Int32.ofNat len)] 6)) (T6.setTop (mkF m 58 #[.val (.ref b), .val (.int (Int32.ofNat o)), .val (.int (Int32.ofNat len)), .val (.ref s.heap.size), .val (.int (Int32.ofNat len)), .unset] [.ref s.heap.size])) := c7.trans (by
    refine XS.istore X6.here hexec rfl (hb hbytes d12) rfl rfl ?_
    refine XS.iload X6.here hexec rfl (hb hbytes d14) rfl ?_
    refine XS.iloadN X6.here hexec rfl (hb hbytes d16) rfl ?_
    refine XS.icmpYes X6.here hexec rfl (pc0 := 17) rfl (hb hbytes d17) rfl (ii_eq_t rfl) (by decide) rfl ?_
    refine XS.aloadN X6.here hexec rfl (hb hbytes d57) rfl rfl ?_
    exact Steps.refl _)
  have X8 := X6.wide (L' := []) (cells' := 1) (slots' := len) (fun x hx hlt => by
    simp only [List.nil_append, copyLocs, List.mem_map, List.mem_range] at hx
    obtain ⟨i, -, rfl⟩ := hx
    exact absurd hlt (Nat.lt_irrefl _)) (Nat.le_refl _) (by omega)
  exact ⟨T6, some (.ref s.heap.size), _, _, _, X8, rfl, rfl, rfl, (fun h => by cases h), ⟨⟨rfl, B6, ba3.like (X3.warmed.alike.symm.trans X6.warmed.alike) p6.1 f6.1 f6.2.1 f6.2.2.1, f6.2.1.trans bv3, by rw [X6.warmed.alike.findClass, f6.1]; exact bf3, by rw [f6.2.2.1, bs3]; simp, fun j hj => by rw [f6.2.2.2 j, if_pos (by omega)]; rfl, kp3.put p6 (Nat.le_refl _)⟩, by rw [p6.2.2, bh3, hh0]; simp⟩, fun fs hl => c8.trans (X8.areturnOut hexec rfl hret rfl (hb hbytes d58) hl)⟩
end Cmp3
namespace CodL
def yN : MethodName := ⟨"java/lang/StringUTF16", "coderFromArrayLen", "([BI)B"⟩
abbrev yB : ByteArray := jdk_52_method_15_code
theorem d0 : decode yB 0 = .ok (.iload_n 1, 1) := by decide +kernel
theorem d1 : decode yB 1 = .ok (.aload_n 0, 1) := by decide +kernel
theorem d2 : decode yB 2 = .ok (.arraylength, 1) := by decide +kernel
theorem d3 : decode yB 3 = .ok (.isub, 1) := by decide +kernel
theorem d4 : decode yB 4 = .ok (.bipush 31, 2) := by decide +kernel
theorem d6 : decode yB 6 = .ok (.iushr, 1) := by decide +kernel
theorem d7 : decode yB 7 = .ok (.i2b, 1) := by decide +kernel
theorem d8 : decode yB 8 = .ok (.ireturn, 1) := by decide +kernel
def site : List Cond := []
def tab : Cond := tabOf yN yB 2 (some .byte) site
def P (d : Addr) (B : Cell) (args : Array Value) (s : State) : Prop := args = #[.ref d, .int (Int32.ofNat B.slots.size)] ∧ Arr .byte d B s
def E (r : Option Value) (s u : State) : Prop := XT.PureE (some (.int 0)) r s u
/-- an array as long as the number of chars: LATIN1 -/
theorem law (l : Launch) (d : Addr) (B : Cell) : Law l yN 2 2 0 0 yB 2 (some .byte) site (P d B) E [] 0 0 := by
  refine Law.of_walk (plainFor_of_name (by decide +kernel)) (by decide +kernel) (by decide +kernel) (by decide) (fun _ _ h => by rw [h.1]; rfl) (fun _ U U' hal hh h => ⟨h.1, h.2.mv hal hh⟩) (fun r U U' V V' h1 hal h2 h => XT.PureE.mv r U U' V V' h1 hal h2 h) ?_
  intro p e s m args below meth c s₁ X0 hexec hbytes hml hret hlk hnm hown hh0 W hP
  obtain ⟨rfl, hB⟩ := hP
  have hB0 := hB.mv X0.warmed.alike hh0
  have c1 : Steps p.tables e below (s₁.setTop (entryFrame m #[.ref d, .int (Int32.ofNat B.slots.size)] 2)) (s₁.setTop (mkF m 0 #[.val (.ref d), .val (.int (Int32.ofNat B.slots.size))] [])) := entry rfl
  have c2 : Steps p.tables e below (s₁.setTop (entryFrame m #[.ref d, .int (Int32.ofNat B.slots.size)] 2)) (s₁.setTop (mkF m 2 #[.val (.ref d), .val (.int (Int32.ofNat B.slots.size))] [.ref d, .int (Int32.ofNat B.slots.size)])) := c1.trans (by
    refine XS.iloadN X0.here hexec rfl (hb hbytes d0) rfl ?_
    refine XS.aloadN X0.here hexec rfl (hb hbytes d1) rfl rfl ?_
    exact Steps.refl _)
  have c3 : Steps p.tables e below (s₁.setTop (entryFrame m #[.ref d, .int (Int32.ofNat B.slots.size)] 2)) (s₁.setTop (mkF m 8 #[.val (.ref d), .val (.int (Int32.ofNat B.slots.size))] [.int (lo8 (ushr (Int32.ofNat B.slots.size - Int32.ofNat B.slots.size) 31))])) := c2.trans (by
    refine X0.alen hexec hB0 rfl rfl (hb hbytes d2) ?_
    refine XS.isub X0.here hexec rfl (hb hbytes d3) rfl ?_
    refine bipushV X0.here hexec rfl 31 (hb hbytes d4) (by decide) ?_
    refine iushr X0.here hexec rfl (hb hbytes d6) rfl ?_
    refine i2b X0.here hexec rfl (hb hbytes d7) rfl ?_
    exact Steps.refl _)
  have e0 : lo8 (ushr (Int32.ofNat B.slots.size - Int32.ofNat B.slots.size) 31) = 0 := by rw [Int32.sub_self]; decide
  rw [e0] at c3
  exact ⟨s₁, some (.int 0), _, _, _, X0, rfl, rfl, rfl, (fun h => by cases h), ⟨rfl, hh0⟩, fun fs hl => c3.trans (X0.ireturnOut hexec hret rfl (Or.inr (Or.inr (Or.inl rfl))) (hb hbytes d8) hl)⟩
end CodL
/-- the String at a is Latin-1 over a new byte[] (the heap's one new cell): the low bytes of the len chars of A from o on; every cell but a is kept -/
def Got (a : Addr) (D : Cell) (fV fC : Field) (A : Cell) (o len : Nat) (r : Option Value) (s u : State) : Prop := r = none ∧ ∃ D' V : Cell, Blank "java/lang/String" a D' u ∧ Same D D' [fV.slot, fC.slot] ∧ D'.slots[fV.slot]? = some (.ref s.heap.size) ∧ D'.slots[fC.slot]? = some (.int 0) ∧ Arr .byte s.heap.size V u ∧ V.vm = .none ∧ u.vm.findClass "[B" = some V.cls ∧ V.slots.size = len ∧ (∀ j, j < len → V.slots[j]? = some (.int (lo8 (cv A (o + j))))) ∧ (∀ (y : Addr) (c : Cell), y ≠ a → s.heap[y]? = some c → u.heap[y]? = some c) ∧ u.heap.size = s.heap.size + 1
theorem Got.mv {a : Addr} {D A : Cell} {fV fC : Field} {o len : Nat} : ∀ r (U U' V V' : State), U'.heap = U.heap → V.vm.Alike V'.vm → V'.heap = V.heap → Got a D fV fC A o len r U V → Got a D fV fC A o len r U' V' :=
  fun r U U' V V' h1 hal h2 ⟨e0, D', X, a1, a2, a3, a4, a5, a6, a7, a8, a9, a10, a11⟩ => ⟨e0, D', X, a1.mv hal h2, a2, by rw [h1]; exact a3, a4, by rw [h1]; exact a5.mv hal h2, a6, by rw [hal.findClass]; exact a7, a8, a9, by rw [h1, h2]; exact a10, by rw [h1, h2]; exact a11⟩
namespace New4
def yN : MethodName := ⟨"java/lang/String", "<init>", "([CIILjava/lang/Void;)V"⟩
abbrev yB : ByteArray := jdk_42_method_149_code
theorem d0 : decode yB 0 = .ok (.aload_n 0, 1) := by decide +kernel
theorem d1 : decode yB 1 = .ok (.invokespecial 1, 3) := by decide +kernel
theorem d4 : decode yB 4 = .ok (.iload_n 3, 1) := by decide +kernel
theorem d5 : decode yB 5 = .ok (.ifCond (.ne) 22, 3) := by decide +kernel
theorem d27 : decode yB 27 = .ok (.getstatic 38, 3) := by decide +kernel
theorem d30 : decode yB 30 = .ok (.ifCond (.eq) 28, 3) := by decide +kernel
theorem d33 : decode yB 33 = .ok (.aload_n 1, 1) := by decide +kernel
theorem d34 : decode yB 34 = .ok (.iload_n 2, 1) := by decide +kernel
theorem d35 : decode yB 35 = .ok (.iload_n 3, 1) := by decide +kernel
theorem d36 : decode yB 36 = .ok (.invokestatic 177, 3) := by decide +kernel
theorem d39 : decode yB 39 = .ok (.astore 5, 2) := by decide +kernel
theorem d41 : decode yB 41 = .ok (.aload_n 0, 1) := by decide +kernel
theorem d42 : decode yB 42 = .ok (.aload 5, 2) := by decide +kernel
theorem d44 : decode yB 44 = .ok (.iload_n 3, 1) := by decide +kernel
theorem d45 : decode yB 45 = .ok (.invokestatic 47, 3) := by decide +kernel
theorem d48 : decode yB 48 = .ok (.putfield 15, 3) := by decide +kernel
theorem d51 : decode yB 51 = .ok (.aload_n 0, 1) := by decide +kernel
theorem d52 : decode yB 52 = .ok (.aload 5, 2) := by decide +kernel
theorem d54 : decode yB 54 = .ok (.putfield 9, 3) := by decide +kernel
theorem d57 : decode yB 57 = .ok (.return_, 1) := by decide +kernel
def site : List Cond := [.fieldLink "java/lang/String" 38 "java/lang/String" "COMPACT_STRINGS" "Z", Cmp3.tab, CodL.tab, .laysFinal "java/lang/String" "java/lang/String" "value" "[B", .fieldLink "java/lang/String" 9 "java/lang/String" "value" "[B", .laysFinal "java/lang/String" "java/lang/String" "coder" "B", .fieldLink "java/lang/String" 15 "java/lang/String" "coder" "B"] ++ objW "java/lang/String" 1 ++ staticW "java/lang/String" 177 Cmp3.yN ++ staticW "java/lang/String" 47 CodL.yN
def tab : Cond := tabOf yN yB 6 none site
def P (a : Addr) (D : Cell) (fV fC : Field) (b : Addr) (A : Cell) (z : Int32) (o len : Nat) (args : Array Value) (s : State) : Prop := args = #[.ref a, .ref b, .int (Int32.ofNat o), .int (Int32.ofNat len), .null] ∧ Blank "java/lang/String" a D s ∧ Found "java/lang/String" "value" "[B" fV s ∧ Found "java/lang/String" "coder" "B" fC s ∧ Ch b A s ∧ StaticIs s "java/lang/String" "COMPACT_STRINGS" "Z" (.int z) ∧ ¬ z = 0 ∧ 0 < len ∧ o + len ≤ A.slots.size ∧ len ≤ 536870912 ∧ ∀ i, i < len → ¬ 255 < cv A (o + i)
def E (a : Addr) (D : Cell) (fV fC : Field) (A : Cell) (o len : Nat) (r : Option Value) (s u : State) : Prop := Got a D fV fC A o len r s u
/-- len > 0, no char of the range above 255: a Latin-1 String of their low bytes -/
theorem law (l : Launch) (a : Addr) (D : Cell) (fV fC : Field) (b : Addr) (A : Cell) (z : Int32) (o len : Nat) : Law l yN 5 4 2 35 yB 6 none site (P a D fV fC b A z o len) (E a D fV fC A o len) [⟨a, fC.slot⟩, ⟨a, fV.slot⟩] 1 len := by
  refine Law.of_walk (plainFor_of_name (by decide +kernel)) (by decide +kernel) (by decide +kernel) (by decide) (fun _ _ h => by rw [h.1]; rfl) (fun _ U U' hal hh h => ⟨h.1, h.2.1.mv hal hh, h.2.2.1.al hal, h.2.2.2.1.al hal, h.2.2.2.2.1.mv hal hh, h.2.2.2.2.2.1.there hal hh, h.2.2.2.2.2.2⟩) (fun r U U' V V' h1 hal h2 h => Got.mv r U U' V V' h1 hal h2 h) ?_
  intro p e s m args below meth c s₁ X0 hexec hbytes hml hret hlk hnm hown hh0 W hP
  obtain ⟨rfl, hB, f1, f2, hA, s1, hz, l0, l1, l2, hp⟩ := hP
  have a31 := hA.1.2.2.2
  have c1 : Steps p.tables e below (s₁.setTop (entryFrame m #[.ref a, .ref b, .int (Int32.ofNat o), .int (Int32.ofNat len), .null] 6)) (s₁.setTop (mkF m 0 #[.val (.ref a), .val (.ref b), .val (.int (Int32.ofNat o)), .val (.int (Int32.ofNat len)), .val .null, .unset] [])) := entry rfl
  have c2 : Steps p.tables e below (s₁.setTop (entryFrame m #[.ref a, .ref b, .int (Int32.ofNat o), .int (Int32.ofNat len), .null] 6)) (s₁.setTop (mkF m 1 #[.val (.ref a), .val (.ref b), .val (.int (Int32.ofNat o)), .val (.int (Int32.ofNat len)), .val .null, .unset] [.ref a])) := c1.trans (by
    refine XS.aloadN X0.here hexec rfl (hb hbytes d0) rfl rfl ?_
    exact Steps.refl _)
  obtain ⟨T3, X3, q3, st3⟩ := X0.oinit hexec hown (wks W (objW "java/lang/String" 1)) (g := (mkF m 1 #[.val (.ref a), .val (.ref b), .val (.int (Int32.ofNat o)), .val (.int (Int32.ofNat len)), .val .null, .unset] [.ref a])) rfl (by rw [hml]; rfl) (rest := []) rfl (hb hbytes d1) (W := 0) (by show 2 * 0 + 0 ≤ _; decide) (Nat.le_of_ble_eq_true rfl) (Nat.le_of_ble_eq_true rfl)
  have hh3 := q3.trans hh0
  have c4 : Steps p.tables e below (s₁.setTop (entryFrame m #[.ref a, .ref b, .int (Int32.ofNat o), .int (Int32.ofNat len), .null] 6)) (T3.setTop (mkF m 27 #[.val (.ref a), .val (.ref b), .val (.int (Int32.ofNat o)), .val (.int (Int32.ofNat len)), .val .null, .unset] [])) := (c2.trans (st3 _ (Steps.refl _))).trans (by
    refine XS.iloadN X3.here hexec rfl (hb hbytes d4) rfl ?_
    refine XS.ifYes X3.here hexec rfl (pc0 := 5) rfl (hb hbytes d5) rfl (i0_ne_t (nz32 (by omega) l0)) (by decide) rfl ?_
    exact Steps.refl _)
  obtain ⟨T5, X5, q5, st5⟩ := X3.sget hexec hown (wk W (.fieldLink "java/lang/String" 38 "java/lang/String" "COMPACT_STRINGS" "Z")) s1 (fun _ _ h => by rw [hh3]; exact h) (g := (mkF m 27 #[.val (.ref a), .val (.ref b), .val (.int (Int32.ofNat o)), .val (.int (Int32.ofNat len)), .val .null, .unset] [])) rfl (hb hbytes d27)
  have hh5 := q5.trans hh3
  have c6 : Steps p.tables e below (s₁.setTop (entryFrame m #[.ref a, .ref b, .int (Int32.ofNat o), .int (Int32.ofNat len), .null] 6)) (T5.setTop (mkF m 30 #[.val (.ref a), .val (.ref b), .val (.int (Int32.ofNat o)), .val (.int (Int32.ofNat len)), .val .null, .unset] [.int z])) := c4.trans (st5 _ (Steps.refl _))
  have c7 : Steps p.tables e below (s₁.setTop (entryFrame m #[.ref a, .ref b, .int (Int32.ofNat o), .int (Int32.ofNat len), .null] 6)) (T5.setTop (mkF m 36 #[.val (.ref a), .val (.ref b), .val (.int (Int32.ofNat o)), .val (.int (Int32.ofNat len)), .val .null, .unset] [.int (Int32.ofNat len), .int (Int32.ofNat o), .ref b])) := c6.trans (by
    refine XS.ifNo X5.here hexec rfl (hb hbytes d30) rfl (i0_eq_f hz) ?_
    refine XS.aloadN X5.here hexec rfl (hb hbytes d33) rfl rfl ?_
    refine XS.iloadN X5.here hexec rfl (hb hbytes d34) rfl ?_
    refine XS.iloadN X5.here hexec rfl (hb hbytes d35) rfl ?_
    exact Steps.refl _)
  obtain ⟨v8, T8, X8, E8, g8⟩ := X5.callS hexec (Cmp3.law l b A o len) hown (wks W (staticW "java/lang/String" 177 Cmp3.yN)) (wk W Cmp3.tab) (W := 0) (Nat.le_of_ble_eq_true rfl) (Nat.le_of_ble_eq_true rfl) (Nat.le_refl _) (by show 0 + len ≤ len; omega) (g := (mkF m 36 #[.val (.ref a), .val (.ref b), .val (.int (Int32.ofNat o)), .val (.int (Int32.ofNat len)), .val .null, .unset] [.int (Int32.ofNat len), .int (Int32.ofNat o), .ref b])) rfl (by rw [hml]; rfl) c7 (argsL := [.ref b, .int (Int32.ofNat o), .int (Int32.ofNat len)]) (rest := []) rfl rfl (by show 2 * 0 + 0 ≤ _; decide) (hb hbytes d36) (⟨rfl, hA.mv X5.warmed.alike hh5, l1, l2, hp⟩)
  obtain ⟨e8, z8⟩ := E8
  obtain ⟨rfl, N, n1, n2, n3, n4, n5, n6⟩ := NewArr.mv _ T5 s _ _ hh5.symm (Vm.Alike.refl _) rfl e8
  rw [hh5] at z8
  have hB1 := hB.keep X8.warmed.alike (n6 _ _ hB.1)
  have hne : s.heap.size ≠ a := (Nat.ne_of_lt (Array.getElem?_eq_some_iff.mp hB.1).1).symm
  have c9 : Steps p.tables e below (s₁.setTop (entryFrame m #[.ref a, .ref b, .int (Int32.ofNat o), .int (Int32.ofNat len), .null] 6)) (T8.setTop (mkF m 39 #[.val (.ref a), .val (.ref b), .val (.int (Int32.ofNat o)), .val (.int (Int32.ofNat len)), .val .null, .unset] [.ref s.heap.size])) := g8
  have c10 : Steps p.tables e below (s₁.setTop (entryFrame m #[.ref a, .ref b, .int (Int32.ofNat o), .int (Int32.ofNat len), .null] 6)) (T8.setTop (mkF m 45 #[.val (.ref a), .val (.ref b), .val (.int (Int32.ofNat o)), .val (.int (Int32.ofNat len)), .val .null, .val (.ref s.heap.size)] [.int (Int32.ofNat N.slots.size), .ref s.heap.size, .ref a])) := by
    have hc : Steps p.tables e below (s₁.setTop (entryFrame m #[.ref a, .ref b, .int (Int32.ofNat o), .int (Int32.ofNat len), .null] 6)) (T8.setTop (mkF m 45 #[.val (.ref a), .val (.ref b), .val (.int (Int32.ofNat o)), .val (.int (Int32.ofNat len)), .val .null, .val (.ref s.heap.size)] [.int (Int32.ofNat len), .ref s.heap.size, .ref a])) := c9.trans (by
      refine XS.astore X8.here hexec rfl (hb hbytes d39) rfl rfl rfl ?_
      refine XS.aloadN X8.here hexec rfl (hb hbytes d41) rfl rfl ?_
      refine XS.aload X8.here hexec rfl (hb hbytes d42) rfl rfl ?_
      refine XS.iloadN X8.here hexec rfl (hb hbytes d44) rfl ?_
      exact Steps.refl _)
    rw [n4]; exact hc
  obtain ⟨v11, T11, X11, E11, g11⟩ := X8.callS hexec (CodL.law l s.heap.size N) hown (wks W (staticW "java/lang/String" 47 CodL.yN)) (wk W CodL.tab) (W := 1) (Nat.le_of_ble_eq_true rfl) (Nat.le_of_ble_eq_true rfl) (Nat.le_refl _) (by show 0 + len + 0 ≤ len; omega) (g := (mkF m 45 #[.val (.ref a), .val (.ref b), .val (.int (Int32.ofNat o)), .val (.int (Int32.ofNat len)), .val .null, .val (.ref s.heap.size)] [.int (Int32.ofNat N.slots.size), .ref s.heap.size, .ref a])) rfl (by rw [hml]; rfl) c10 (argsL := [.ref s.heap.size, .int (Int32.ofNat N.slots.size)]) (rest := [.ref a]) rfl rfl (by show 2 * 0 + (1 + 0) ≤ _; decide) (hb hbytes d45) (⟨rfl, n1⟩)
  obtain ⟨rfl, q11⟩ := E11
  have hB11 := hB1.mv (X8.warmed.alike.symm.trans X11.warmed.alike) q11
  have c12 : Steps p.tables e below (s₁.setTop (entryFrame m #[.ref a, .ref b, .int (Int32.ofNat o), .int (Int32.ofNat len), .null] 6)) (T11.setTop (mkF m 48 #[.val (.ref a), .val (.ref b), .val (.int (Int32.ofNat o)), .val (.int (Int32.ofNat len)), .val .null, .val (.ref s.heap.size)] [.int 0, .ref a])) := g11
  obtain ⟨T13, X13, p13, bl13, sl13, st13⟩ := X11.finit hexec hown (wk W (.fieldLink "java/lang/String" 15 "java/lang/String" "coder" "B")) (Or.inr ⟨_, (wk W (.laysFinal "java/lang/String" "java/lang/String" "coder" "B"))⟩) (Or.inl ⟨rfl, hnm⟩) f2 (Or.inl rfl) hB11 (t := .byte) (by decide +kernel) rfl (g := (mkF m 48 #[.val (.ref a), .val (.ref b), .val (.int (Int32.ofNat o)), .val (.int (Int32.ofNat len)), .val .null, .val (.ref s.heap.size)] [.int 0, .ref a])) rfl (rest := []) rfl (hb hbytes d48)
  have c14 : Steps p.tables e below (s₁.setTop (entryFrame m #[.ref a, .ref b, .int (Int32.ofNat o), .int (Int32.ofNat len), .null] 6)) (T13.setTop (mkF m 54 #[.val (.ref a), .val (.ref b), .val (.int (Int32.ofNat o)), .val (.int (Int32.ofNat len)), .val .null, .val (.ref s.heap.size)] [.ref s.heap.size, .ref a])) := (c12.trans (st13 _ (Steps.refl _))).trans (by
    refine XS.aloadN X13.here hexec rfl (hb hbytes d51) rfl rfl ?_
    refine XS.aload X13.here hexec rfl (hb hbytes d52) rfl rfl ?_
    exact Steps.refl _)
  obtain ⟨T15, X15, p15, bl15, sl15, st15⟩ := X13.finit hexec hown (wk W (.fieldLink "java/lang/String" 9 "java/lang/String" "value" "[B")) (Or.inr ⟨_, (wk W (.laysFinal "java/lang/String" "java/lang/String" "value" "[B"))⟩) (Or.inl ⟨rfl, hnm⟩) f1 (Or.inl rfl) bl13 (t := (.array .byte)) (by decide +kernel) rfl (g := (mkF m 54 #[.val (.ref a), .val (.ref b), .val (.int (Int32.ofNat o)), .val (.int (Int32.ofNat len)), .val .null, .val (.ref s.heap.size)] [.ref s.heap.size, .ref a])) rfl (rest := []) rfl (hb hbytes d54)
  have c16 : Steps p.tables e below (s₁.setTop (entryFrame m #[.ref a, .ref b, .int (Int32.ofNat o), .int (Int32.ofNat len), .null] 6)) (T15.setTop (mkF m 57 #[.val (.ref a), .val (.ref b), .val (.int (Int32.ofNat o)), .val (.int (Int32.ofNat len)), .val .null, .val (.ref s.heap.size)] [])) := c14.trans (st15 _ (Steps.refl _))
  have ap := apart (Or.inr ⟨_, (wk W (.laysFinal "java/lang/String" "java/lang/String" "value" "[B"))⟩) (Or.inr ⟨_, (wk W (.laysFinal "java/lang/String" "java/lang/String" "coder" "B"))⟩) f1 f2 (t₁ := .array .byte) (t₂ := .byte) (by decide +kernel) (by decide +kernel) (by decide)
  have al := X8.warmed.alike.symm.trans X15.warmed.alike
  have n7 : T11.heap[s.heap.size]? = some N := by rw [q11]; exact n1.1
  exact ⟨T15, none, _, _, _, X15, by simp, rfl, by omega, (fun _ => rfl), ⟨rfl, _, N, bl15, ((Same.refl D _).set _ (by simp)).set _ (by simp), sl15, (Cell.slots_setSlot_ne _ ap).trans sl13, n1.keep al (p15.other hne (p13.other hne n7)), n2, by rw [al.findClass]; exact n3, n4, n5, fun y c h1 h2 => p15.other h1 (p13.other h1 (by rw [q11]; exact n6 y c h2)), by rw [p15.2.2, p13.2.2, q11]; exact z8⟩, fun fs hl => c16.trans (X15.returnOut hexec hret (hb hbytes d57) hl)⟩
end New4
namespace New1
def yN : MethodName := ⟨"java/lang/String", "<init>", "([C)V"⟩
abbrev yB : ByteArray := jdk_42_method_3_code
theorem d0 : decode yB 0 = .ok (.aload_n 0, 1) := by decide +kernel
theorem d1 : decode yB 1 = .ok (.aload_n 1, 1) := by decide +kernel
theorem d2 : decode yB 2 = .ok (.iconst 0, 1) := by decide +kernel
theorem d3 : decode yB 3 = .ok (.aload_n 1, 1) := by decide +kernel
theorem d4 : decode yB 4 = .ok (.arraylength, 1) := by decide +kernel
theorem d5 : decode yB 5 = .ok (.aconst_null, 1) := by decide +kernel
theorem d6 : decode yB 6 = .ok (.invokespecial 27, 3) := by decide +kernel
theorem d9 : decode yB 9 = .ok (.return_, 1) := by decide +kernel
def site : List Cond := [New4.tab] ++ initW "java/lang/String" 27 New4.yN
def tab : Cond := tabOf yN yB 2 none site
def P (a : Addr) (D : Cell) (fV fC : Field) (b : Addr) (A : Cell) (z : Int32) (args : Array Value) (s : State) : Prop := args = #[.ref a, .ref b] ∧ Blank "java/lang/String" a D s ∧ Found "java/lang/String" "value" "[B" fV s ∧ Found "java/lang/String" "coder" "B" fC s ∧ Ch b A s ∧ StaticIs s "java/lang/String" "COMPACT_STRINGS" "Z" (.int z) ∧ ¬ z = 0 ∧ 0 < A.slots.size ∧ A.slots.size ≤ 536870912 ∧ ∀ i, i < A.slots.size → ¬ 255 < cv A i
def E (a : Addr) (D : Cell) (fV fC : Field) (A : Cell) (r : Option Value) (s u : State) : Prop := Got a D fV fC A 0 A.slots.size r s u
/-- new String(chars), not empty, no char above 255: a Latin-1 String of their low bytes -/
theorem law (l : Launch) (a : Addr) (D : Cell) (fV fC : Field) (b : Addr) (A : Cell) (z : Int32) : Law l yN 2 1 3 52 yB 2 none site (P a D fV fC b A z) (E a D fV fC A) [⟨a, fC.slot⟩, ⟨a, fV.slot⟩] 1 A.slots.size := by
  refine Law.of_walk (plainFor_of_name (by decide +kernel)) (by decide +kernel) (by decide +kernel) (by decide) (fun _ _ h => by rw [h.1]; rfl) (fun _ U U' hal hh h => ⟨h.1, h.2.1.mv hal hh, h.2.2.1.al hal, h.2.2.2.1.al hal, h.2.2.2.2.1.mv hal hh, h.2.2.2.2.2.1.there hal hh, h.2.2.2.2.2.2⟩) (fun r U U' V V' h1 hal h2 h => Got.mv r U U' V V' h1 hal h2 h) ?_
  intro p e s m args below meth c s₁ X0 hexec hbytes hml hret hlk hnm hown hh0 W hP
  obtain ⟨rfl, hB, f1, f2, hA, s1, hz, l0, l2, hp⟩ := hP
  have c1 : Steps p.tables e below (s₁.setTop (entryFrame m #[.ref a, .ref b] 2)) (s₁.setTop (mkF m 0 #[.val (.ref a), .val (.ref b)] [])) := entry rfl
  have c2 : Steps p.tables e below (s₁.setTop (entryFrame m #[.ref a, .ref b] 2)) (s₁.setTop (mkF m 6 #[.val (.ref a), .val (.ref b)] [.null, .int (Int32.ofNat A.slots.size), .int 0, .ref b, .ref a])) := c1.trans (by
    refine XS.aloadN X0.here hexec rfl (hb hbytes d0) rfl rfl ?_
    refine XS.aloadN X0.here hexec rfl (hb hbytes d1) rfl rfl ?_
    refine iconstV X0.here hexec rfl 0 (hb hbytes d2) (by decide) ?_
    refine XS.aloadN X0.here hexec rfl (hb hbytes d3) rfl rfl ?_
    refine X0.alen hexec (hA.1.mv X0.warmed.alike hh0) rfl rfl (hb hbytes d4) ?_
    refine XS.aconstNull X0.here hexec rfl (hb hbytes d5) ?_
    exact Steps.refl _)
  obtain ⟨v3, T3, X3, E3, g3⟩ := X0.callN hexec (New4.law l a D fV fC b A z 0 A.slots.size) rfl hown (wks W (initW "java/lang/String" 27 New4.yN)) (W New4.tab (by simp only [site, List.mem_cons, List.mem_append, true_or, or_true])) (W := 0) (Nat.le_of_ble_eq_true rfl) (Nat.le_of_ble_eq_true rfl) (Nat.le_refl _) (by show 0 + A.slots.size ≤ A.slots.size; omega) (g := (mkF m 6 #[.val (.ref a), .val (.ref b)] [.null, .int (Int32.ofNat A.slots.size), .int (Int32.ofNat 0), .ref b, .ref a])) rfl (by rw [hml]; rfl) c2 (argsL := [.ref b, .int (Int32.ofNat 0), .int (Int32.ofNat A.slots.size), .null]) (rest := []) rfl rfl (by show 2 * 0 + 0 ≤ _; decide) (hb hbytes d6) (⟨rfl, hB.mv X0.warmed.alike hh0, f1.al X0.warmed.alike, f2.al X0.warmed.alike, hA.mv X0.warmed.alike hh0, s1.there X0.warmed.alike hh0, hz, l0, by omega, l2, fun i hi => by rw [Nat.zero_add]; exact hp i hi⟩)
  have e0 := Got.mv _ s₁ s _ _ hh0.symm (Vm.Alike.refl _) rfl E3
  obtain rfl := e0.1
  have c4 : Steps p.tables e below (s₁.setTop (entryFrame m #[.ref a, .ref b] 2)) (T3.setTop (mkF m 9 #[.val (.ref a), .val (.ref b)] [])) := g3
  exact ⟨T3, none, _, _, _, X3, by simp, rfl, by omega, (fun _ => rfl), e0, fun fs hl => c4.trans (X3.returnOut hexec hret (hb hbytes d9) hl)⟩
theorem pays {l : Launch} {R : Room} {p : Program} {e : Env} {below : List Frame} {s : State} {sargs : Array Value} {len W : Nat} (a : Addr) (D : Cell) (fV fC : Field) (b : Addr) (A : Cell) (z : Int32) (htab : tab.before sargs s = true) (hfr : 4 ≤ R.frames) (hlo : W + 65 ≤ R.locals) :
    Back l R p e below s sargs yN len W (fun A₁ a₁ => A₁.cells + 1 ≤ R.cells ∧ A₁.slots + A.slots.size ≤ R.slots ∧ P a D fV fC b A z a₁ A₁.U) (fun A₁ _ v₁ B₁ => E a D fV fC A v₁ A₁.U B₁.U ∧ B₁.locs = A₁.locs ++ [⟨a, fC.slot⟩, ⟨a, fV.slot⟩] ∧ B₁.cells = A₁.cells + 1 ∧ B₁.slots = A₁.slots + A.slots.size) :=
  (law l a D fV fC b A z).pays htab hfr (by omega)
end New1
end StrChars
namespace StrChars.Road
open Jvm Sem ClassFile Op Lib Jvm.Stand Jvm.Free Jvm.Free.XT
open Jvm.Lib.Cold (StaticIs)
abbrev ST : String := "java/lang/String"
/-- every table word that New1's law asks, flat -/
abbrev words : List Jvm.Cond := [.code New1.yN New1.yB 2 none, .initialized ST, .methodLink ST 27 New4.yN, .instanceMethod New4.yN,
  .code New4.yN New4.yB 6 none, .fieldLink ST 38 ST "COMPACT_STRINGS" "Z", .laysFinal ST ST "value" "[B", .fieldLink ST 9 ST "value" "[B", .laysFinal ST ST "coder" "B", .fieldLink ST 15 ST "coder" "B",
  .methodLink ST 1 Lib.objectInit, .instanceMethod Lib.objectInit, .code Lib.objectInit ⟨#[0xb1]⟩ 1 none, .methodLink ST 177 Cmp3.yN, .static Cmp3.yN, .methodLink ST 47 CodL.yN, .static CodL.yN,
  .code Cmp3.yN Cmp3.yB 6 (some (.array .byte)), .initialized U16, .arrayClass .byte, .methodLink U16 115 Cmp5.yN, .static Cmp5.yN, .code Cmp5.yN Cmp5.yB 7 (some .int), .code CodL.yN CodL.yB 2 (some .byte)]
theorem tab_of {a : Array Value} {s : State} (h : ∀ w ∈ words, w.before a s = true) : New1.tab.before a s = true := by
  have h5 : Cmp5.tab.before a s = true := unparts (wk h (.code Cmp5.yN Cmp5.yB 7 (some .int))) (wks h (.initialized Cmp5.yN.cls :: Cmp5.site))
  have hc : CodL.tab.before a s = true := unparts (wk h (.code CodL.yN CodL.yB 2 (some .byte))) (wks h (.initialized CodL.yN.cls :: CodL.site))
  have q5 : ∀ w ∈ Cmp5.tab :: words, w.before a s = true := fun w hw => (List.mem_cons.mp hw).elim (fun e => e ▸ h5) (h w)
  have h3 : Cmp3.tab.before a s = true := unparts (wk q5 (.code Cmp3.yN Cmp3.yB 6 (some (.array .byte)))) (wks q5 (.initialized Cmp3.yN.cls :: Cmp3.site))
  have q3 : ∀ w ∈ Cmp3.tab :: CodL.tab :: words, w.before a s = true := fun w hw => (List.mem_cons.mp hw).elim (fun e => e ▸ h3) fun hw => (List.mem_cons.mp hw).elim (fun e => e ▸ hc) (h w)
  have h4 : New4.tab.before a s = true := unparts (wk q3 (.code New4.yN New4.yB 6 none)) (wks q3 (.initialized New4.yN.cls :: New4.site))
  have q4 : ∀ w ∈ New4.tab :: words, w.before a s = true := fun w hw => (List.mem_cons.mp hw).elim (fun e => e ▸ h4) (h w)
  exact unparts (wk q4 (.code New1.yN New1.yB 2 none)) (wks q4 (.initialized New1.yN.cls :: New1.site))
/-- the words ride from the start Z to the walk's own state -/
theorem moved {Z s : State} {a0 args : Array Value} (hZ : Z.Warmed39 s.vm) (hw : ∀ d ∈ words, d.before a0 Z = true) : ∀ d ∈ words, d.before args s = true := fun d hd => by
  have q := hw d hd
  have t : ∀ d ∈ words, d = .arrayClass .byte ∨ (d.onTables && d.keepsFace) = true := by decide +kernel
  rcases t d hd with rfl | t
  · exact RoadKit.mvA hZ q
  · exact RoadKit.mv hZ q t
/-- WHAT COMES BACK, over the tables of the start Z: h the heap at the call, h' behind it -/
def Q (Z : State) (x : Addr) (A : Cell) (h : Heap) (v : Option Value) (h' : Heap) (L : List Loc) : Prop := v = none ∧ (∀ y ∈ L, y.base = x) ∧ RoadKit.Keep h h' [x] ∧ h'.size = h.size + 1 ∧ RoadKit.Exa Z h' x ST ∧ RoadKit.Fld Z h' x ST "value" "[B" (.ref h.size) ∧ RoadKit.Fld Z h' x ST "coder" "B" (.int 0) ∧
  (∃ V : Cell, RoadKit.Arr Z h' h.size V .byte ∧ V.vm = .none ∧ Z.vm.findClass "[B" = some V.cls ∧ V.slots.size = A.slots.size ∧ ∀ j, j < A.slots.size → V.slots[j]? = some (.int (lo8 (cv A j)))) ∧
  ∀ (O n d : String) (w : Value), RoadKit.Fld Z h x O n d w → RoadKit.slotOf Z O n d ≠ RoadKit.slotOf Z ST "value" "[B" → RoadKit.slotOf Z O n d ≠ RoadKit.slotOf Z ST "coder" "B" → RoadKit.Fld Z h' x O n d w
/-- **new String(chars) AT A CALL, IN THE ROAD'S FORM**: for specialBack behind newO: x the fresh String, b the char[] with the cell A -/
theorem back {p : Program} {l : Launch} {e : Env} {R : Room} {s : State} {args : Array Value} {below : List Frame} {len W : Nat} {Z : State} {a0 : Array Value} {h : Heap} (hZ : Z.Warmed39 s.vm) (hw : ∀ d ∈ words, d.before a0 Z = true) {kI : Nat} (wi : (Jvm.Cond.instantiable ST kI).before a0 Z = true)
    {x b : Addr} {A : Cell} {z : Int32} {v0 c0 : Value} (E : RoadKit.Exa Z h x ST) (V : RoadKit.Fld Z h x ST "value" "[B" v0) (C : RoadKit.Fld Z h x ST "coder" "B" c0) (K : RoadKit.Arr Z h b A .char) (hty : Typed .char A) (S : RoadKit.Sta Z h ST "COMPACT_STRINGS" "Z" (.int z)) (hz : ¬ z = 0)
    (l0 : 0 < A.slots.size) (l2 : A.slots.size ≤ 536870912) (hp : ∀ i, i < A.slots.size → ¬ 255 < cv A i) (hfr : 4 ≤ R.frames) (hlo : W + 65 ≤ R.locals) :
    Back l R p e below s args New1.yN len W (fun P a => a = #[.ref x, .ref b] ∧ P.U.heap = h ∧ P.cells + 1 ≤ R.cells ∧ P.slots + A.slots.size ≤ R.slots)
      (fun P _ v B => ∃ L, Q Z x A h v B.U.heap L ∧ B.locs = P.locs ++ L ∧ B.cells = P.cells + 1 ∧ B.slots = P.slots + A.slots.size) := by
  intro m meth c P g ig mk a X hg hsize hdg hW hn hp'
  obtain ⟨rfl, rfl, r1, r2⟩ := hp'
  have al : Z.vm.Alike P.U.vm := hZ.alike.trans X.warmed.alike
  obtain ⟨D, cfV, kV, iV, fV, hD, gV, stV, knV, obV, asV, slV⟩ := id V
  obtain ⟨D', cfC, kC, iC, fC, hD', gC, stC, -, -, asC, slC⟩ := id C
  cases hD.symm.trans hD'
  obtain ⟨D2, kD, e1, e2, e3, e4, e5⟩ := id E
  cases hD.symm.trans e1
  obtain ⟨c2, k2, i1, i2, i3, -⟩ := Cond.instantiable_spec wi
  cases e2.symm.trans i1
  cases e3.symm.trans i2
  obtain ⟨kU, u1, u2⟩ := al.2.2 _ _ e3
  have hB : Blank ST x D P.U := ⟨hD, ⟨knV, fun q hq => by rw [hq] at obV; cases obV⟩, by rw [al.findClass]; exact e2, kU, u1, by rw [u2]; exact i3, by rw [u2]; exact e5 i3⟩
  have F1 : Found ST "value" "[B" fV P.U := ⟨SBG.found_only al ⟨cfV, kV, iV, gV⟩, stV⟩
  have F2 : Found ST "coder" "B" fC P.U := ⟨SBG.found_only al ⟨cfC, kC, iC, gC⟩, stC⟩
  have hA : Ch b A P.U := ⟨⟨K.1, State.isArrayOf_alike al K.2.1, K.2.2, by omega⟩, hty⟩
  have hS : StaticIs P.U ST "COMPACT_STRINGS" "Z" (.int z) := by
    obtain ⟨cfS, iS, kS, fS, st, cS, t1, t2, t3, t4, t5, t6, t7⟩ := S
    exact StaticIs.there (s := { Z with heap := P.U.heap }) ⟨cfS, iS, kS, fS, st, cS, t1, t2, t3, t4, t5, (fun q => by rw [q] at t6; cases t6), t7⟩ al rfl
  obtain ⟨v, B, X', ⟨⟨hv, E', V', q1, q2, q3, q4, q5, q6, q7, q8, q9, q10, q11⟩, hl, hc, hs⟩, st⟩ := New1.pays x D fV fC b A z (tab_of (moved hZ hw)) hfr hlo m meth c P g ig mk _ X hg hsize hdg hW hn ⟨r1, r2, rfl, hB, F1, F2, hA, hS, hz, l0, l2, hp⟩
  have al' : Z.vm.Alike B.U.vm := hZ.alike.trans X'.warmed.alike
  have hsz : E'.slots.size = D.slots.size := by
    obtain ⟨-, -, -, kB, w1, w2, w3⟩ := q1
    obtain ⟨kB', y1, y2⟩ := al'.2.2 _ _ e3
    rw [q2.2.1] at w1
    cases w1.symm.trans y1
    rw [w3, e5 i3, y2]
  refine ⟨v, B, X', ⟨_, ⟨hv, ?_, ⟨by omega, fun y cy hy hn' => q10 y cy (by simpa using hn') hy, fun y cy hy => ?_⟩, q11, ⟨E', _, q1.1, by rw [q2.2.1]; exact e2, by rw [q2.2.1]; exact e3, by rw [q2.1]; exact obV, fun _ => by rw [hsz]; exact e5 i3⟩,
    ⟨E', cfV, kV, iV, fV, q1.1, gV, stV, by rw [q2.1]; exact knV, by rw [q2.1]; exact obV, by rw [q2.2.1]; exact asV, q3⟩, ⟨E', cfC, kC, iC, fC, q1.1, gC, stC, by rw [q2.1]; exact knV, by rw [q2.1]; exact obV, by rw [q2.2.1]; exact asC, q4⟩,
    ⟨V', ⟨q5.1, State.isArrayOf_alike al'.symm q5.2.1, q5.2.2.1⟩, q6, by rw [← al'.findClass]; exact q7, q8, fun j hj => by have := q9 j hj; rwa [Nat.zero_add] at this⟩, fun O n d w F n1 n2 => ?_⟩, hl, hc, hs⟩, st⟩
  · intro y hy
    simp only [List.mem_cons, List.not_mem_nil, or_false] at hy
    rcases hy with rfl | rfl <;> rfl
  · by_cases q : y = x
    · subst q
      cases hD.symm.trans hy
      exact ⟨E', q1.1, q2.2.1, q2.1, hsz⟩
    · exact ⟨cy, q10 y cy q hy, rfl, rfl, rfl⟩
  · obtain ⟨D3, cf, k, i, f, g1, g2, g3, g4, g5, g6, g7⟩ := F
    cases hD.symm.trans g1
    simp only [RoadKit.slotOf, g2, gV, gC, Option.map_some, Option.getD_some] at n1 n2
    exact ⟨E', cf, k, i, f, q1.1, g2, g3, by rw [q2.1]; exact g4, by rw [q2.1]; exact g5, by rw [q2.2.1]; exact g6, by rw [q2.2.2 f.slot (by simp [n1, n2])]; exact g7⟩
end StrChars.Road
namespace StrChars.Road
open Jvm Sem ClassFile Op Lib Jvm.Stand Jvm.Free Jvm.Free.XT
/-- WHAT COMES BACK, the byte[] as a list of values -/
def QA (Z : State) (x : Addr) (zn : Int32) (cs : List Int32) (h : Heap) (v : Option Value) (h' : Heap) (L : List Loc) : Prop := v = none ∧ (∀ y ∈ L, y.base = x) ∧ RoadKit.Keep h h' [x] ∧ h'.size = h.size + 1 ∧ RoadKit.Exa Z h' x ST ∧ RoadKit.Fld Z h' x ST "value" "[B" (.ref h.size) ∧ RoadKit.Fld Z h' x ST "coder" "B" (.int 0) ∧
  (∃ kb, Z.vm.findClass "[B" = some kb ∧ RoadKit.Arv Z h' h.size kb .byte zn (cs.map fun c => .int (lo8 c)) (.int 0)) ∧
  ∀ (O n d : String) (w : Value), RoadKit.Fld Z h x O n d w → RoadKit.slotOf Z O n d ≠ RoadKit.slotOf Z ST "value" "[B" → RoadKit.slotOf Z O n d ≠ RoadKit.slotOf Z ST "coder" "B" → RoadKit.Fld Z h' x O n d w
/-- **new String(chars) AT A CALL, THE ARRAYS AS LISTS**: the char[] at b holds cs, not empty, no char above 255 -/
theorem backArv {p : Program} {l : Launch} {e : Env} {R : Room} {s : State} {args : Array Value} {below : List Frame} {len W : Nat} {Z : State} {a0 : Array Value} {h : Heap} (hZ : Z.Warmed39 s.vm) (hw : ∀ d ∈ words, d.before a0 Z = true) {kI : Nat} (wi : (Jvm.Cond.instantiable ST kI).before a0 Z = true)
    {x b : Addr} {k : ClassId} {zn z : Int32} {cs : List Int32} {dv v0 c0 : Value} (E : RoadKit.Exa Z h x ST) (V : RoadKit.Fld Z h x ST "value" "[B" v0) (C : RoadKit.Fld Z h x ST "coder" "B" c0) (K : RoadKit.Arv Z h b k .char zn (cs.map Value.int) dv) (S : RoadKit.Sta Z h ST "COMPACT_STRINGS" "Z" (.int z)) (hz : ¬ z = 0)
    (hlen : zn.toNatClampNeg = cs.length) (h0 : 0 < cs.length) (hbig : cs.length ≤ 536870912) (hall : ∀ c ∈ cs, ¬ 255 < c) (hfr : 4 ≤ R.frames) (hlo : W + 65 ≤ R.locals) :
    Back l R p e below s args New1.yN len W (fun P a => a = #[.ref x, .ref b] ∧ P.U.heap = h ∧ P.cells + 1 ≤ R.cells ∧ P.slots + cs.length ≤ R.slots)
      (fun P _ v B => ∃ L, QA Z x zn cs h v B.U.heap L ∧ B.locs = P.locs ++ L ∧ B.cells = P.cells + 1 ∧ B.slots = P.slots + cs.length) := by
  obtain ⟨A, K1, K2, K3, K4, K5, K6⟩ := K
  have e : A.slots.size = cs.length := K3.trans hlen
  have hat : ∀ (i : Nat) (hi : i < cs.length), A.slots[i]? = some (.int cs[i]) := fun i hi => by rw [K5 i (by omega)]; simp [List.getD_eq_getElem?_getD, hi]
  have hcv : ∀ (i : Nat) (hi : i < cs.length), cv A i = cs[i] := fun i hi => by unfold cv; rw [hat i hi]
  have hty : Typed .char A := fun i v hv => by
    have hi : i < A.slots.size := (Array.getElem?_eq_some_iff.mp hv).1
    have q := K5 i hi
    rw [hv] at q
    rw [Option.some.inj q]
    exact K6 i hi
  refine Back.mono (back hZ hw wi E V C K1 hty S hz (by omega) (by omega) (fun i hi => by rw [hcv i (by omega)]; exact hall _ (List.getElem_mem _)) hfr hlo) (fun P a hp => ⟨hp.1, hp.2.1, hp.2.2.1, by rw [e]; exact hp.2.2.2⟩) (fun P a v B hp hq => ?_)
  obtain ⟨L, ⟨q1, q2, q3, q4, q5, q6, q7, ⟨V', v1, v2, v3, v4, v5⟩, q9⟩, hl, hc, hs⟩ := hq
  refine ⟨L, ⟨q1, q2, q3, q4, q5, q6, q7, ⟨V'.cls, v3, V', v1, rfl, by rw [v4, e, hlen], K4, fun i hi => ?_, fun i hi => ?_⟩, q9⟩, hl, hc, by rw [hs, e]⟩
  · have hi' : i < cs.length := by omega
    rw [v5 i (by omega), hcv i hi']; simp [List.getD_eq_getElem?_getD, hi']
  · have hi' : i < cs.length := by omega
    simp only [List.getD_eq_getElem?_getD, List.getElem?_map, List.getElem?_eq_getElem hi', Option.map_some, Option.getD_some]
    exact fits_lo8 _
end StrChars.Road
namespace StrChars.Road
open Jvm Sem ClassFile Op Lib Jvm.Stand Jvm.Free Jvm.Free.XT
/-- WHAT COMES BACK, in the writer's own shape -/
def QV (Z : State) (x : Addr) (N : Int32) (bs : List Int32) (h : Heap) (n0 : Nat) (v : Option Value) (h' : Heap) (L : List Loc) : Prop := v = none ∧ RoadKit.Fr n0 L ∧ RoadKit.Keep h h' [x] ∧ RoadKit.Exa Z h' x ST ∧ RoadKit.Fld Z h' x ST "coder" "B" (.int 0) ∧
  ∃ (t : Addr) (kb : ClassId), n0 ≤ t ∧ h.size ≤ t ∧ ¬ t = x ∧ RoadKit.Fld Z h' x ST "value" "[B" (.ref t) ∧ RoadKit.Arv Z h' t kb .byte N (bs.map Value.int) (.int 0)
/-- **new String(chars) AT A CALL, FOR THE WRITER**: a char[] of n known ints, each 0 to 255 -/
theorem backV {p : Program} {l : Launch} {e : Env} {R : Room} {s : State} {args : Array Value} {below : List Frame} {len W : Nat} {Z : State} {a0 : Array Value} {h : Heap} (hZ : Z.Warmed39 s.vm) (hw : ∀ d ∈ words, d.before a0 Z = true) {kI : Nat} (wi : (Jvm.Cond.instantiable ST kI).before a0 Z = true)
    {x b : Addr} {kC : ClassId} {cs bs : List Int32} {d v0 c0 : Value} {z N : Int32} {n n0 : Nat} (hx0 : n0 ≤ x) (hh0 : n0 ≤ h.size) (E : RoadKit.Exa Z h x ST) (V : RoadKit.Fld Z h x ST "value" "[B" v0) (C : RoadKit.Fld Z h x ST "coder" "B" c0) (K : RoadKit.Arv Z h b kC .char N (cs.map Value.int) d) (S : RoadKit.Sta Z h ST "COMPACT_STRINGS" "Z" (.int z)) (hz : ¬ z = 0)
    (hn : cs.length = n) (hN : N = Int32.ofNat n) (l0 : 0 < n) (l2 : n ≤ 4000) (hp : ∀ c ∈ cs, ¬ c < 0 ∧ ¬ (255 : Int32) < c) (hb : bs = cs.map (fun c => c.toInt8.toInt32)) (hfr : 4 ≤ R.frames) (hlo : W + 65 ≤ R.locals) :
    Back l R p e below s args (⟨"java/lang/String", "<init>", "([C)V"⟩ : MethodName) len W (fun P a => a = #[.ref x, .ref b] ∧ P.U.heap = h ∧ P.cells + 1 ≤ R.cells ∧ P.slots + n ≤ R.slots)
      (fun P _ v B => ∃ L, QV Z x N bs h n0 v B.U.heap L ∧ B.locs = P.locs ++ L ∧ B.cells = P.cells + 1 ∧ B.slots = P.slots + n) := by
  subst hn hN hb
  refine Back.mono (backArv hZ hw wi E V C K S hz (n32 (by omega)) l0 (by omega) (fun c hc => (hp c hc).2) hfr hlo) (fun P a hp => hp) (fun P a v B hp hq => ?_)
  obtain ⟨L, ⟨q1, q2, q3, q4, q5, q6, q7, ⟨kb, v1, v2⟩, q9⟩, hl, hc, hs⟩ := hq
  exact ⟨L, ⟨q1, fun y hy => by rw [q2 y hy]; exact hx0, q3, q5, q7, h.size, kb, hh0, Nat.le_refl _, Nat.ne_of_gt E.lt, q6, by rw [List.map_map]; exact v2⟩, hl, hc, hs⟩
end StrChars.Road
end Jvm.Pilot.@@N@@
namespace Jvm.Pilot.@@N@@
open Jvm Jvm.ClassFile Sem Op Lib Jvm.Free Jvm.Stand Jvm.LawKit Jvm.RoadKit Bundle Jvm.Pilot.@@N@@.Jvm.D
/-! GoKit: a walk told forwards. Go: from this frame on the method comes to its end as Q says; Does: what a call of a method does (over the library's MetFree). -/
section GoKit
variable {p : Program} {l : Launch} {e : Env} {R : Room} {s : State} {m : MethodId} {args : Array Value} {below : List Frame} {meth : Method} {c : Code} {T T' : State} {locs : List Loc} {cells slots : Nat} {Z : State} {a0 : Array Value} {h : Heap} {g g' : JFrame} {Q : Outcome → State → Prop}
def Go (p : Program) (e : Env) (below : List Frame) (Q : Outcome → State → Prop) (T : State) (g : JFrame) : Prop :=
  ∃ s₂ o, Steps p.tables e below (T.setTop g) s₂ ∧ s₂.status = .running ∧ Ended s₂ below o ∧ Q o s₂
theorem Go.st (k : ∀ target, Steps p.tables e below (T'.setTop g') target → Steps p.tables e below (T.setTop g) target) (H : Go p e below Q T' g') : Go p e below Q T g := by
  obtain ⟨s₂, o, h1, r⟩ := H; exact ⟨s₂, o, k _ h1, r⟩
theorem Go.eq (q : g = g') (H : Go p e below Q T g') : Go p e below Q T g := q ▸ H
def Ends (s : State) (k n : Nat) (P : Option Value → Heap → List Loc → Prop) : Outcome → State → Prop :=
  fun o U' => ∃ v L, o = .returned v ∧ P v U'.heap L ∧ FrameEnd s o U' L k n
theorem Go.ret (X : Stand p l e R s m args below meth c T locs cells slots) (hx : p.tables.exec = Jvm.exec) (hlk : meth.locks = false) {pc : Nat} {Ls : Array Slot} {w : Value} {t : FieldType} {i : Instr} {rest : List Value} {P : Option Value → Heap → List Loc → Prop} {k n : Nat}
    (hret : meth.sig.returnType = some t) (hn : narrow t w = w)
    (hi : (i = .ireturn ∧ (t = .int ∨ t = .boolean ∨ t = .byte ∨ t = .char ∨ t = .short) ∧ ∃ z, w = .int z) ∨ (i = .lreturn ∧ t = .long ∧ ∃ z, w = .long z) ∨ (i = .dreturn ∧ t = .double ∧ ∃ z, w = .double z) ∨ (i = .freturn ∧ t = .float ∧ ∃ z, w = .float z) ∨ (i = .areturn ∧ t.isReference = true ∧ w.isRef = true))
    (hd : decode c.code pc = .ok (i, 1)) (hk : cells ≤ k) (hs : slots ≤ n) (hP : P (some w) T.heap locs) : Go p e below (Ends s k n P) T (mkF m pc Ls (w :: rest)) := by
  obtain ⟨fs, hr, hrun, hended, hW, hsame⟩ := X.leave (v := some w) (fun h => by rw [hret] at h; cases h) hlk
  exact ⟨_, _, retOut X hx hret hn hi hd hr, hrun, hended, _, _, rfl, hP, ⟨_, rfl⟩, hW, hsame.mono hk hs⟩
theorem Go.retV (X : Stand p l e R s m args below meth c T locs cells slots) (hx : p.tables.exec = Jvm.exec) (hlk : meth.locks = false) {pc : Nat} {Ls : Array Slot} {P : Option Value → Heap → List Loc → Prop} {k n : Nat}
    (hret : meth.sig.returnType = none) (hd : decode c.code pc = .ok (.return_, 1)) (hk : cells ≤ k) (hs : slots ≤ n) (hP : P none T.heap locs) : Go p e below (Ends s k n P) T (mkF m pc Ls []) := by
  obtain ⟨fs, hr, hrun, hended, hW, hsame⟩ := X.leave (v := none) (fun _ => rfl) hlk
  exact ⟨_, _, X.returnOut hx hret hd hr, hrun, hended, _, _, rfl, hP, ⟨_, rfl⟩, hW, hsame.mono hk hs⟩
theorem Go.retZ (X : Stand p l e R s m args below meth c T locs cells slots) (hx : p.tables.exec = Jvm.exec) (hlk : meth.locks = false) {pc : Nat} {Ls : Array Slot} {z : Int32} {rest : List Value} {P : Option Value → Heap → List Loc → Prop} {k n : Nat}
    (hret : meth.sig.returnType = some .boolean) (hn : narrow .boolean (.int z) = .int z) (hd : decode c.code pc = .ok (.ireturn, 1)) (hk : cells ≤ k) (hs : slots ≤ n) (hP : P (some (.int z)) T.heap locs) : Go p e below (Ends s k n P) T (mkF m pc Ls (.int z :: rest)) :=
  Go.ret X hx hlk hret hn (Or.inl ⟨rfl, Or.inr (Or.inl rfl), z, rfl⟩) hd hk hs hP
theorem Go.retC (X : Stand p l e R s m args below meth c T locs cells slots) (hx : p.tables.exec = Jvm.exec) (hlk : meth.locks = false) {pc : Nat} {Ls : Array Slot} {z : Int32} {rest : List Value} {P : Option Value → Heap → List Loc → Prop} {k n : Nat}
    (hret : meth.sig.returnType = some .char) (hn : narrow .char (.int z) = .int z) (hd : decode c.code pc = .ok (.ireturn, 1)) (hk : cells ≤ k) (hs : slots ≤ n) (hP : P (some (.int z)) T.heap locs) : Go p e below (Ends s k n P) T (mkF m pc Ls (.int z :: rest)) :=
  Go.ret X hx hlk hret hn (Or.inl ⟨rfl, Or.inr (Or.inr (Or.inr (Or.inl rfl))), z, rfl⟩) hd hk hs hP
theorem Go.retI (X : Stand p l e R s m args below meth c T locs cells slots) (hx : p.tables.exec = Jvm.exec) (hlk : meth.locks = false) {pc : Nat} {Ls : Array Slot} {z : Int32} {rest : List Value} {P : Option Value → Heap → List Loc → Prop} {k n : Nat}
    (hret : meth.sig.returnType = some .int) (hd : decode c.code pc = .ok (.ireturn, 1)) (hk : cells ≤ k) (hs : slots ≤ n) (hP : P (some (.int z)) T.heap locs) : Go p e below (Ends s k n P) T (mkF m pc Ls (.int z :: rest)) :=
  Go.ret X hx hlk hret rfl (Or.inl ⟨rfl, Or.inl rfl, z, rfl⟩) hd hk hs hP
theorem Go.retJ (X : Stand p l e R s m args below meth c T locs cells slots) (hx : p.tables.exec = Jvm.exec) (hlk : meth.locks = false) {pc : Nat} {Ls : Array Slot} {z : Int64} {rest : List Value} {P : Option Value → Heap → List Loc → Prop} {k n : Nat}
    (hret : meth.sig.returnType = some .long) (hd : decode c.code pc = .ok (.lreturn, 1)) (hk : cells ≤ k) (hs : slots ≤ n) (hP : P (some (.long z)) T.heap locs) : Go p e below (Ends s k n P) T (mkF m pc Ls (.long z :: rest)) :=
  Go.ret X hx hlk hret rfl (Or.inr (Or.inl ⟨rfl, rfl, z, rfl⟩)) hd hk hs hP
theorem Go.retA (X : Stand p l e R s m args below meth c T locs cells slots) (hx : p.tables.exec = Jvm.exec) (hlk : meth.locks = false) {pc : Nat} {Ls : Array Slot} {w : Value} {t : FieldType} {rest : List Value} {P : Option Value → Heap → List Loc → Prop} {k n : Nat}
    (hret : meth.sig.returnType = some t) (ht : t.isReference = true) (hw : w.isRef = true) (hn : narrow t w = w) (hd : decode c.code pc = .ok (.areturn, 1)) (hk : cells ≤ k) (hs : slots ≤ n) (hP : P (some w) T.heap locs) : Go p e below (Ends s k n P) T (mkF m pc Ls (w :: rest)) :=
  Go.ret X hx hlk hret hn (Or.inr (Or.inr (Or.inr (Or.inr ⟨rfl, ht, hw⟩)))) hd hk hs hP
/-- what a call does: the arguments, the heap before, and P: what it returns, the heap behind, the places written -/
def Does (l : Launch) (Z : State) (y : MethodName) (bytes : ByteArray) (maxL : Nat) (ret : Option FieldType) (ws : List Jvm.Cond) (rm : Room) (as' : Array Value) (h : Heap) (P : Option Value → Heap → List Loc → Prop) : Prop :=
  MetFree l y (head1 (Jvm.Cond.code y bytes maxL ret :: ws) rm) (fun a U => a = as' ∧ Z.Warmed39 U.vm ∧ U.heap = h) (fun _ _ _ _ _ => True) (fun _ U o U' => ∃ v L, o = .returned v ∧ P v U'.heap L ∧ FrameEnd U o U' L rm.cells rm.slots)
theorem Does.intro {y : MethodName} {bytes : ByteArray} {maxL : Nat} {ret : Option FieldType} {ws : List Jvm.Cond} {rm : Room} {as' : Array Value} {P : Option Value → Heap → List Loc → Prop} {Ls : Array Slot} (hpn : plainFor y = true) (hef : ∀ m, entryFrame m as' maxL = mkF m 0 Ls [])
    (body : ∀ (p : Program) (e : Env) (s : State) (m : MethodId) (below : List Frame) (meth : Method) (c : Code) (s₁ : State), p.tables.exec = Jvm.exec → c.code = bytes → c.maxLocals = maxL → s.vm.findClass y.cls = some m.cls → meth.name = y.name → meth.sig.returnType = ret → meth.locks = false →
      Z.Warmed39 s.vm → s₁.heap = h → Stand p l e rm s m as' below meth c s₁ [] 0 0 → Go p e below (Ends s rm.cells rm.slots P) s₁ (mkF m 0 Ls [])) : Does l Z y bytes maxL ret ws rm as' h P := by
  refine MetFree.of_bodySF hpn hisR ?_
  intro p e s m args below meth c s₁ Bd hml0 hP hK
  obtain ⟨rfl, hZ, hh⟩ := hP
  have := body p e s m below meth c s₁ Bd.exec Bd.bytes hml0 (findClass_of_methodNamed Bd.named) (name_of_methodNamed Bd.named Bd.method).1 Bd.returns Bd.notSynchronized hZ (by rw [← hh, Bd.state]; rfl) (Stand.of_body Bd)
  obtain ⟨s₂, o, h1, h2, h3, h4⟩ := this
  exact ⟨s₂, o, castTop (hef m) h1, h2, h3, h4⟩
theorem Does.mono {y : MethodName} {bytes : ByteArray} {maxL : Nat} {ret : Option FieldType} {ws : List Jvm.Cond} {rm : Room} {as' : Array Value} {P P' : Option Value → Heap → List Loc → Prop} (D : Does l Z y bytes maxL ret ws rm as' h P) (q : ∀ v h' L, P v h' L → P' v h' L) : Does l Z y bytes maxL ret ws rm as' h P' := by
  intro p e ha hc hk s m args below hf happ hP hK
  obtain ⟨n, o, h1, h2, h3, v, L, h4, h5, h6⟩ := D p e ha hc hk s m args below hf happ hP hK
  exact ⟨n, o, h1, h2, h3, v, L, h4, q _ _ _ h5, h6⟩
theorem Does.static {y : MethodName} {bytes : ByteArray} {maxL : Nat} {ret : Option FieldType} {rm : Room} {P : Option Value → Heap → List Loc → Prop} {own : String} {index : Nat} {argsL rest : List Value} (D : Does l Z y bytes maxL ret [] rm argsL.toArray h P)
    (X : Stand p l e R s m args below meth c T locs cells slots) (hx : p.tables.exec = Jvm.exec) (hZ : Z.Warmed39 s.vm) (hown : s.vm.findClass own = some m.cls) (eT : T.heap = h) (w1 : (Cond.methodLink own index y).before a0 Z = true) (w2 : (Cond.static y).before a0 Z = true) (w3 : (Cond.initialized y.cls).before a0 Z = true) (w4 : (Cond.code y bytes maxL ret).before a0 Z = true)
    (hy : y.cls ≠ "java/lang/invoke/MethodHandle" ∧ y.cls ≠ "java/lang/invoke/VarHandle") (hg : g.method = m) (hsize : g.locals.size = c.maxLocals) (hlen : ∀ sig, parseMethodDescriptor y.desc = some sig → argsL.length = sig.parameters.length)
    (hstack : g.stack = argsL.reverse ++ rest) (hd : decode c.code g.pc = .ok (.invokestatic index, 3)) {W : Nat} (hW : 2 * g.monitorRoom + (rest.map fun v => v.category).sum ≤ W) (hf : rm.frames + 1 ≤ R.frames) (hl : W + (maxL + 11) + rm.locals ≤ R.locals) (hc : cells + rm.cells ≤ R.cells) (hs : slots + rm.slots ≤ R.slots) :
    ∃ v T' L, Stand p l e R s m args below meth c T' (locs ++ L) (cells + rm.cells) (slots + rm.slots) ∧ P v T'.heap L ∧ ∀ target, Steps p.tables e below (T'.setTop { g with pc := g.pc + 3, stack := v.toList ++ rest }) target → Steps p.tables e below (T.setTop g) target := by
  obtain ⟨v, vm₁, ⟨T', L', k', n'⟩, -, X', ⟨L, hQ, q1, q2, q3⟩, st⟩ := Jvm.LawKit.callS X hx (y := y) hown (mvT hZ w1) (mvT hZ w2) (mvT hZ w3) (mvT hZ w4) hy (backOf (W := W) D hZ w4 w3 hf hl) hg hsize (argsL := argsL) (rest := rest) hlen hstack hW hd (fun _ _ => ⟨rfl, eT, hc, hs⟩)
  dsimp only [Pt.U, Pt.locs, Pt.cells, Pt.slots] at X' q1 q2 q3 st hQ
  subst q1 q2 q3
  exact ⟨v, T', L, X', hQ, st⟩
theorem Does.special {y : MethodName} {bytes : ByteArray} {maxL : Nat} {rm : Room} {P : Option Value → Heap → List Loc → Prop} {own : String} {index : Nat} {a : Addr} {argsL rest : List Value} (D : Does l Z y bytes maxL none [] rm (.ref a :: argsL).toArray h P)
    (X : Stand p l e R s m args below meth c T locs cells slots) (hx : p.tables.exec = Jvm.exec) (hZ : Z.Warmed39 s.vm) (hown : s.vm.findClass own = some m.cls) (eT : T.heap = h) (hnm : y.name = "<init>") (w1 : (Cond.methodLink own index y).before a0 Z = true) (w2 : (Cond.instanceMethod y).before a0 Z = true) (w3 : (Cond.initialized y.cls).before a0 Z = true) (w4 : (Cond.code y bytes maxL none).before a0 Z = true)
    (hy : y.cls ≠ "java/lang/invoke/MethodHandle" ∧ y.cls ≠ "java/lang/invoke/VarHandle") (hg : g.method = m) (hsize : g.locals.size = c.maxLocals) (hlen : ∀ sig, parseMethodDescriptor y.desc = some sig → argsL.length = sig.parameters.length)
    (hstack : g.stack = argsL.reverse ++ .ref a :: rest) (hd : decode c.code g.pc = .ok (.invokespecial index, 3)) {W : Nat} (hW : 2 * g.monitorRoom + (rest.map fun v => v.category).sum ≤ W) (hf : rm.frames + 1 ≤ R.frames) (hl : W + (maxL + 11) + rm.locals ≤ R.locals) (hc : cells + rm.cells ≤ R.cells) (hs : slots + rm.slots ≤ R.slots) :
    ∃ v T' L, Stand p l e R s m args below meth c T' (locs ++ L) (cells + rm.cells) (slots + rm.slots) ∧ P v T'.heap L ∧ ∀ target, Steps p.tables e below (T'.setTop { g with pc := g.pc + 3, stack := v.toList ++ rest }) target → Steps p.tables e below (T.setTop g) target := by
  obtain ⟨v, vm₁, ⟨T', L', k', n'⟩, -, X', ⟨L, hQ, q1, q2, q3⟩, st⟩ := X.specialBack hx (y := y) hnm hown (mvT hZ w1) (mvT hZ w2) (mvT hZ w4) hy (backOf (W := W) D hZ w4 w3 hf hl) hg hsize (Steps.refl _) (a := a) (argsL := argsL) (rest := rest) hlen hstack hW hd (fun _ _ => ⟨rfl, eT, hc, hs⟩)
  dsimp only [Pt.U, Pt.locs, Pt.cells, Pt.slots] at X' q1 q2 q3 st hQ
  subst q1 q2 q3
  exact ⟨v, T', L, X', hQ, fun _ k => st.trans k⟩
theorem Does.virtual {y : MethodName} {bytes : ByteArray} {maxL : Nat} {ret : Option FieldType} {rm : Room} {P : Option Value → Heap → List Loc → Prop} {own C : String} {index : Nat} {a : Addr} {argsL rest : List Value} (D : Does l Z y bytes maxL ret [] rm (.ref a :: argsL).toArray h P)
    (X : Stand p l e R s m args below meth c T locs cells slots) (hx : p.tables.exec = Jvm.exec) (hZ : Z.Warmed39 s.vm) (hown : s.vm.findClass own = some m.cls) (eT : T.heap = h) (E : Exa Z h a C) (w1 : (Cond.methodLink own index y).before a0 Z = true) (w2 : (Cond.declares y).before a0 Z = true) (w2' : (Cond.selects C y y).before a0 Z = true) (w2'' : (Cond.instanceMethod y).before a0 Z = true) (w3 : (Cond.initialized y.cls).before a0 Z = true) (w4 : (Cond.code y bytes maxL ret).before a0 Z = true)
    (hy : y.cls ≠ "java/lang/invoke/MethodHandle" ∧ y.cls ≠ "java/lang/invoke/VarHandle") (hg : g.method = m) (hsize : g.locals.size = c.maxLocals) (hlen : ∀ sig, parseMethodDescriptor y.desc = some sig → argsL.length = sig.parameters.length)
    (hstack : g.stack = argsL.reverse ++ .ref a :: rest) (hd : decode c.code g.pc = .ok (.invokevirtual index, 3)) {W : Nat} (hW : 2 * g.monitorRoom + (rest.map fun v => v.category).sum ≤ W) (hf : rm.frames + 1 ≤ R.frames) (hl : W + (maxL + 11) + rm.locals ≤ R.locals) (hc : cells + rm.cells ≤ R.cells) (hs : slots + rm.slots ≤ R.slots) :
    ∃ v T' L, Stand p l e R s m args below meth c T' (locs ++ L) (cells + rm.cells) (slots + rm.slots) ∧ P v T'.heap L ∧ ∀ target, Steps p.tables e below (T'.setTop { g with pc := g.pc + 3, stack := v.toList ++ rest }) target → Steps p.tables e below (T.setTop g) target := by
  obtain ⟨cB, kB, q1, -, q3⟩ := isOf hZ eT E
  obtain ⟨v, vm₁, ⟨T', L', k', n'⟩, -, X', ⟨L, hQ, q1, q2, q3⟩, st⟩ := X.virtualBack hx (y := y) (z := y) hown (mvT hZ w1) (mvT hZ w2) (notFace_of_selects (args := #[]) (mvT hZ w2')) (mvT hZ w2') (mvT hZ w2'') hy (backOf (W := W) D hZ w4 w3 hf hl) q1 q3 hg hsize (Steps.refl _) (argsL := argsL) (rest := rest) hlen hstack hW hd (fun _ _ => ⟨rfl, eT, hc, hs⟩)
  dsimp only [Pt.U, Pt.locs, Pt.cells, Pt.slots] at X' q1 q2 q3 st hQ
  subst q1 q2 q3
  exact ⟨v, T', L, X', hQ, fun _ k => st.trans k⟩
theorem Does.virtualUp {x' z : MethodName} {owner : String} {bytes : ByteArray} {maxL : Nat} {ret : Option FieldType} {rm : Room} {P : Option Value → Heap → List Loc → Prop} {own C : String} {index : Nat} {a : Addr} {argsL rest : List Value} (D : Does l Z z bytes maxL ret [] rm (.ref a :: argsL).toArray h P)
    (X : Stand p l e R s m args below meth c T locs cells slots) (hx : p.tables.exec = Jvm.exec) (hZ : Z.Warmed39 s.vm) (hown : s.vm.findClass own = some m.cls) (eT : T.heap = h) (E : Exa Z h a C) (w1 : (Cond.methodLink own index x').before a0 Z = true) (w1' : (Cond.sameMethod x'.cls owner x'.name x'.desc).before a0 Z = true) (w2 : (Cond.declares ⟨owner, x'.name, x'.desc⟩).before a0 Z = true) (w2' : (Cond.selects C x' z).before a0 Z = true) (w2'' : (Cond.instanceMethod z).before a0 Z = true) (w3 : (Cond.initialized z.cls).before a0 Z = true) (w4 : (Cond.code z bytes maxL ret).before a0 Z = true)
    (hy : owner ≠ "java/lang/invoke/MethodHandle" ∧ owner ≠ "java/lang/invoke/VarHandle") (hg : g.method = m) (hsize : g.locals.size = c.maxLocals) (hlen : ∀ sig, parseMethodDescriptor x'.desc = some sig → argsL.length = sig.parameters.length)
    (hstack : g.stack = argsL.reverse ++ .ref a :: rest) (hd : decode c.code g.pc = .ok (.invokevirtual index, 3)) {W : Nat} (hW : 2 * g.monitorRoom + (rest.map fun v => v.category).sum ≤ W) (hf : rm.frames + 1 ≤ R.frames) (hl : W + (maxL + 11) + rm.locals ≤ R.locals) (hc : cells + rm.cells ≤ R.cells) (hs : slots + rm.slots ≤ R.slots) :
    ∃ v T' L, Stand p l e R s m args below meth c T' (locs ++ L) (cells + rm.cells) (slots + rm.slots) ∧ P v T'.heap L ∧ ∀ target, Steps p.tables e below (T'.setTop { g with pc := g.pc + 3, stack := v.toList ++ rest }) target → Steps p.tables e below (T.setTop g) target := by
  obtain ⟨cB, kB, q1, -, q3⟩ := isOf hZ eT E
  obtain ⟨v, vm₁, ⟨T', L', k', n'⟩, -, X', ⟨L, hQ, q1, q2, q3⟩, st⟩ := X.virtualBackUp hx (x := x') (y := z) hown (mvT hZ w1) (mvT hZ w1') (mvT hZ w2) hy (mvT hZ w2') (mvT hZ w2'') (backOf (W := W) D hZ w4 w3 hf hl) q1 q3 hg hsize (Steps.refl _) (argsL := argsL) (rest := rest) hlen hstack hW hd (fun _ _ => ⟨rfl, eT, hc, hs⟩)
  dsimp only [Pt.U, Pt.locs, Pt.cells, Pt.slots] at X' q1 q2 q3 st hQ
  subst q1 q2 q3
  exact ⟨v, T', L, X', hQ, fun _ k => st.trans k⟩
/-- a call that leaves the heap as it was and returns w -/
abbrev Val (w : Option Value) (h : Heap) : Option Value → Heap → List Loc → Prop := fun v h' L => v = w ∧ L = [] ∧ h' = h
theorem own_still {w : Option Value} {rm : Room} {rest : List Value} (hc : rm.cells = 0) (hs : rm.slots = 0)
    (H : ∃ v T' L, Stand p l e R s m args below meth c T' (locs ++ L) (cells + rm.cells) (slots + rm.slots) ∧ Val w h v T'.heap L ∧ ∀ target, Steps p.tables e below (T'.setTop { g with pc := g.pc + 3, stack := v.toList ++ rest }) target → Steps p.tables e below (T.setTop g) target) :
    ∃ T', Stand p l e R s m args below meth c T' locs cells slots ∧ T'.heap = h ∧ ∀ target, Steps p.tables e below (T'.setTop { g with pc := g.pc + 3, stack := w.toList ++ rest }) target → Steps p.tables e below (T.setTop g) target := by
  obtain ⟨v, T', L, X', ⟨rfl, rfl, e'⟩, st⟩ := H
  rw [hc, hs, List.append_nil] at X'
  exact ⟨T', X', e', st⟩
theorem own_Llt {x y : Int64} (h : x < y) : XT.cmpL x y < 0 := (lw_lt x y).mpr h
theorem own_Lnlt {x y : Int64} (h : ¬ x < y) : ¬ XT.cmpL x y < 0 := fun q => h ((lw_lt x y).mp q)
theorem own_Lgt {x y : Int64} (h : y < x) : 0 < XT.cmpL x y := (lw_gt x y).mpr h
theorem own_Lngt {x y : Int64} (h : ¬ y < x) : ¬ 0 < XT.cmpL x y := fun q => h ((lw_gt x y).mp q)
theorem own_Leq {x y : Int64} (h : x = y) : XT.cmpL x y = 0 := (lw_eq x y).mpr h
theorem own_Lneq {x y : Int64} (h : ¬ x = y) : ¬ XT.cmpL x y = 0 := fun q => h ((lw_eq x y).mp q)
theorem own_aeq {a b : Addr} (h : a = b) : XT.acmp .eq (.ref a) (.ref b) = true ∧ XT.acmp .ne (.ref a) (.ref b) = false := by subst h; exact ⟨decide_eq_true rfl, decide_eq_false (fun q => q rfl)⟩
theorem own_ane {a b : Addr} (h : ¬ a = b) : XT.acmp .eq (.ref a) (.ref b) = false ∧ XT.acmp .ne (.ref a) (.ref b) = true := ⟨decide_eq_false (fun q => h (by cases q; rfl)), decide_eq_true (fun q => h (by cases q; rfl))⟩
theorem own_lswHit (X : Stand p l e R s m args below meth c T locs cells slots) (hx : p.tables.exec = Jvm.exec) (hg : g.method = m) {k : Int32} {rest : List Value} (hs : g.stack = .int k :: rest) {dflt : Int} {pairs : Array (Int × Int)} {len : Nat} (hd : decode c.code g.pc = .ok (.lookupswitch dflt pairs, len))
    (hsorted : (pairs.toList.zip (pairs.toList.drop 1)).all (fun (a, next) => a.1 < next.1) = true) {a off : Int} (hfind : pairs.find? (·.1 == k.toInt) = some (a, off)) {pc0 pc' : Nat} (hpc : g.pc = pc0) (ho : 0 ≤ (pc0 : Int) + off) (hp : ((pc0 : Int) + off).toNat = pc') :
    ∀ target, Steps p.tables e below (T.setTop { g with pc := pc', stack := rest }) target → Steps p.tables e below (T.setTop g) target := by
  subst hpc hp
  exact fun t h => X.lookupswitchHit hx hg hs hd hsorted hfind ho t h
theorem own_ext {h0 h : Heap} (K : Keep h0 h []) : Ext h0 h := ⟨K.1, fun x c q => K.2.1 x c q nin0⟩
end GoKit
/-! ArrKit: arrays by Arv, one law a step -/
section ArrKit
variable {p : Program} {l : Launch} {e : Env} {R : Room} {s : State} {m : MethodId} {args : Array Value} {below : List Frame} {meth : Method} {c : Code} {T T' : State} {locs : List Loc} {cells slots : Nat} {Z : State} {a0 : Array Value} {h : Heap} {g g' : JFrame} {a : Addr} {k : ClassId} {z j : Int32} {vs : List Value} {dv : Value} {rest : List Value} {ty : FieldType}
theorem own_stI (X : Stand p l e R s m args below meth c T locs cells slots) (hx : p.tables.exec = Jvm.exec) (hZ : Z.Warmed39 s.vm) (eT : T.heap = h) (Vv : Arv Z h a k .int z vs dv) {x : Int32} (hj0 : ¬ j < 0) (hj1 : j < z) (i : Nat) (hi : j.toNatClampNeg = i) (hl : i < vs.length) (hg : g.method = m) (hs : g.stack = .int x :: .int j :: .ref a :: rest) (hd : decode c.code g.pc = .ok (.iastore, 1)) :
    ∃ T' h', Stand p l e R s m args below meth c T' (locs ++ [⟨a, j.toNatClampNeg⟩]) cells slots ∧ T'.heap = h' ∧ Wr h h' a j.toNatClampNeg (.int x) ∧ Arv Z h' a k .int z (vs.set i (.int x)) dv ∧ ∀ target, Steps p.tables e below (T'.setTop { g with pc := g.pc + 1, stack := rest }) target → Steps p.tables e below (T.setTop g) target := by
  obtain ⟨c', A, q1, S, q3, H, G⟩ := Vv
  obtain ⟨T', h', X', e', W, st⟩ := stI X hx hZ eT A (inb_of S ⟨hj0, hj1⟩) hg hs hd
  exact ⟨T', h', X', e', W, Arv.set A q1 S q3 H G rfl W i hi hl, st⟩
theorem own_stC (X : Stand p l e R s m args below meth c T locs cells slots) (hx : p.tables.exec = Jvm.exec) (hZ : Z.Warmed39 s.vm) (eT : T.heap = h) (Vv : Arv Z h a k .char z vs dv) {x : Int32} (hj0 : ¬ j < 0) (hj1 : j < z) (i : Nat) (hi : j.toNatClampNeg = i) (hl : i < vs.length) (hg : g.method = m) (hs : g.stack = .int x :: .int j :: .ref a :: rest) (hd : decode c.code g.pc = .ok (.castore, 1)) :
    ∃ T' h', Stand p l e R s m args below meth c T' (locs ++ [⟨a, j.toNatClampNeg⟩]) cells slots ∧ T'.heap = h' ∧ Wr h h' a j.toNatClampNeg (.int (nar .char x)) ∧ Arv Z h' a k .char z (vs.set i (.int (nar .char x))) dv ∧ ∀ target, Steps p.tables e below (T'.setTop { g with pc := g.pc + 1, stack := rest }) target → Steps p.tables e below (T.setTop g) target := by
  obtain ⟨c', A, q1, S, q3, H, G⟩ := Vv
  obtain ⟨T', h', X', e', W, st⟩ := stC X hx hZ eT A (inb_of S ⟨hj0, hj1⟩) hg hs hd
  exact ⟨T', h', X', e', W, Arv.set A q1 S q3 H G (fits_nar_char x) W i hi hl, st⟩
theorem own_stR (X : Stand p l e R s m args below meth c T locs cells slots) (hx : p.tables.exec = Jvm.exec) (hZ : Z.Warmed39 s.vm) (eT : T.heap = h) {C K : String} (Vv : Arv Z h a k (.object C) z vs dv) (O : Ovr Z k K) {y : Addr} (I : Ins Z h y K true) (hj0 : ¬ j < 0) (hj1 : j < z) (i : Nat) (hi : j.toNatClampNeg = i) (hl : i < vs.length) (hg : g.method = m) (hs : g.stack = .ref y :: .int j :: .ref a :: rest) (hd : decode c.code g.pc = .ok (.aastore, 1)) :
    ∃ T' h', Stand p l e R s m args below meth c T' (locs ++ [⟨a, j.toNatClampNeg⟩]) cells slots ∧ T'.heap = h' ∧ Wr h h' a j.toNatClampNeg (.ref y) ∧ Arv Z h' a k (.object C) z (vs.set i (.ref y)) dv ∧ ∀ target, Steps p.tables e below (T'.setTop { g with pc := g.pc + 1, stack := rest }) target → Steps p.tables e below (T.setTop g) target := by
  obtain ⟨c', A, q1, S, q3, H, G⟩ := Vv
  obtain ⟨T', h', X', e', W, st⟩ := stR X hx hZ eT A (inb_of S ⟨hj0, hj1⟩) rfl (Sto.ofV A q1 O I) hg hs hd
  exact ⟨T', h', X', e', W, Arv.set A q1 S q3 H G rfl W i hi hl, st⟩
theorem own_ldI (X : Stand p l e R s m args below meth c T locs cells slots) (hx : p.tables.exec = Jvm.exec) (hZ : Z.Warmed39 s.vm) (eT : T.heap = h) (Vv : Arv Z h a k .int z vs dv) {w : Int32} (hj0 : ¬ j < 0) (hj1 : j < z) (hv : vs.getD j.toNatClampNeg dv = .int w) (hg : g.method = m) (hs : g.stack = .int j :: .ref a :: rest) (hd : decode c.code g.pc = .ok (.iaload, 1)) :
    ∀ target, Steps p.tables e below (T.setTop { g with pc := g.pc + 1, stack := .int w :: rest }) target → Steps p.tables e below (T.setTop g) target := by
  obtain ⟨c', A, q1, S, q3, H, G⟩ := Vv
  have q := inb_of S ⟨hj0, hj1⟩
  exact fun t k => X.iaload hx (by rw [eT]; exact A.1) (State.isArrayOf_alike hZ.alike A.2.1) A.2.2 q (Has.at H q hv) hg hs hd t k
theorem own_ldC (X : Stand p l e R s m args below meth c T locs cells slots) (hx : p.tables.exec = Jvm.exec) (hZ : Z.Warmed39 s.vm) (eT : T.heap = h) (Vv : Arv Z h a k .char z vs dv) {w : Int32} (hj0 : ¬ j < 0) (hj1 : j < z) (hv : vs.getD j.toNatClampNeg dv = .int w) (hg : g.method = m) (hs : g.stack = .int j :: .ref a :: rest) (hd : decode c.code g.pc = .ok (.caload, 1)) :
    ∀ target, Steps p.tables e below (T.setTop { g with pc := g.pc + 1, stack := .int w :: rest }) target → Steps p.tables e below (T.setTop g) target := by
  obtain ⟨c', A, q1, S, q3, H, G⟩ := Vv
  have q := inb_of S ⟨hj0, hj1⟩
  exact fun t k => X.caload hx (by rw [eT]; exact A.1) (State.isArrayOf_alike hZ.alike A.2.1) A.2.2 q (Has.at H q hv) hg hs hd t k
theorem own_ldB (X : Stand p l e R s m args below meth c T locs cells slots) (hx : p.tables.exec = Jvm.exec) (hZ : Z.Warmed39 s.vm) (eT : T.heap = h) (Vv : Arv Z h a k .byte z vs dv) {w : Int32} (hj0 : ¬ j < 0) (hj1 : j < z) (hv : vs.getD j.toNatClampNeg dv = .int w) (hg : g.method = m) (hs : g.stack = .int j :: .ref a :: rest) (hd : decode c.code g.pc = .ok (.baload, 1)) :
    ∀ target, Steps p.tables e below (T.setTop { g with pc := g.pc + 1, stack := .int w :: rest }) target → Steps p.tables e below (T.setTop g) target := by
  obtain ⟨c', A, q1, S, q3, H, G⟩ := Vv
  have q := inb_of S ⟨hj0, hj1⟩
  exact fun t k => X.baloadBytes hx (by rw [eT]; exact A.1) (State.isArrayOf_alike hZ.alike A.2.1) A.2.2 q (Has.at H q hv) hg hs hd t k
theorem own_ldR (X : Stand p l e R s m args below meth c T locs cells slots) (hx : p.tables.exec = Jvm.exec) (hZ : Z.Warmed39 s.vm) (eT : T.heap = h) (Vv : Arv Z h a k ty z vs dv) (hty : ty.isReference = true) {w : Value} (hj0 : ¬ j < 0) (hj1 : j < z) (hv : vs.getD j.toNatClampNeg dv = w) (hg : g.method = m) (hs : g.stack = .int j :: .ref a :: rest) (hd : decode c.code g.pc = .ok (.aaload, 1)) :
    ∀ target, Steps p.tables e below (T.setTop { g with pc := g.pc + 1, stack := w :: rest }) target → Steps p.tables e below (T.setTop g) target := by
  obtain ⟨c', A, q1, S, q3, H, G⟩ := Vv
  have q := inb_of S ⟨hj0, hj1⟩
  exact fun t k => X.aaload hx (by rw [eT]; exact A.1) (State.isArrayOf_alike hZ.alike A.2.1) hty A.2.2 q (Has.at H q hv) hg hs hd t k
theorem own_len (X : Stand p l e R s m args below meth c T locs cells slots) (hx : p.tables.exec = Jvm.exec) (hZ : Z.Warmed39 s.vm) (eT : T.heap = h) (Vv : Arv Z h a k ty z vs dv) (hg : g.method = m) (hs : g.stack = .ref a :: rest) (hd : decode c.code g.pc = .ok (.arraylength, 1)) :
    ∀ target, Steps p.tables e below (T.setTop { g with pc := g.pc + 1, stack := .int z :: rest }) target → Steps p.tables e below (T.setTop g) target := by
  obtain ⟨c', A, q1, S, q3, H, G⟩ := Vv
  exact fun t k => X.arraylength hx (by rw [eT]; exact A.1) (State.isArrayOf_alike hZ.alike A.2.1) hg hs hd t (by rw [len_of S q3]; exact k)
end ArrKit
/-! PrivKit: a private method called by invokevirtual -/
section PrivKit
variable {p : Program} {l : Launch} {e : Env} {R : Room} {s : State} {m : MethodId} {args : Array Value} {below : List Frame} {meth : Method} {c : Code} {T T' : State} {locs : List Loc} {cells slots : Nat} {Z : State} {a0 : Array Value} {h : Heap} {g g' : JFrame}
theorem Does.priv {y : MethodName} {bytes : ByteArray} {maxL : Nat} {ret : Option FieldType} {rm : Room} {P : Option Value → Heap → List Loc → Prop} {own C : String} {index : Nat} {a : Addr} {argsL rest : List Value} (D : Does l Z y bytes maxL ret [] rm (.ref a :: argsL).toArray h P)
    (X : Stand p l e R s m args below meth c T locs cells slots) (hx : p.tables.exec = Jvm.exec) (hZ : Z.Warmed39 s.vm) (hown : s.vm.findClass own = some m.cls) (eT : T.heap = h) (E : Exa Z h a C) (w1 : (Cond.methodLink own index y).before a0 Z = true) (w2 : (Cond.instanceMethod y).before a0 Z = true) (w2' : (Cond.selects y.cls y y).before a0 Z = true) (w2'' : (Cond.privateMethod y).before a0 Z = true) (w3 : (Cond.initialized y.cls).before a0 Z = true) (w4 : (Cond.code y bytes maxL ret).before a0 Z = true)
    (hy : y.cls ≠ "java/lang/invoke/MethodHandle" ∧ y.cls ≠ "java/lang/invoke/VarHandle") (hg : g.method = m) (hsize : g.locals.size = c.maxLocals) (hlen : ∀ sig, parseMethodDescriptor y.desc = some sig → argsL.length = sig.parameters.length)
    (hstack : g.stack = argsL.reverse ++ .ref a :: rest) (hd : decode c.code g.pc = .ok (.invokevirtual index, 3)) {W : Nat} (hW : 2 * g.monitorRoom + (rest.map fun v => v.category).sum ≤ W) (hf : rm.frames + 1 ≤ R.frames) (hl : W + (maxL + 11) + rm.locals ≤ R.locals) (hc : cells + rm.cells ≤ R.cells) (hs : slots + rm.slots ≤ R.slots) :
    ∃ v T' L, Stand p l e R s m args below meth c T' (locs ++ L) (cells + rm.cells) (slots + rm.slots) ∧ P v T'.heap L ∧ ∀ target, Steps p.tables e below (T'.setTop { g with pc := g.pc + 3, stack := v.toList ++ rest }) target → Steps p.tables e below (T.setTop g) target := by
  obtain ⟨cl, hcl, hns⟩ := E.cell
  obtain ⟨v, vm₁, ⟨T', L', k', n'⟩, -, X', ⟨L, hQ, q1, q2, q3⟩, st⟩ := X.privateBack hx (y := y) hown (mvT hZ w1) (mvT hZ w2) (mvT hZ w2') (Cond.privateMethod_at (mvP hZ w2'' (args := #[]))) (mvT hZ w4) hy (backOf (W := W) D hZ w4 w3 hf hl) hg hsize (Steps.refl _) (by rw [eT]; exact hcl) hns (argsL := argsL) (rest := rest) hlen hstack hW hd (fun _ _ => ⟨rfl, eT, hc, hs⟩)
  dsimp only [Pt.U, Pt.locs, Pt.cells, Pt.slots] at X' q1 q2 q3 st hQ
  subst q1 q2 q3
  exact ⟨v, T', L, X', hQ, fun _ k => st.trans k⟩
theorem own_stk {h' : Heap} {C n d : String} {v : Value} {ws : List Addr} (S : Sta Z h C n d v) (K : Keep h h' ws) (ns : ∀ x ∈ ws, ∀ cell : Cell, h[x]? = some cell → cell.vm.isStatics = false) : Sta Z h' C n d v := by
  obtain ⟨cf, i, k, f, st, cell, h1, h2, h3, h4, h5, h6, h7⟩ := S
  exact ⟨cf, i, k, f, st, cell, h1, h2, h3, h4, K.2.1 _ _ h5 (fun q => by rw [ns _ q _ h5] at h6; cases h6), h6, h7⟩
theorem own_nsE {a : Addr} {C : String} (E : Exa Z h a C) : ∀ cell : Cell, h[a]? = some cell → cell.vm.isStatics = false := fun cell q => by
  obtain ⟨c', k, h1, -, -, h4, -⟩ := E
  cases h1.symm.trans q
  exact h4
end PrivKit
/-! HeldKit: bodies that may load String constants (beneath them too): the invariant CHv over the list EL; wide ends -/
section HeldKit
variable {p : Program} {l : Launch} {e : Env} {R : Room} {s : State} {m : MethodId} {args : Array Value} {below : List Frame} {meth : Method} {c : Code} {T T' : State} {locs : List Loc} {cells slots : Nat} {Z : State} {a0 : Array Value} {h : Heap} {g g' : JFrame} {EL : List (String × Nat)} {vm0 : Vm}
def EndsH (Z : State) (EL : List (String × Nat)) (s : State) (k n : Nat) (P : Option Value → Heap → List Loc → Prop) : Outcome → State → Prop :=
  fun o U' => ∃ v L, o = .returned v ∧ P v U'.heap L ∧ CHr Z EL s.vm s.heap U'.vm U'.heap ∧ ReturnedEndW s o U' L k n
theorem Go.retH (X : Stand p l e R (s.setVm vm0) m args below meth c T locs cells slots) (hx : p.tables.exec = Jvm.exec) (hlk : meth.locks = false) (hZ : Z.Warmed39 vm0) (hEL : EW Z a0 EL) (RR : CHr Z EL s.vm s.heap vm0 h) (eT : T.heap = h) {n1 : Nat} (hS : s.Since vm0 n1) (hle : n1 ≤ h.size)
    {pc : Nat} {Ls : Array Slot} {w : Value} {t : FieldType} {i : Instr} {rest : List Value} {P : Option Value → Heap → List Loc → Prop} {k n : Nat}
    (hret : meth.sig.returnType = some t) (hn : narrow t w = w)
    (hi : (i = .ireturn ∧ (t = .int ∨ t = .boolean ∨ t = .byte ∨ t = .char ∨ t = .short) ∧ ∃ z, w = .int z) ∨ (i = .lreturn ∧ t = .long ∧ ∃ z, w = .long z) ∨ (i = .dreturn ∧ t = .double ∧ ∃ z, w = .double z) ∨ (i = .freturn ∧ t = .float ∧ ∃ z, w = .float z) ∨ (i = .areturn ∧ t.isReference = true ∧ w.isRef = true))
    (hd : decode c.code pc = .ok (i, 1)) (hk : cells ≤ k) (hs : slots ≤ n) (hP : P (some w) T.heap locs) : Go p e below (EndsH Z EL s k n P) T (mkF m pc Ls (w :: rest)) := by
  obtain ⟨fs, hr, hrun, hended, hW⟩ := X.leaveW hS (by rw [eT]; exact hle) (v := some w) (fun h => by rw [hret] at h; cases h) hlk
  refine ⟨_, _, retOut X hx hret hn hi hd hr, hrun, hended, _, _, rfl, hP, ?_, hW.1, hW.2.1, hW.2.2.1, hW.2.2.2.mono hk hs⟩
  have q := RR.trans (CHv.at X hZ hEL RR.1)
  rw [← eT] at q
  exact q
theorem Go.retHV (X : Stand p l e R (s.setVm vm0) m args below meth c T locs cells slots) (hx : p.tables.exec = Jvm.exec) (hlk : meth.locks = false) (hZ : Z.Warmed39 vm0) (hEL : EW Z a0 EL) (RR : CHr Z EL s.vm s.heap vm0 h) (eT : T.heap = h) {n1 : Nat} (hS : s.Since vm0 n1) (hle : n1 ≤ h.size)
    {pc : Nat} {Ls : Array Slot} {P : Option Value → Heap → List Loc → Prop} {k n : Nat}
    (hret : meth.sig.returnType = none) (hd : decode c.code pc = .ok (.return_, 1)) (hk : cells ≤ k) (hs : slots ≤ n) (hP : P none T.heap locs) : Go p e below (EndsH Z EL s k n P) T (mkF m pc Ls []) := by
  obtain ⟨fs, hr, hrun, hended, hW⟩ := X.leaveW hS (by rw [eT]; exact hle) (v := none) (fun _ => rfl) hlk
  refine ⟨_, _, X.returnOut hx hret hd hr, hrun, hended, _, _, rfl, hP, ?_, hW.1, hW.2.1, hW.2.2.1, hW.2.2.2.mono hk hs⟩
  have q := RR.trans (CHv.at X hZ hEL RR.1)
  rw [← eT] at q
  exact q
def DoesH (l : Launch) (Z : State) (EL : List (String × Nat)) (y : MethodName) (bytes : ByteArray) (maxL : Nat) (ret : Option FieldType) (ws : List Jvm.Cond) (rm : Room) (as' : Array Value) (h : Heap) (P : Option Value → Heap → List Loc → Prop) : Prop :=
  MetFree l y (head1 (Jvm.Cond.code y bytes maxL ret :: ws) rm) (fun a U => a = as' ∧ Z.Warmed39 U.vm ∧ U.heap = h ∧ CHv Z EL U.vm h) (fun _ _ _ _ _ => True) (fun _ U o U' => ∃ v L, o = .returned v ∧ P v U'.heap L ∧ CHr Z EL U.vm U.heap U'.vm U'.heap ∧ ReturnedEndW U o U' L rm.cells rm.slots)
theorem DoesH.intro {y : MethodName} {bytes : ByteArray} {maxL : Nat} {ret : Option FieldType} {ws : List Jvm.Cond} {rm : Room} {as' : Array Value} {P : Option Value → Heap → List Loc → Prop} {Ls : Array Slot} (hpn : plainFor y = true) (hef : ∀ m, entryFrame m as' maxL = mkF m 0 Ls [])
    (body : ∀ (p : Program) (e : Env) (s : State) (m : MethodId) (below : List Frame) (meth : Method) (c : Code) (s₁ : State), p.tables.exec = Jvm.exec → c.code = bytes → c.maxLocals = maxL → s.vm.findClass y.cls = some m.cls → meth.name = y.name → meth.sig.returnType = ret → meth.locks = false →
      Z.Warmed39 s.vm → s₁.heap = h → s.Since s.vm 0 → CHr Z EL s.vm s.heap s.vm h → Stand p l e rm (s.setVm s.vm) m as' below meth c s₁ [] 0 0 → Go p e below (EndsH Z EL s rm.cells rm.slots P) s₁ (mkF m 0 Ls [])) : DoesH l Z EL y bytes maxL ret ws rm as' h P := by
  refine MetFree.of_bodySF hpn hisR ?_
  intro p e s m args below meth c s₁ Bd hml0 hP hK
  obtain ⟨rfl, hZ, hh, hC⟩ := hP
  have := body p e s m below meth c s₁ Bd.exec Bd.bytes hml0 (findClass_of_methodNamed Bd.named) (name_of_methodNamed Bd.named Bd.method).1 Bd.returns Bd.notSynchronized hZ (by rw [← hh, Bd.state]; rfl) ((State.WarmedH.refl s).since 0) (by rw [hh]; exact CHr.refl hC) (Stand.of_body Bd)
  obtain ⟨s₂, o, h1, h2, h3, h4⟩ := this
  exact ⟨s₂, o, castTop (hef m) h1, h2, h3, h4⟩
theorem DoesH.static {y : MethodName} {bytes : ByteArray} {maxL : Nat} {ret : Option FieldType} {rm : Room} {P : Option Value → Heap → List Loc → Prop} {own : String} {index : Nat} {argsL rest : List Value} (D : DoesH l Z EL y bytes maxL ret [] rm argsL.toArray h P)
    (X : Stand p l e R (s.setVm vm0) m args below meth c T locs cells slots) (hx : p.tables.exec = Jvm.exec) (hZ : Z.Warmed39 vm0) (hown : vm0.findClass own = some m.cls) (eT : T.heap = h) (hEL : EW Z a0 EL) (RR : CHr Z EL s.vm s.heap vm0 h) {n1 : Nat} (hS : s.Since vm0 n1) (hle : n1 ≤ h.size)
    (w1 : (Cond.methodLink own index y).before a0 Z = true) (w2 : (Cond.static y).before a0 Z = true) (w3 : (Cond.initialized y.cls).before a0 Z = true) (w4 : (Cond.code y bytes maxL ret).before a0 Z = true)
    (hy : y.cls ≠ "java/lang/invoke/MethodHandle" ∧ y.cls ≠ "java/lang/invoke/VarHandle") (hg : g.method = m) (hsize : g.locals.size = c.maxLocals) (hlen : ∀ sig, parseMethodDescriptor y.desc = some sig → argsL.length = sig.parameters.length)
    (hstack : g.stack = argsL.reverse ++ rest) (hd : decode c.code g.pc = .ok (.invokestatic index, 3)) {W : Nat} (hW : 2 * g.monitorRoom + (rest.map fun v => v.category).sum ≤ W) (hf : rm.frames + 1 ≤ R.frames) (hl : W + (maxL + 11) + rm.locals ≤ R.locals) (hc : cells + rm.cells ≤ R.cells) (hs : slots + rm.slots ≤ R.slots) :
    ∃ v T' L, Stand p l e R (s.setVm T'.vm) m args below meth c T' (locs ++ L) (cells + rm.cells) (slots + rm.slots) ∧ Z.Warmed39 T'.vm ∧ T'.vm.findClass own = some m.cls ∧ s.Since T'.vm T'.heap.size ∧ CHr Z EL s.vm s.heap T'.vm T'.heap ∧ P v T'.heap L ∧ ∀ target, Steps p.tables e below (T'.setTop { g with pc := g.pc + 3, stack := v.toList ++ rest }) target → Steps p.tables e below (T.setTop g) target := by
  have hZ' : Z.Warmed39 (s.setVm vm0).vm := hZ
  obtain ⟨v, vm₁, ⟨T', L', k', n'⟩, -, X', hS', hgr, ⟨L, hQ, q1, q2, q3, q4⟩, st⟩ := callSS X hx (y := y) (own := own) hown (mvT hZ' w1) (mvT hZ' w2) (mvT hZ' w3) (mvT hZ' w4) hy (backOfSH (s := s) (W := W) D hZ w4 w3 hf hl hEL RR.1) hg hsize (argsL := argsL) (rest := rest) hlen hstack hW hd (fun _ _ => ⟨rfl, eT, hc, hs⟩)
  dsimp only [Pt.U, Pt.locs, Pt.cells, Pt.slots] at X' hS' hgr q1 q2 q3 q4 st hQ
  subst q1 q2 q3
  have hS2 : s.Since T'.vm T'.heap.size := hS.trans hS' (Nat.le_trans hle (by rw [← eT]; exact hgr))
  refine ⟨v, T', L, X', State.Warmed39.trans (t := s.setVm vm0) hZ hS'.1, ?_, hS2, RR.trans q4, hQ, fun _ k => st.trans k⟩
  have q : T'.vm.findClass own = vm0.findClass own := hS'.1.alike.findClass _ _
  rw [q]; exact hown
theorem DoesH.special {y : MethodName} {bytes : ByteArray} {maxL : Nat} {rm : Room} {P : Option Value → Heap → List Loc → Prop} {own : String} {index : Nat} {a : Addr} {argsL rest : List Value} (D : DoesH l Z EL y bytes maxL none [] rm (.ref a :: argsL).toArray h P)
    (X : Stand p l e R (s.setVm vm0) m args below meth c T locs cells slots) (hx : p.tables.exec = Jvm.exec) (hZ : Z.Warmed39 vm0) (hown : vm0.findClass own = some m.cls) (eT : T.heap = h) (hEL : EW Z a0 EL) (RR : CHr Z EL s.vm s.heap vm0 h) {n1 : Nat} (hS : s.Since vm0 n1) (hle : n1 ≤ h.size)
    (hnm : y.name = "<init>") (w1 : (Cond.methodLink own index y).before a0 Z = true) (w2 : (Cond.instanceMethod y).before a0 Z = true) (w3 : (Cond.initialized y.cls).before a0 Z = true) (w4 : (Cond.code y bytes maxL none).before a0 Z = true)
    (hy : y.cls ≠ "java/lang/invoke/MethodHandle" ∧ y.cls ≠ "java/lang/invoke/VarHandle") (hg : g.method = m) (hsize : g.locals.size = c.maxLocals) (hlen : ∀ sig, parseMethodDescriptor y.desc = some sig → argsL.length = sig.parameters.length)
    (hstack : g.stack = argsL.reverse ++ .ref a :: rest) (hd : decode c.code g.pc = .ok (.invokespecial index, 3)) {W : Nat} (hW : 2 * g.monitorRoom + (rest.map fun v => v.category).sum ≤ W) (hf : rm.frames + 1 ≤ R.frames) (hl : W + (maxL + 11) + rm.locals ≤ R.locals) (hc : cells + rm.cells ≤ R.cells) (hs : slots + rm.slots ≤ R.slots) :
    ∃ v T' L, Stand p l e R (s.setVm T'.vm) m args below meth c T' (locs ++ L) (cells + rm.cells) (slots + rm.slots) ∧ Z.Warmed39 T'.vm ∧ T'.vm.findClass own = some m.cls ∧ s.Since T'.vm T'.heap.size ∧ CHr Z EL s.vm s.heap T'.vm T'.heap ∧ P v T'.heap L ∧ ∀ target, Steps p.tables e below (T'.setTop { g with pc := g.pc + 3, stack := v.toList ++ rest }) target → Steps p.tables e below (T.setTop g) target := by
  have hZ' : Z.Warmed39 (s.setVm vm0).vm := hZ
  obtain ⟨v, vm₁, ⟨T', L', k', n'⟩, -, X', hS', hgr, ⟨L, hQ, q1, q2, q3, q4⟩, st⟩ := X.specialBackS hx (y := y) (own := own) hnm hown (mvT hZ' w1) (mvT hZ' w2) (mvT hZ' w4) hy (backOfSH (s := s) (W := W) D hZ w4 w3 hf hl hEL RR.1) hg hsize (Steps.refl _) (a := a) (argsL := argsL) (rest := rest) hlen hstack hW hd (fun _ _ => ⟨rfl, eT, hc, hs⟩)
  dsimp only [Pt.U, Pt.locs, Pt.cells, Pt.slots] at X' hS' hgr q1 q2 q3 q4 st hQ
  subst q1 q2 q3
  have hS2 : s.Since T'.vm T'.heap.size := hS.trans hS' (Nat.le_trans hle (by rw [← eT]; exact hgr))
  refine ⟨v, T', L, X', State.Warmed39.trans (t := s.setVm vm0) hZ hS'.1, ?_, hS2, RR.trans q4, hQ, fun _ k => st.trans k⟩
  have q : T'.vm.findClass own = vm0.findClass own := hS'.1.alike.findClass _ _
  rw [q]; exact hown
theorem own_safeN {vm : Vm} {x : Addr} (hal : Z.vm.Alike vm) (E : Exa Z h x "java/lang/String") (F : Fld Z h x "java/lang/String" "value" "[B" .null) : Safe Z EL vm h x := fun B => by
  obtain ⟨p, -, u, a, -, q, -, S, rfl | rfl⟩ := B
  · obtain ⟨cell, cf, k, i, f, h1, h2, -, -, -, -, h7⟩ := F
    cases (show h[q.sa]? = some q.sC from S.ha).symm.trans h1
    obtain ⟨cS, ⟨⟨-, -, -, ⟨cv, kv, iv, s4, -⟩, -, -, -, s8, -⟩, -⟩, -⟩ := S
    obtain ⟨kv', z4⟩ := ff_back (Z := Z) (U := Wst Z vm h) hal s4
    cases h2.symm.trans z4
    rw [s8] at h7; cases h7
  · obtain ⟨cell, k, e1, e2, -⟩ := E
    cases (show h[q.sd]? = some q.SA from S.hd).symm.trans e1
    obtain ⟨cS, -, -, f, -⟩ := S
    have f' : Z.vm.findClass "[B" = some q.SA.cls := by rw [← hal.findClass]; exact f
    obtain ⟨k1, q1, q2⟩ := Vm.findClass_spec f'
    obtain ⟨k2, q3, q4⟩ := Vm.findClass_spec e2
    cases q1.symm.trans q3
    exact absurd (q2.symm.trans q4) (by decide)
end HeldKit
theorem own_sta {Z : State} {args : Array Value} {C f d K : String} (h : (Jvm.Cond.exactly (.static C f d) K).value args Z none Z [] = some true) (wi : (Jvm.Cond.initialized C).before args Z = true) (wl : (Jvm.Cond.laysStatic C f d).before args Z = true) :
    ∃ x, (Term.static C f d).eval args Z none [] Z = some (.ref x) ∧ Sta Z Z.heap C f d (.ref x) ∧ Exa Z Z.heap x K := by
  obtain ⟨x, ev⟩ := exa_v h
  exact ⟨x, ev, Sta.start ev (Or.inr ⟨wi, wl⟩), Exa.start ev h⟩
theorem own_fldI {Z : State} {args : Array Value} {t : Term} {O n d : String} {k : Int32} {x : Addr} (ev : t.eval args Z none [] Z = some (.ref x)) (h : (Jvm.Cond.eq (.field t O n d) (.int k)).value args Z none Z [] = some true) : Fld Z Z.heap x O n d (.int k) := by
  obtain ⟨u, v, e1, e2, k1, -⟩ := cmp_v (Or.inl h)
  have e3 : v = .int k := by simpa [Term.eval] using e2.symm
  subst e3
  obtain ⟨z, rfl⟩ : ∃ z, u = .int z := by cases u <;> simp [Kin, Value.isRef] at k1 ⊢
  have q : z = k := gotT (Cond.eq_ints e1 e2) h
  subst q
  exact Fld.start ((fld_at ev).symm.trans e1)
def own_len_ (p1 : Int32) : Int32 := if (p1 &&& (3 : Int32)) = (0 : Int32) then 0 else if (p1 &&& (3 : Int32)) = (3 : Int32) then 2 else 1
def own_c1 (p1 : Int32) : Int32 := (XT.ushr p1 (2 : Int32)) &&& (255 : Int32)
def own_c2 (p1 : Int32) : Int32 := (XT.ushr p1 (10 : Int32)) &&& (255 : Int32)
def own_key (p1 : Int32) : Int32 := if own_len_ p1 = (0 : Int32) then 0 else if own_len_ p1 = (1 : Int32) then (1 : Int32) ||| (own_c1 p1 <<< ((2 : Int32) &&& 31)) else ((2 : Int32) ||| (own_c1 p1 <<< ((2 : Int32) &&& 31))) ||| (own_c2 p1 <<< ((10 : Int32) &&& 31))
theorem own_two (l : List Int32) (h : l.length ≤ 2) : l = [] ∨ (∃ x, l = [x]) ∨ (∃ x y, l = [x, y]) := by
  cases l with
  | nil => exact Or.inl rfl
  | cons x l =>
    cases l with
    | nil => exact Or.inr (Or.inl ⟨x, rfl⟩)
    | cons y l =>
      cases l with
      | nil => exact Or.inr (Or.inr ⟨x, y, rfl⟩)
      | cons z l => simp only [List.length_cons] at h; omega
theorem own_if0 {P : Prop} [Decidable P] (h : (if P then (1 : Int32) else 0) = (0 : Int32)) : (if P then (1 : Int32) else 0) = 0 := h
theorem own_if1 {P : Prop} [Decidable P] (h : ¬ (if P then (1 : Int32) else 0) = (0 : Int32)) : (if P then (1 : Int32) else 0) = 1 := by
  by_cases q : P
  · rw [if_pos q]
  · rw [if_neg q] at h; exact absurd rfl h
def own_b (c : Int32) : Int32 := (nar .char c).toInt8.toInt32
def own_str (p1 : Int32) : List Int32 := if own_len_ p1 = (0 : Int32) then [] else if own_len_ p1 = (1 : Int32) then [own_b (own_c1 p1)] else [own_b (own_c1 p1), own_b (own_c2 p1)]
theorem own_str2 (p1 : Int32) : (own_str p1).length ≤ 2 := by unfold own_str; (repeat' split) <;> simp
theorem own_m255 (x : Int32) : ∃ n : Nat, n < 256 ∧ (x &&& (255 : Int32)) = Int32.ofNat n := by
  have e1 := Jvm.Kit.i32_mask x (255 : Int32) (k := 8) (by decide) (by decide)
  have b0 := Int.emod_nonneg x.toInt (show (2 ^ 8 : Int) ≠ 0 by decide)
  have b1 := Int.emod_lt_of_pos x.toInt (show (0 : Int) < 2 ^ 8 by decide)
  refine ⟨(x &&& (255 : Int32)).toInt.toNat, by omega, Int32.toInt_inj.mp ?_⟩
  rw [Int32.toInt_ofNat_small (by omega)]; omega
theorem own_k1 : ∀ x, x < 256 → ((1 : Int32) ||| (Int32.ofNat x <<< ((2 : Int32) &&& 31))) = Int32.ofNat (1 + 4 * x) := by decide +kernel
theorem own_k2 : ∀ x, x < 256 → ((2 : Int32) ||| (Int32.ofNat x <<< ((2 : Int32) &&& 31))) = Int32.ofNat (2 + 4 * x) := by decide +kernel
theorem own_k3 : ∀ y, y < 256 → (Int32.ofNat y <<< ((10 : Int32) &&& 31)).toBitVec.toNat = y * 1024 := by decide +kernel
theorem own_bv {z : Nat} (h : z < 2 ^ 32) : (Int32.ofNat z).toBitVec.toNat = z := by
  show (BitVec.ofNat 32 z).toNat = z
  rw [BitVec.toNat_ofNat, Nat.mod_eq_of_lt h]
theorem own_k4 {z y : Nat} (hz : z < 1024) (hy : y < 256) : (Int32.ofNat z ||| (Int32.ofNat y <<< ((10 : Int32) &&& 31))) = Int32.ofNat (z + 1024 * y) := by
  apply Int32.toBitVec_inj.mp
  apply BitVec.eq_of_toNat_eq
  rw [Int32.toBitVec_or, BitVec.toNat_or, own_k3 y hy, own_bv (by omega), own_bv (by omega), Nat.or_comm]
  have q := Nat.shiftLeft_add_eq_or_of_lt (b := z) (i := 10) hz y
  rw [Nat.shiftLeft_eq] at q
  rw [show y * 1024 = y * 2 ^ 10 from rfl, ← q]
  omega
theorem own_ofeq {A B : Nat} (hA : A < 2 ^ 31) (hB : B < 2 ^ 31) : (Int32.ofNat A = Int32.ofNat B) ↔ A = B := by
  constructor
  · intro e
    have e3 := congrArg Int32.toInt e
    rw [Int32.toInt_ofNat_small hA, Int32.toInt_ofNat_small hB] at e3
    omega
  · intro e; rw [e]
theorem own_lo : ∀ x, x < 256 → (own_b (Int32.ofNat x) &&& (255 : Int32)) = Int32.ofNat x := by decide +kernel
theorem own_loeq {x y : Nat} (hx : x < 256) (hy : y < 256) (e : own_b (Int32.ofNat x) = own_b (Int32.ofNat y)) : x = y := by
  have q : Int32.ofNat x = Int32.ofNat y := by rw [← own_lo x hx, ← own_lo y hy, e]
  exact (own_ofeq (by omega) (by omega)).mp q
theorem own_shape (p : Int32) : ∃ x y, x < 256 ∧ y < 256 ∧ ((own_key p = Int32.ofNat 0 ∧ own_str p = []) ∨ (own_key p = Int32.ofNat (1 + 4 * x) ∧ own_str p = [own_b (Int32.ofNat x)]) ∨ (own_key p = Int32.ofNat (2 + 4 * x + 1024 * y) ∧ own_str p = [own_b (Int32.ofNat x), own_b (Int32.ofNat y)])) := by
  obtain ⟨x, hx, ex⟩ := own_m255 (XT.ushr p (2 : Int32))
  obtain ⟨y, hy, ey⟩ := own_m255 (XT.ushr p (10 : Int32))
  refine ⟨x, y, hx, hy, ?_⟩
  have ex' : own_c1 p = Int32.ofNat x := ex
  have ey' : own_c2 p = Int32.ofNat y := ey
  rw [own_key, own_str, ex', ey']
  by_cases h0 : own_len_ p = (0 : Int32)
  · rw [if_pos h0, if_pos h0]; exact Or.inl ⟨rfl, rfl⟩
  · rw [if_neg h0, if_neg h0]
    by_cases h1 : own_len_ p = (1 : Int32)
    · rw [if_pos h1, if_pos h1]; exact Or.inr (Or.inl ⟨own_k1 x hx, rfl⟩)
    · rw [if_neg h1, if_neg h1, own_k2 x hx, own_k4 (by omega) hy]; exact Or.inr (Or.inr ⟨rfl, rfl⟩)
theorem own_inj {p q : Int32} : own_key p = own_key q ↔ own_str p = own_str q := by
  obtain ⟨x, y, hx, hy, h⟩ := own_shape p
  obtain ⟨x', y', hx', hy', h'⟩ := own_shape q
  rcases h with ⟨k, s⟩ | ⟨k, s⟩ | ⟨k, s⟩ <;> rcases h' with ⟨k', s'⟩ | ⟨k', s'⟩ | ⟨k', s'⟩ <;> rw [k, k', s, s', own_ofeq (by omega) (by omega)]
  · simp
  · exact ⟨fun e => by omega, fun e => by simp at e⟩
  · exact ⟨fun e => by omega, fun e => by simp at e⟩
  · exact ⟨fun e => by omega, fun e => by simp at e⟩
  · refine ⟨fun e => ?_, fun e => ?_⟩
    · have : x = x' := by omega
      rw [this]
    · have := own_loeq hx hx' (List.cons.inj e).1
      omega
  · exact ⟨fun e => by omega, fun e => by simp at e⟩
  · exact ⟨fun e => by omega, fun e => by simp at e⟩
  · exact ⟨fun e => by omega, fun e => by simp at e⟩
  · refine ⟨fun e => ?_, fun e => ?_⟩
    · have h1 : x = x' := by omega
      have h2 : y = y' := by omega
      rw [h1, h2]
    · have h1 := own_loeq hx hx' (List.cons.inj e).1
      have h2 := own_loeq hy hy' (List.cons.inj (List.cons.inj e).2).1
      omega
theorem own_and255 (x : Int32) : ¬ (x &&& (255 : Int32)) < 0 ∧ ¬ (255 : Int32) < (x &&& (255 : Int32)) := by
  have e1 := Jvm.Kit.i32_mask x (255 : Int32) (k := 8) (by decide) (by decide)
  have b0 := Int.emod_nonneg x.toInt (show (2 ^ 8 : Int) ≠ 0 by decide)
  have b1 := Int.emod_lt_of_pos x.toInt (show (0 : Int) < 2 ^ 8 by decide)
  have z0 : (0 : Int32).toInt = 0 := by decide
  have z1 : (255 : Int32).toInt = 255 := by decide
  rw [Int32.lt_iff_toInt_lt, Int32.lt_iff_toInt_lt]
  omega
theorem own_nar255 (x : Int32) : ¬ nar .char (x &&& (255 : Int32)) < 0 ∧ ¬ (255 : Int32) < nar .char (x &&& (255 : Int32)) := by
  have q : nar .char (x &&& (255 : Int32)) = x &&& 255 := i2c_mask x
  rw [q]; exact own_and255 x
theorem own_and3 (x : Int32) : 0 ≤ (x &&& (3 : Int32)).toInt ∧ (x &&& (3 : Int32)).toInt < 4 := by
  have e1 := Jvm.Kit.i32_mask x (3 : Int32) (k := 2) (by decide) (by decide)
  have b0 := Int.emod_nonneg x.toInt (show (2 ^ 2 : Int) ≠ 0 by decide)
  have b1 := Int.emod_lt_of_pos x.toInt (show (0 : Int) < 2 ^ 2 by decide)
  omega
theorem own_4 (k : Int32) (h : 0 ≤ k.toInt ∧ k.toInt < 4) : k = 0 ∨ k = 1 ∨ k = 2 ∨ k = 3 := by
  simp only [← Int32.toInt_inj, Int32.reduceToInt]; omega
theorem d_method_3_code_0 : decode method_3_code 0 = .ok (.iload_n 0, 1) := by decide +kernel
theorem d_method_3_code_1 : decode method_3_code 1 = .ok (.iconst 3, 1) := by decide +kernel
theorem d_method_3_code_2 : decode method_3_code 2 = .ok (.iand, 1) := by decide +kernel
theorem d_method_3_code_3 : decode method_3_code 3 = .ok (.istore_n 1, 1) := by decide +kernel
theorem d_method_3_code_4 : decode method_3_code 4 = .ok (.iload_n 1, 1) := by decide +kernel
theorem d_method_3_code_5 : decode method_3_code 5 = .ok (.ifCond .ne 5, 3) := by decide +kernel
theorem d_method_3_code_8 : decode method_3_code 8 = .ok (.iconst 0, 1) := by decide +kernel
theorem d_method_3_code_9 : decode method_3_code 9 = .ok (.ireturn, 1) := by decide +kernel
theorem d_method_3_code_10 : decode method_3_code 10 = .ok (.iload_n 1, 1) := by decide +kernel
theorem d_method_3_code_11 : decode method_3_code 11 = .ok (.iconst 3, 1) := by decide +kernel
theorem d_method_3_code_12 : decode method_3_code 12 = .ok (.if_icmp .ne 5, 3) := by decide +kernel
theorem d_method_3_code_15 : decode method_3_code 15 = .ok (.iconst 2, 1) := by decide +kernel
theorem d_method_3_code_16 : decode method_3_code 16 = .ok (.ireturn, 1) := by decide +kernel
theorem d_method_3_code_17 : decode method_3_code 17 = .ok (.iconst 1, 1) := by decide +kernel
theorem d_method_3_code_18 : decode method_3_code 18 = .ok (.ireturn, 1) := by decide +kernel
theorem pn_com_example_tenon_tenon_core_XmlElementDeclaredPinLaw : plainName "com/example/tenon/tenon/core/XmlElementDeclaredPinLaw" = true := by first | (simp [plainName, overriddenIn]; done) | decide +kernel
theorem d_method_4_code_0 : decode method_4_code 0 = .ok (.iload_n 0, 1) := by decide +kernel
theorem d_method_4_code_1 : decode method_4_code 1 = .ok (.invokestatic 35, 3) := by decide +kernel
theorem pd_28I29I : parseMethodDescriptor "(I)I" = some ⟨[.int], some .int⟩ := by decide +kernel
theorem d_method_4_code_4 : decode method_4_code 4 = .ok (.istore_n 1, 1) := by decide +kernel
theorem d_method_4_code_5 : decode method_4_code 5 = .ok (.iload_n 0, 1) := by decide +kernel
theorem d_method_4_code_6 : decode method_4_code 6 = .ok (.iconst 2, 1) := by decide +kernel
theorem d_method_4_code_7 : decode method_4_code 7 = .ok (.iushr, 1) := by decide +kernel
theorem d_method_4_code_8 : decode method_4_code 8 = .ok (.sipush 255, 3) := by decide +kernel
theorem d_method_4_code_11 : decode method_4_code 11 = .ok (.iand, 1) := by decide +kernel
theorem d_method_4_code_12 : decode method_4_code 12 = .ok (.istore_n 2, 1) := by decide +kernel
theorem d_method_4_code_13 : decode method_4_code 13 = .ok (.iload_n 0, 1) := by decide +kernel
theorem d_method_4_code_14 : decode method_4_code 14 = .ok (.bipush 10, 2) := by decide +kernel
theorem d_method_4_code_16 : decode method_4_code 16 = .ok (.iushr, 1) := by decide +kernel
theorem d_method_4_code_17 : decode method_4_code 17 = .ok (.sipush 255, 3) := by decide +kernel
theorem d_method_4_code_20 : decode method_4_code 20 = .ok (.iand, 1) := by decide +kernel
theorem d_method_4_code_21 : decode method_4_code 21 = .ok (.istore_n 3, 1) := by decide +kernel
theorem d_method_4_code_22 : decode method_4_code 22 = .ok (.iload_n 1, 1) := by decide +kernel
theorem d_method_4_code_23 : decode method_4_code 23 = .ok (.ifCond .ne 5, 3) := by decide +kernel
theorem d_method_4_code_26 : decode method_4_code 26 = .ok (.iconst 0, 1) := by decide +kernel
theorem d_method_4_code_27 : decode method_4_code 27 = .ok (.ireturn, 1) := by decide +kernel
theorem d_method_4_code_28 : decode method_4_code 28 = .ok (.iload_n 1, 1) := by decide +kernel
theorem d_method_4_code_29 : decode method_4_code 29 = .ok (.iconst 1, 1) := by decide +kernel
theorem d_method_4_code_30 : decode method_4_code 30 = .ok (.if_icmp .ne 9, 3) := by decide +kernel
theorem d_method_4_code_33 : decode method_4_code 33 = .ok (.iconst 1, 1) := by decide +kernel
theorem d_method_4_code_34 : decode method_4_code 34 = .ok (.iload_n 2, 1) := by decide +kernel
theorem d_method_4_code_35 : decode method_4_code 35 = .ok (.iconst 2, 1) := by decide +kernel
theorem d_method_4_code_36 : decode method_4_code 36 = .ok (.ishl, 1) := by decide +kernel
theorem d_method_4_code_37 : decode method_4_code 37 = .ok (.ior, 1) := by decide +kernel
theorem d_method_4_code_38 : decode method_4_code 38 = .ok (.ireturn, 1) := by decide +kernel
theorem d_method_4_code_39 : decode method_4_code 39 = .ok (.iconst 2, 1) := by decide +kernel
theorem d_method_4_code_40 : decode method_4_code 40 = .ok (.iload_n 2, 1) := by decide +kernel
theorem d_method_4_code_41 : decode method_4_code 41 = .ok (.iconst 2, 1) := by decide +kernel
theorem d_method_4_code_42 : decode method_4_code 42 = .ok (.ishl, 1) := by decide +kernel
theorem d_method_4_code_43 : decode method_4_code 43 = .ok (.ior, 1) := by decide +kernel
theorem d_method_4_code_44 : decode method_4_code 44 = .ok (.iload_n 3, 1) := by decide +kernel
theorem d_method_4_code_45 : decode method_4_code 45 = .ok (.bipush 10, 2) := by decide +kernel
theorem d_method_4_code_47 : decode method_4_code 47 = .ok (.ishl, 1) := by decide +kernel
theorem d_method_4_code_48 : decode method_4_code 48 = .ok (.ior, 1) := by decide +kernel
theorem d_method_4_code_49 : decode method_4_code 49 = .ok (.ireturn, 1) := by decide +kernel
theorem d_jdk_43_method_13_code_0 : decode jdk_43_method_13_code 0 = .ok (.aload_n 0, 1) := by decide +kernel
theorem d_jdk_43_method_13_code_1 : decode jdk_43_method_13_code 1 = .ok (.arraylength, 1) := by decide +kernel
theorem d_jdk_43_method_13_code_2 : decode jdk_43_method_13_code 2 = .ok (.aload_n 1, 1) := by decide +kernel
theorem d_jdk_43_method_13_code_3 : decode jdk_43_method_13_code 3 = .ok (.arraylength, 1) := by decide +kernel
theorem d_jdk_43_method_13_code_4 : decode jdk_43_method_13_code 4 = .ok (.if_icmp .ne 30, 3) := by decide +kernel
theorem d_jdk_43_method_13_code_7 : decode jdk_43_method_13_code 7 = .ok (.iconst 0, 1) := by decide +kernel
theorem d_jdk_43_method_13_code_8 : decode jdk_43_method_13_code 8 = .ok (.istore_n 2, 1) := by decide +kernel
theorem d_jdk_43_method_13_code_9 : decode jdk_43_method_13_code 9 = .ok (.iload_n 2, 1) := by decide +kernel
theorem d_jdk_43_method_13_code_10 : decode jdk_43_method_13_code 10 = .ok (.aload_n 0, 1) := by decide +kernel
theorem d_jdk_43_method_13_code_11 : decode jdk_43_method_13_code 11 = .ok (.arraylength, 1) := by decide +kernel
theorem d_jdk_43_method_13_code_12 : decode jdk_43_method_13_code 12 = .ok (.if_icmp .ge 20, 3) := by decide +kernel
theorem d_jdk_43_method_13_code_32 : decode jdk_43_method_13_code 32 = .ok (.iconst 1, 1) := by decide +kernel
theorem d_jdk_43_method_13_code_33 : decode jdk_43_method_13_code 33 = .ok (.ireturn, 1) := by decide +kernel
theorem pn_java_lang_StringLatin1 : plainName "java/lang/StringLatin1" = true := by first | (simp [plainName, overriddenIn]; done) | decide +kernel
theorem d_jdk_43_method_13_code_34 : decode jdk_43_method_13_code 34 = .ok (.iconst 0, 1) := by decide +kernel
theorem d_jdk_43_method_13_code_35 : decode jdk_43_method_13_code 35 = .ok (.ireturn, 1) := by decide +kernel
theorem d_jdk_43_method_13_code_15 : decode jdk_43_method_13_code 15 = .ok (.aload_n 0, 1) := by decide +kernel
theorem d_jdk_43_method_13_code_16 : decode jdk_43_method_13_code 16 = .ok (.iload_n 2, 1) := by decide +kernel
theorem d_jdk_43_method_13_code_17 : decode jdk_43_method_13_code 17 = .ok (.baload, 1) := by decide +kernel
theorem d_jdk_43_method_13_code_18 : decode jdk_43_method_13_code 18 = .ok (.aload_n 1, 1) := by decide +kernel
theorem d_jdk_43_method_13_code_19 : decode jdk_43_method_13_code 19 = .ok (.iload_n 2, 1) := by decide +kernel
theorem d_jdk_43_method_13_code_20 : decode jdk_43_method_13_code 20 = .ok (.baload, 1) := by decide +kernel
theorem d_jdk_43_method_13_code_21 : decode jdk_43_method_13_code 21 = .ok (.if_icmp .eq 5, 3) := by decide +kernel
theorem d_jdk_43_method_13_code_26 : decode jdk_43_method_13_code 26 = .ok (.iinc 2 1, 3) := by decide +kernel
theorem d_jdk_43_method_13_code_29 : decode jdk_43_method_13_code 29 = .ok (.goto (-20), 3) := by decide +kernel
theorem d_jdk_43_method_13_code_24 : decode jdk_43_method_13_code 24 = .ok (.iconst 0, 1) := by decide +kernel
theorem d_jdk_43_method_13_code_25 : decode jdk_43_method_13_code 25 = .ok (.ireturn, 1) := by decide +kernel
theorem d_jdk_42_method_66_code_0 : decode jdk_42_method_66_code 0 = .ok (.aload_n 0, 1) := by decide +kernel
theorem d_jdk_42_method_66_code_1 : decode jdk_42_method_66_code 1 = .ok (.aload_n 1, 1) := by decide +kernel
theorem d_jdk_42_method_66_code_2 : decode jdk_42_method_66_code 2 = .ok (.if_acmp .ne 5, 3) := by decide +kernel
theorem d_jdk_42_method_66_code_7 : decode jdk_42_method_66_code 7 = .ok (.aload_n 1, 1) := by decide +kernel
theorem d_jdk_42_method_66_code_8 : decode jdk_42_method_66_code 8 = .ok (.instanceof 10, 3) := by decide +kernel
theorem d_jdk_42_method_66_code_11 : decode jdk_42_method_66_code 11 = .ok (.ifCond .eq 43, 3) := by decide +kernel
theorem d_jdk_42_method_66_code_14 : decode jdk_42_method_66_code 14 = .ok (.aload_n 1, 1) := by decide +kernel
theorem d_jdk_42_method_66_code_15 : decode jdk_42_method_66_code 15 = .ok (.checkcast 10, 3) := by decide +kernel
theorem d_jdk_42_method_66_code_18 : decode jdk_42_method_66_code 18 = .ok (.astore_n 2, 1) := by decide +kernel
theorem d_jdk_42_method_66_code_19 : decode jdk_42_method_66_code 19 = .ok (.getstatic 38, 3) := by decide +kernel
theorem d_jdk_42_method_66_code_22 : decode jdk_42_method_66_code 22 = .ok (.ifCond .eq 14, 3) := by decide +kernel
theorem d_jdk_42_method_66_code_25 : decode jdk_42_method_66_code 25 = .ok (.aload_n 0, 1) := by decide +kernel
theorem d_jdk_42_method_66_code_26 : decode jdk_42_method_66_code 26 = .ok (.getfield 15, 3) := by decide +kernel
theorem d_jdk_42_method_66_code_29 : decode jdk_42_method_66_code 29 = .ok (.aload_n 2, 1) := by decide +kernel
theorem d_jdk_42_method_66_code_30 : decode jdk_42_method_66_code 30 = .ok (.getfield 15, 3) := by decide +kernel
theorem d_jdk_42_method_66_code_33 : decode jdk_42_method_66_code 33 = .ok (.if_icmp .ne 21, 3) := by decide +kernel
theorem d_jdk_42_method_66_code_36 : decode jdk_42_method_66_code 36 = .ok (.aload_n 0, 1) := by decide +kernel
theorem d_jdk_42_method_66_code_37 : decode jdk_42_method_66_code 37 = .ok (.getfield 9, 3) := by decide +kernel
theorem d_jdk_42_method_66_code_40 : decode jdk_42_method_66_code 40 = .ok (.aload_n 2, 1) := by decide +kernel
theorem d_jdk_42_method_66_code_41 : decode jdk_42_method_66_code 41 = .ok (.getfield 9, 3) := by decide +kernel
theorem d_jdk_42_method_66_code_44 : decode jdk_42_method_66_code 44 = .ok (.invokestatic 541, 3) := by decide +kernel
theorem pd_285bB5bB29Z : parseMethodDescriptor "([B[B)Z" = some ⟨[(.array .byte), (.array .byte)], some .boolean⟩ := by decide +kernel
theorem d_jdk_42_method_66_code_47 : decode jdk_42_method_66_code 47 = .ok (.ifCond .eq 7, 3) := by decide +kernel
theorem d_jdk_42_method_66_code_54 : decode jdk_42_method_66_code 54 = .ok (.iconst 0, 1) := by decide +kernel
theorem d_jdk_42_method_66_code_55 : decode jdk_42_method_66_code 55 = .ok (.ireturn, 1) := by decide +kernel
theorem d_jdk_42_method_66_code_50 : decode jdk_42_method_66_code 50 = .ok (.iconst 1, 1) := by decide +kernel
theorem d_jdk_42_method_66_code_51 : decode jdk_42_method_66_code 51 = .ok (.goto 4, 3) := by decide +kernel
theorem pn_java_lang_String : plainName "java/lang/String" = true := by first | (simp [plainName, overriddenIn]; done) | decide +kernel
theorem d_jdk_42_method_66_code_5 : decode jdk_42_method_66_code 5 = .ok (.iconst 1, 1) := by decide +kernel
theorem d_jdk_42_method_66_code_6 : decode jdk_42_method_66_code 6 = .ok (.ireturn, 1) := by decide +kernel
theorem d_prog_85_method_13_code_0 : decode prog_85_method_13_code 0 = .ok (.iconst 0, 1) := by decide +kernel
theorem d_prog_85_method_13_code_1 : decode prog_85_method_13_code 1 = .ok (.istore_n 2, 1) := by decide +kernel
theorem d_prog_85_method_13_code_2 : decode prog_85_method_13_code 2 = .ok (.iload_n 2, 1) := by decide +kernel
theorem d_prog_85_method_13_code_3 : decode prog_85_method_13_code 3 = .ok (.aload_n 0, 1) := by decide +kernel
theorem d_prog_85_method_13_code_4 : decode prog_85_method_13_code 4 = .ok (.arraylength, 1) := by decide +kernel
theorem d_prog_85_method_13_code_5 : decode prog_85_method_13_code 5 = .ok (.if_icmp .ge 25, 3) := by decide +kernel
theorem d_prog_85_method_13_code_30 : decode prog_85_method_13_code 30 = .ok (.aconst_null, 1) := by decide +kernel
theorem d_prog_85_method_13_code_31 : decode prog_85_method_13_code 31 = .ok (.areturn, 1) := by decide +kernel
theorem pn_com_example_tenon_tenon_core_XmlElement : plainName "com/example/tenon/tenon/core/XmlElement" = true := by first | (simp [plainName, overriddenIn]; done) | decide +kernel
theorem d_prog_85_method_13_code_8 : decode prog_85_method_13_code 8 = .ok (.aload_n 0, 1) := by decide +kernel
theorem d_prog_85_method_13_code_9 : decode prog_85_method_13_code 9 = .ok (.iload_n 2, 1) := by decide +kernel
theorem d_prog_85_method_13_code_10 : decode prog_85_method_13_code 10 = .ok (.aaload, 1) := by decide +kernel
theorem d_prog_85_method_13_code_11 : decode prog_85_method_13_code 11 = .ok (.aload_n 1, 1) := by decide +kernel
theorem d_prog_85_method_13_code_12 : decode prog_85_method_13_code 12 = .ok (.invokevirtual 59, 3) := by decide +kernel
theorem pd_28Ljava2flang2fObject3b29Z : parseMethodDescriptor "(Ljava/lang/Object;)Z" = some ⟨[(.object "java/lang/Object")], some .boolean⟩ := by decide +kernel
theorem d_prog_85_method_13_code_15 : decode prog_85_method_13_code 15 = .ok (.ifCond .eq 9, 3) := by decide +kernel
theorem d_prog_85_method_13_code_18 : decode prog_85_method_13_code 18 = .ok (.aload_n 0, 1) := by decide +kernel
theorem d_prog_85_method_13_code_19 : decode prog_85_method_13_code 19 = .ok (.iload_n 2, 1) := by decide +kernel
theorem d_prog_85_method_13_code_20 : decode prog_85_method_13_code 20 = .ok (.iconst 1, 1) := by decide +kernel
theorem d_prog_85_method_13_code_21 : decode prog_85_method_13_code 21 = .ok (.iadd, 1) := by decide +kernel
theorem d_prog_85_method_13_code_22 : decode prog_85_method_13_code 22 = .ok (.aaload, 1) := by decide +kernel
theorem d_prog_85_method_13_code_23 : decode prog_85_method_13_code 23 = .ok (.areturn, 1) := by decide +kernel
theorem d_prog_85_method_13_code_24 : decode prog_85_method_13_code 24 = .ok (.iinc 2 2, 3) := by decide +kernel
theorem d_prog_85_method_13_code_27 : decode prog_85_method_13_code 27 = .ok (.goto (-25), 3) := by decide +kernel
theorem d_jdk_42_method_149_code_0 : decode jdk_42_method_149_code 0 = .ok (.aload_n 0, 1) := by decide +kernel
theorem d_jdk_42_method_149_code_1 : decode jdk_42_method_149_code 1 = .ok (.invokespecial 1, 3) := by decide +kernel
theorem d_jdk_42_method_149_code_4 : decode jdk_42_method_149_code 4 = .ok (.iload_n 3, 1) := by decide +kernel
theorem d_jdk_42_method_149_code_5 : decode jdk_42_method_149_code 5 = .ok (.ifCond .ne 22, 3) := by decide +kernel
theorem d_jdk_42_method_149_code_8 : decode jdk_42_method_149_code 8 = .ok (.aload_n 0, 1) := by decide +kernel
theorem d_jdk_42_method_149_code_9 : decode jdk_42_method_149_code 9 = .ok (.ldc 7, 2) := by decide +kernel
theorem d_jdk_42_method_149_code_11 : decode jdk_42_method_149_code 11 = .ok (.getfield 9, 3) := by decide +kernel
theorem d_jdk_42_method_149_code_14 : decode jdk_42_method_149_code 14 = .ok (.putfield 9, 3) := by decide +kernel
theorem d_jdk_42_method_149_code_17 : decode jdk_42_method_149_code 17 = .ok (.aload_n 0, 1) := by decide +kernel
theorem d_jdk_42_method_149_code_18 : decode jdk_42_method_149_code 18 = .ok (.ldc 7, 2) := by decide +kernel
theorem d_jdk_42_method_149_code_20 : decode jdk_42_method_149_code 20 = .ok (.getfield 15, 3) := by decide +kernel
theorem d_jdk_42_method_149_code_23 : decode jdk_42_method_149_code 23 = .ok (.putfield 15, 3) := by decide +kernel
theorem d_jdk_42_method_149_code_26 : decode jdk_42_method_149_code 26 = .ok (.return_, 1) := by decide +kernel
theorem d_jdk_42_method_3_code_0 : decode jdk_42_method_3_code 0 = .ok (.aload_n 0, 1) := by decide +kernel
theorem d_jdk_42_method_3_code_1 : decode jdk_42_method_3_code 1 = .ok (.aload_n 1, 1) := by decide +kernel
theorem d_jdk_42_method_3_code_2 : decode jdk_42_method_3_code 2 = .ok (.iconst 0, 1) := by decide +kernel
theorem d_jdk_42_method_3_code_3 : decode jdk_42_method_3_code 3 = .ok (.aload_n 1, 1) := by decide +kernel
theorem d_jdk_42_method_3_code_4 : decode jdk_42_method_3_code 4 = .ok (.arraylength, 1) := by decide +kernel
theorem d_jdk_42_method_3_code_5 : decode jdk_42_method_3_code 5 = .ok (.aconst_null, 1) := by decide +kernel
theorem d_jdk_42_method_3_code_6 : decode jdk_42_method_3_code 6 = .ok (.invokespecial 27, 3) := by decide +kernel
theorem pd_285bCIILjava2flang2fVoid3b29V : parseMethodDescriptor "([CIILjava/lang/Void;)V" = some ⟨[(.array .char), .int, .int, (.object "java/lang/Void")], none⟩ := by decide +kernel
theorem d_jdk_42_method_3_code_9 : decode jdk_42_method_3_code 9 = .ok (.return_, 1) := by decide +kernel
theorem d_method_5_code_0 : decode method_5_code 0 = .ok (.iload_n 0, 1) := by decide +kernel
theorem d_method_5_code_1 : decode method_5_code 1 = .ok (.invokestatic 35, 3) := by decide +kernel
theorem d_method_5_code_4 : decode method_5_code 4 = .ok (.istore_n 1, 1) := by decide +kernel
theorem d_method_5_code_5 : decode method_5_code 5 = .ok (.iload_n 0, 1) := by decide +kernel
theorem d_method_5_code_6 : decode method_5_code 6 = .ok (.iconst 2, 1) := by decide +kernel
theorem d_method_5_code_7 : decode method_5_code 7 = .ok (.iushr, 1) := by decide +kernel
theorem d_method_5_code_8 : decode method_5_code 8 = .ok (.sipush 255, 3) := by decide +kernel
theorem d_method_5_code_11 : decode method_5_code 11 = .ok (.iand, 1) := by decide +kernel
theorem d_method_5_code_12 : decode method_5_code 12 = .ok (.i2c, 1) := by decide +kernel
theorem d_method_5_code_13 : decode method_5_code 13 = .ok (.istore_n 2, 1) := by decide +kernel
theorem d_method_5_code_14 : decode method_5_code 14 = .ok (.iload_n 0, 1) := by decide +kernel
theorem d_method_5_code_15 : decode method_5_code 15 = .ok (.bipush 10, 2) := by decide +kernel
theorem d_method_5_code_17 : decode method_5_code 17 = .ok (.iushr, 1) := by decide +kernel
theorem d_method_5_code_18 : decode method_5_code 18 = .ok (.sipush 255, 3) := by decide +kernel
theorem d_method_5_code_21 : decode method_5_code 21 = .ok (.iand, 1) := by decide +kernel
theorem d_method_5_code_22 : decode method_5_code 22 = .ok (.i2c, 1) := by decide +kernel
theorem d_method_5_code_23 : decode method_5_code 23 = .ok (.istore_n 3, 1) := by decide +kernel
theorem d_method_5_code_24 : decode method_5_code 24 = .ok (.iload_n 1, 1) := by decide +kernel
theorem d_method_5_code_25 : decode method_5_code 25 = .ok (.ifCond .ne 14, 3) := by decide +kernel
theorem d_method_5_code_28 : decode method_5_code 28 = .ok (.new 17, 3) := by decide +kernel
theorem d_method_5_code_31 : decode method_5_code 31 = .ok (.dup, 1) := by decide +kernel
theorem d_method_5_code_32 : decode method_5_code 32 = .ok (.iconst 0, 1) := by decide +kernel
theorem d_method_5_code_33 : decode method_5_code 33 = .ok (.newarray .char, 2) := by decide +kernel
theorem d_method_5_code_35 : decode method_5_code 35 = .ok (.invokespecial 38, 3) := by decide +kernel
theorem pd_285bC29V : parseMethodDescriptor "([C)V" = some ⟨[(.array .char)], none⟩ := by decide +kernel
theorem d_method_5_code_38 : decode method_5_code 38 = .ok (.areturn, 1) := by decide +kernel
theorem d_method_5_code_39 : decode method_5_code 39 = .ok (.iload_n 1, 1) := by decide +kernel
theorem d_method_5_code_40 : decode method_5_code 40 = .ok (.iconst 1, 1) := by decide +kernel
theorem d_method_5_code_41 : decode method_5_code 41 = .ok (.if_icmp .ne 18, 3) := by decide +kernel
theorem d_method_5_code_44 : decode method_5_code 44 = .ok (.new 17, 3) := by decide +kernel
theorem d_method_5_code_47 : decode method_5_code 47 = .ok (.dup, 1) := by decide +kernel
theorem d_method_5_code_48 : decode method_5_code 48 = .ok (.iconst 1, 1) := by decide +kernel
theorem d_method_5_code_49 : decode method_5_code 49 = .ok (.newarray .char, 2) := by decide +kernel
theorem d_method_5_code_51 : decode method_5_code 51 = .ok (.dup, 1) := by decide +kernel
theorem d_method_5_code_52 : decode method_5_code 52 = .ok (.iconst 0, 1) := by decide +kernel
theorem d_method_5_code_53 : decode method_5_code 53 = .ok (.iload_n 2, 1) := by decide +kernel
theorem d_method_5_code_54 : decode method_5_code 54 = .ok (.castore, 1) := by decide +kernel
theorem d_method_5_code_55 : decode method_5_code 55 = .ok (.invokespecial 38, 3) := by decide +kernel
theorem d_method_5_code_58 : decode method_5_code 58 = .ok (.areturn, 1) := by decide +kernel
theorem d_method_5_code_59 : decode method_5_code 59 = .ok (.new 17, 3) := by decide +kernel
theorem d_method_5_code_62 : decode method_5_code 62 = .ok (.dup, 1) := by decide +kernel
theorem d_method_5_code_63 : decode method_5_code 63 = .ok (.iconst 2, 1) := by decide +kernel
theorem d_method_5_code_64 : decode method_5_code 64 = .ok (.newarray .char, 2) := by decide +kernel
theorem d_method_5_code_66 : decode method_5_code 66 = .ok (.dup, 1) := by decide +kernel
theorem d_method_5_code_67 : decode method_5_code 67 = .ok (.iconst 0, 1) := by decide +kernel
theorem d_method_5_code_68 : decode method_5_code 68 = .ok (.iload_n 2, 1) := by decide +kernel
theorem d_method_5_code_69 : decode method_5_code 69 = .ok (.castore, 1) := by decide +kernel
theorem d_method_5_code_70 : decode method_5_code 70 = .ok (.dup, 1) := by decide +kernel
theorem d_method_5_code_71 : decode method_5_code 71 = .ok (.iconst 1, 1) := by decide +kernel
theorem d_method_5_code_72 : decode method_5_code 72 = .ok (.iload_n 3, 1) := by decide +kernel
theorem d_method_5_code_73 : decode method_5_code 73 = .ok (.castore, 1) := by decide +kernel
theorem d_method_5_code_74 : decode method_5_code 74 = .ok (.invokespecial 38, 3) := by decide +kernel
theorem d_method_5_code_77 : decode method_5_code 77 = .ok (.areturn, 1) := by decide +kernel
theorem pd_28I29Ljava2flang2fString3b : parseMethodDescriptor "(I)Ljava/lang/String;" = some ⟨[.int], some (.object "java/lang/String")⟩ := by decide +kernel
theorem pd_285bLjava2flang2fString3bLjava2flang2fString3b29Ljava2flang2fString3b : parseMethodDescriptor "([Ljava/lang/String;Ljava/lang/String;)Ljava/lang/String;" = some ⟨[(.array (.object "java/lang/String")), (.object "java/lang/String")], some (.object "java/lang/String")⟩ := by decide +kernel
theorem ef_rmLen (x0 : Int32) (m : MethodId) : entryFrame m #[(.int x0)] 2 = mkF m 0 #[.val (.int x0), .unset] [] := by first | (simp [entryFrame, mkF, argsToLocals, Value.category]; done) | rfl
set_option maxRecDepth 65536 in
set_option maxHeartbeats 40000000 in
theorem rmLen (l : Launch) (Z : State) (a0 : Array Value) (hw : ∀ d ∈ tables_1, d.before a0 Z = true) (p1 : Int32) (h0 : Heap) :
    Does l Z (⟨"com/example/tenon/tenon/core/XmlElementDeclaredPinLaw", "len", "(I)I"⟩ : MethodName) method_3_code 2 (some .int) [] ({ frames := 0, cells := 0, slots := 0, locals := 0 } : Room) #[(.int p1)] h0 (Val (some (.int (own_len_ p1))) h0) := by
  refine Does.intro (plainFor_of_name pn_com_example_tenon_tenon_core_XmlElementDeclaredPinLaw) (ef_rmLen p1) ?_
  intro p e s m below meth c s₁ hx hby hml hown hnm hret hlk hZ e0 X0
  show Go p e below _ s₁ (mkF m 0 #[.val (.int p1), .unset] [])
  refine Go.st (fun _ h => XS.iloadN X0.here hx rfl (hb hby d_method_3_code_0) rfl h) ?_
  show Go p e below _ s₁ (mkF m 1 #[.val (.int p1), .unset] [(.int p1)])
  refine Go.st (fun _ h => XT.iconstV X0.here hx rfl (3 : Int32) (hb hby d_method_3_code_1) (by decide) h) ?_
  show Go p e below _ s₁ (mkF m 2 #[.val (.int p1), .unset] [(.int (3 : Int32)), (.int p1)])
  refine Go.st (fun _ h => XS.iand X0.here hx rfl (hb hby d_method_3_code_2) rfl h) ?_
  show Go p e below _ s₁ (mkF m 3 #[.val (.int p1), .unset] [(.int (p1 &&& (3 : Int32)))])
  refine Go.st (fun _ h => XS.istoreN X0.here hx rfl (hb hby d_method_3_code_3) rfl (l' := #[.val (.int p1), .val (.int (p1 &&& (3 : Int32)))]) rfl h) ?_
  show Go p e below _ s₁ (mkF m 4 #[.val (.int p1), .val (.int (p1 &&& (3 : Int32)))] [])
  refine Go.st (fun _ h => XS.iloadN X0.here hx rfl (hb hby d_method_3_code_4) rfl h) ?_
  show Go p e below _ s₁ (mkF m 5 #[.val (.int p1), .val (.int (p1 &&& (3 : Int32)))] [(.int (p1 &&& (3 : Int32)))])
  by_cases hc1 : (p1 &&& (3 : Int32)) = (0 : Int32)
  · refine Go.st (fun _ h => XS.ifNo X0.here hx rfl (hb hby d_method_3_code_5) rfl ((if0 _ _).trans (teq hc1).2) h) ?_
    show Go p e below _ s₁ (mkF m 8 #[.val (.int p1), .val (.int (p1 &&& (3 : Int32)))] [])
    refine Go.st (fun _ h => XT.iconstV X0.here hx rfl (0 : Int32) (hb hby d_method_3_code_8) (by decide) h) ?_
    show Go p e below _ s₁ (mkF m 9 #[.val (.int p1), .val (.int (p1 &&& (3 : Int32)))] [(.int (0 : Int32))])
    refine Go.retI X0 hx hlk hret (hb hby d_method_3_code_9) (by decide) (by decide) ?_
    exact ⟨by rw [own_len_, if_pos hc1], rfl, e0⟩
  · refine Go.st (fun _ h => XS.ifYes X0.here hx rfl (pc0 := 5) (pc' := 10) rfl (hb hby d_method_3_code_5) rfl ((if0 _ _).trans (feq hc1).2) (by decide) (by decide) h) ?_
    show Go p e below _ s₁ (mkF m 10 #[.val (.int p1), .val (.int (p1 &&& (3 : Int32)))] [])
    refine Go.st (fun _ h => XS.iloadN X0.here hx rfl (hb hby d_method_3_code_10) rfl h) ?_
    show Go p e below _ s₁ (mkF m 11 #[.val (.int p1), .val (.int (p1 &&& (3 : Int32)))] [(.int (p1 &&& (3 : Int32)))])
    refine Go.st (fun _ h => XT.iconstV X0.here hx rfl (3 : Int32) (hb hby d_method_3_code_11) (by decide) h) ?_
    show Go p e below _ s₁ (mkF m 12 #[.val (.int p1), .val (.int (p1 &&& (3 : Int32)))] [(.int (3 : Int32)), (.int (p1 &&& (3 : Int32)))])
    by_cases hc2 : (p1 &&& (3 : Int32)) = (3 : Int32)
    · refine Go.st (fun _ h => XS.icmpNo X0.here hx rfl (hb hby d_method_3_code_12) rfl ((teq hc2).2) h) ?_
      show Go p e below _ s₁ (mkF m 15 #[.val (.int p1), .val (.int (p1 &&& (3 : Int32)))] [])
      refine Go.st (fun _ h => XT.iconstV X0.here hx rfl (2 : Int32) (hb hby d_method_3_code_15) (by decide) h) ?_
      show Go p e below _ s₁ (mkF m 16 #[.val (.int p1), .val (.int (p1 &&& (3 : Int32)))] [(.int (2 : Int32))])
      refine Go.retI X0 hx hlk hret (hb hby d_method_3_code_16) (by decide) (by decide) ?_
      exact ⟨by rw [own_len_, if_neg hc1, if_pos hc2], rfl, e0⟩
    · refine Go.st (fun _ h => XS.icmpYes X0.here hx rfl (pc0 := 12) (pc' := 17) rfl (hb hby d_method_3_code_12) rfl ((feq hc2).2) (by decide) (by decide) h) ?_
      show Go p e below _ s₁ (mkF m 17 #[.val (.int p1), .val (.int (p1 &&& (3 : Int32)))] [])
      refine Go.st (fun _ h => XT.iconstV X0.here hx rfl (1 : Int32) (hb hby d_method_3_code_17) (by decide) h) ?_
      show Go p e below _ s₁ (mkF m 18 #[.val (.int p1), .val (.int (p1 &&& (3 : Int32)))] [(.int (1 : Int32))])
      refine Go.retI X0 hx hlk hret (hb hby d_method_3_code_18) (by decide) (by decide) ?_
      exact ⟨by rw [own_len_, if_neg hc1, if_neg hc2], rfl, e0⟩
theorem ef_rmKey (x0 : Int32) (m : MethodId) : entryFrame m #[(.int x0)] 4 = mkF m 0 #[.val (.int x0), .unset, .unset, .unset] [] := by first | (simp [entryFrame, mkF, argsToLocals, Value.category]; done) | rfl
set_option maxRecDepth 65536 in
set_option maxHeartbeats 40000000 in
theorem rmKey (l : Launch) (Z : State) (a0 : Array Value) (hw : ∀ d ∈ tables_1, d.before a0 Z = true) (p1 : Int32) (h0 : Heap) :
    Does l Z (⟨"com/example/tenon/tenon/core/XmlElementDeclaredPinLaw", "key", "(I)I"⟩ : MethodName) method_4_code 4 (some .int) [] ({ frames := 1, cells := 0, slots := 0, locals := 13 } : Room) #[(.int p1)] h0 (Val (some (.int (own_key p1))) h0) := by
  refine Does.intro (plainFor_of_name pn_com_example_tenon_tenon_core_XmlElementDeclaredPinLaw) (ef_rmKey p1) ?_
  intro p e s m below meth c s₁ hx hby hml hown hnm hret hlk hZ e0 X0
  show Go p e below _ s₁ (mkF m 0 #[.val (.int p1), .unset, .unset, .unset] [])
  refine Go.st (fun _ h => XS.iloadN X0.here hx rfl (hb hby d_method_4_code_0) rfl h) ?_
  show Go p e below _ s₁ (mkF m 1 #[.val (.int p1), .unset, .unset, .unset] [(.int p1)])
  obtain ⟨T1, X1, e1, st1⟩ := own_still rfl rfl (Does.static (y := (⟨"com/example/tenon/tenon/core/XmlElementDeclaredPinLaw", "len", "(I)I"⟩ : MethodName)) (g := (mkF m 1 #[.val (.int p1), .unset, .unset, .unset] [(.int p1)])) (rmLen l Z a0 hw p1 h0) X0 hx hZ hown e0 (hw _ (List.mem_of_getElem? (i := 4) rfl)) (hw _ (List.mem_of_getElem? (i := 5) rfl)) (hw _ (List.mem_of_getElem? (i := 2) rfl)) (hw _ (List.mem_of_getElem? (i := 6) rfl)) (by decide) rfl (by rw [hml]; rfl) (argsL := [(.int p1)]) (rest := []) (lenOf pd_28I29I rfl) rfl (hb hby d_method_4_code_1) (W := 0) (by show 2 * 0 + _ ≤ _; exact Nat.le_of_eq rfl) (by decide) (by decide) (by decide) (by decide))
  refine Go.st st1 ?_
  show Go p e below _ T1 (mkF m 4 #[.val (.int p1), .unset, .unset, .unset] [(.int (own_len_ p1))])
  refine Go.st (fun _ h => XS.istoreN X1.here hx rfl (hb hby d_method_4_code_4) rfl (l' := #[.val (.int p1), .val (.int (own_len_ p1)), .unset, .unset]) rfl h) ?_
  show Go p e below _ T1 (mkF m 5 #[.val (.int p1), .val (.int (own_len_ p1)), .unset, .unset] [])
  refine Go.st (fun _ h => XS.iloadN X1.here hx rfl (hb hby d_method_4_code_5) rfl h) ?_
  show Go p e below _ T1 (mkF m 6 #[.val (.int p1), .val (.int (own_len_ p1)), .unset, .unset] [(.int p1)])
  refine Go.st (fun _ h => XT.iconstV X1.here hx rfl (2 : Int32) (hb hby d_method_4_code_6) (by decide) h) ?_
  show Go p e below _ T1 (mkF m 7 #[.val (.int p1), .val (.int (own_len_ p1)), .unset, .unset] [(.int (2 : Int32)), (.int p1)])
  refine Go.st (fun _ h => XT.iushr X1.here hx rfl (hb hby d_method_4_code_7) rfl h) ?_
  show Go p e below _ T1 (mkF m 8 #[.val (.int p1), .val (.int (own_len_ p1)), .unset, .unset] [(.int (XT.ushr p1 (2 : Int32)))])
  refine Go.st (fun _ h => XT.sipushV X1.here hx rfl (255 : Int32) (hb hby d_method_4_code_8) (by decide) h) ?_
  show Go p e below _ T1 (mkF m 11 #[.val (.int p1), .val (.int (own_len_ p1)), .unset, .unset] [(.int (255 : Int32)), (.int (XT.ushr p1 (2 : Int32)))])
  refine Go.st (fun _ h => XS.iand X1.here hx rfl (hb hby d_method_4_code_11) rfl h) ?_
  show Go p e below _ T1 (mkF m 12 #[.val (.int p1), .val (.int (own_len_ p1)), .unset, .unset] [(.int ((XT.ushr p1 (2 : Int32)) &&& (255 : Int32)))])
  refine Go.st (fun _ h => XS.istoreN X1.here hx rfl (hb hby d_method_4_code_12) rfl (l' := #[.val (.int p1), .val (.int (own_len_ p1)), .val (.int ((XT.ushr p1 (2 : Int32)) &&& (255 : Int32))), .unset]) rfl h) ?_
  show Go p e below _ T1 (mkF m 13 #[.val (.int p1), .val (.int (own_len_ p1)), .val (.int ((XT.ushr p1 (2 : Int32)) &&& (255 : Int32))), .unset] [])
  refine Go.st (fun _ h => XS.iloadN X1.here hx rfl (hb hby d_method_4_code_13) rfl h) ?_
  show Go p e below _ T1 (mkF m 14 #[.val (.int p1), .val (.int (own_len_ p1)), .val (.int ((XT.ushr p1 (2 : Int32)) &&& (255 : Int32))), .unset] [(.int p1)])
  refine Go.st (fun _ h => XT.bipushV X1.here hx rfl (10 : Int32) (hb hby d_method_4_code_14) (by decide) h) ?_
  show Go p e below _ T1 (mkF m 16 #[.val (.int p1), .val (.int (own_len_ p1)), .val (.int ((XT.ushr p1 (2 : Int32)) &&& (255 : Int32))), .unset] [(.int (10 : Int32)), (.int p1)])
  refine Go.st (fun _ h => XT.iushr X1.here hx rfl (hb hby d_method_4_code_16) rfl h) ?_
  show Go p e below _ T1 (mkF m 17 #[.val (.int p1), .val (.int (own_len_ p1)), .val (.int ((XT.ushr p1 (2 : Int32)) &&& (255 : Int32))), .unset] [(.int (XT.ushr p1 (10 : Int32)))])
  refine Go.st (fun _ h => XT.sipushV X1.here hx rfl (255 : Int32) (hb hby d_method_4_code_17) (by decide) h) ?_
  show Go p e below _ T1 (mkF m 20 #[.val (.int p1), .val (.int (own_len_ p1)), .val (.int ((XT.ushr p1 (2 : Int32)) &&& (255 : Int32))), .unset] [(.int (255 : Int32)), (.int (XT.ushr p1 (10 : Int32)))])
  refine Go.st (fun _ h => XS.iand X1.here hx rfl (hb hby d_method_4_code_20) rfl h) ?_
  show Go p e below _ T1 (mkF m 21 #[.val (.int p1), .val (.int (own_len_ p1)), .val (.int ((XT.ushr p1 (2 : Int32)) &&& (255 : Int32))), .unset] [(.int ((XT.ushr p1 (10 : Int32)) &&& (255 : Int32)))])
  refine Go.st (fun _ h => XS.istoreN X1.here hx rfl (hb hby d_method_4_code_21) rfl (l' := #[.val (.int p1), .val (.int (own_len_ p1)), .val (.int ((XT.ushr p1 (2 : Int32)) &&& (255 : Int32))), .val (.int ((XT.ushr p1 (10 : Int32)) &&& (255 : Int32)))]) rfl h) ?_
  show Go p e below _ T1 (mkF m 22 #[.val (.int p1), .val (.int (own_len_ p1)), .val (.int ((XT.ushr p1 (2 : Int32)) &&& (255 : Int32))), .val (.int ((XT.ushr p1 (10 : Int32)) &&& (255 : Int32)))] [])
  refine Go.st (fun _ h => XS.iloadN X1.here hx rfl (hb hby d_method_4_code_22) rfl h) ?_
  show Go p e below _ T1 (mkF m 23 #[.val (.int p1), .val (.int (own_len_ p1)), .val (.int ((XT.ushr p1 (2 : Int32)) &&& (255 : Int32))), .val (.int ((XT.ushr p1 (10 : Int32)) &&& (255 : Int32)))] [(.int (own_len_ p1))])
  by_cases hc2 : (own_len_ p1) = (0 : Int32)
  · refine Go.st (fun _ h => XS.ifNo X1.here hx rfl (hb hby d_method_4_code_23) rfl ((if0 _ _).trans (teq hc2).2) h) ?_
    show Go p e below _ T1 (mkF m 26 #[.val (.int p1), .val (.int (own_len_ p1)), .val (.int ((XT.ushr p1 (2 : Int32)) &&& (255 : Int32))), .val (.int ((XT.ushr p1 (10 : Int32)) &&& (255 : Int32)))] [])
    refine Go.st (fun _ h => XT.iconstV X1.here hx rfl (0 : Int32) (hb hby d_method_4_code_26) (by decide) h) ?_
    show Go p e below _ T1 (mkF m 27 #[.val (.int p1), .val (.int (own_len_ p1)), .val (.int ((XT.ushr p1 (2 : Int32)) &&& (255 : Int32))), .val (.int ((XT.ushr p1 (10 : Int32)) &&& (255 : Int32)))] [(.int (0 : Int32))])
    refine Go.retI X1 hx hlk hret (hb hby d_method_4_code_27) (by decide) (by decide) ?_
    exact ⟨(by rw [own_key, if_pos hc2]; try rfl), rfl, e1⟩
  · refine Go.st (fun _ h => XS.ifYes X1.here hx rfl (pc0 := 23) (pc' := 28) rfl (hb hby d_method_4_code_23) rfl ((if0 _ _).trans (feq hc2).2) (by decide) (by decide) h) ?_
    show Go p e below _ T1 (mkF m 28 #[.val (.int p1), .val (.int (own_len_ p1)), .val (.int ((XT.ushr p1 (2 : Int32)) &&& (255 : Int32))), .val (.int ((XT.ushr p1 (10 : Int32)) &&& (255 : Int32)))] [])
    refine Go.st (fun _ h => XS.iloadN X1.here hx rfl (hb hby d_method_4_code_28) rfl h) ?_
    show Go p e below _ T1 (mkF m 29 #[.val (.int p1), .val (.int (own_len_ p1)), .val (.int ((XT.ushr p1 (2 : Int32)) &&& (255 : Int32))), .val (.int ((XT.ushr p1 (10 : Int32)) &&& (255 : Int32)))] [(.int (own_len_ p1))])
    refine Go.st (fun _ h => XT.iconstV X1.here hx rfl (1 : Int32) (hb hby d_method_4_code_29) (by decide) h) ?_
    show Go p e below _ T1 (mkF m 30 #[.val (.int p1), .val (.int (own_len_ p1)), .val (.int ((XT.ushr p1 (2 : Int32)) &&& (255 : Int32))), .val (.int ((XT.ushr p1 (10 : Int32)) &&& (255 : Int32)))] [(.int (1 : Int32)), (.int (own_len_ p1))])
    by_cases hc3 : (own_len_ p1) = (1 : Int32)
    · refine Go.st (fun _ h => XS.icmpNo X1.here hx rfl (hb hby d_method_4_code_30) rfl ((teq hc3).2) h) ?_
      show Go p e below _ T1 (mkF m 33 #[.val (.int p1), .val (.int (own_len_ p1)), .val (.int ((XT.ushr p1 (2 : Int32)) &&& (255 : Int32))), .val (.int ((XT.ushr p1 (10 : Int32)) &&& (255 : Int32)))] [])
      refine Go.st (fun _ h => XT.iconstV X1.here hx rfl (1 : Int32) (hb hby d_method_4_code_33) (by decide) h) ?_
      show Go p e below _ T1 (mkF m 34 #[.val (.int p1), .val (.int (own_len_ p1)), .val (.int ((XT.ushr p1 (2 : Int32)) &&& (255 : Int32))), .val (.int ((XT.ushr p1 (10 : Int32)) &&& (255 : Int32)))] [(.int (1 : Int32))])
      refine Go.st (fun _ h => XS.iloadN X1.here hx rfl (hb hby d_method_4_code_34) rfl h) ?_
      show Go p e below _ T1 (mkF m 35 #[.val (.int p1), .val (.int (own_len_ p1)), .val (.int ((XT.ushr p1 (2 : Int32)) &&& (255 : Int32))), .val (.int ((XT.ushr p1 (10 : Int32)) &&& (255 : Int32)))] [(.int ((XT.ushr p1 (2 : Int32)) &&& (255 : Int32))), (.int (1 : Int32))])
      refine Go.st (fun _ h => XT.iconstV X1.here hx rfl (2 : Int32) (hb hby d_method_4_code_35) (by decide) h) ?_
      show Go p e below _ T1 (mkF m 36 #[.val (.int p1), .val (.int (own_len_ p1)), .val (.int ((XT.ushr p1 (2 : Int32)) &&& (255 : Int32))), .val (.int ((XT.ushr p1 (10 : Int32)) &&& (255 : Int32)))] [(.int (2 : Int32)), (.int ((XT.ushr p1 (2 : Int32)) &&& (255 : Int32))), (.int (1 : Int32))])
      refine Go.st (fun _ h => XT.ishl X1.here hx rfl (hb hby d_method_4_code_36) rfl h) ?_
      show Go p e below _ T1 (mkF m 37 #[.val (.int p1), .val (.int (own_len_ p1)), .val (.int ((XT.ushr p1 (2 : Int32)) &&& (255 : Int32))), .val (.int ((XT.ushr p1 (10 : Int32)) &&& (255 : Int32)))] [(.int (((XT.ushr p1 (2 : Int32)) &&& (255 : Int32)) <<< ((2 : Int32) &&& 31))), (.int (1 : Int32))])
      refine Go.st (fun _ h => XT.ior X1.here hx rfl (hb hby d_method_4_code_37) rfl h) ?_
      show Go p e below _ T1 (mkF m 38 #[.val (.int p1), .val (.int (own_len_ p1)), .val (.int ((XT.ushr p1 (2 : Int32)) &&& (255 : Int32))), .val (.int ((XT.ushr p1 (10 : Int32)) &&& (255 : Int32)))] [(.int ((1 : Int32) ||| (((XT.ushr p1 (2 : Int32)) &&& (255 : Int32)) <<< ((2 : Int32) &&& 31))))])
      refine Go.retI X1 hx hlk hret (hb hby d_method_4_code_38) (by decide) (by decide) ?_
      exact ⟨(by rw [own_key, if_neg hc2, if_pos hc3]; try rfl), rfl, e1⟩
    · refine Go.st (fun _ h => XS.icmpYes X1.here hx rfl (pc0 := 30) (pc' := 39) rfl (hb hby d_method_4_code_30) rfl ((feq hc3).2) (by decide) (by decide) h) ?_
      show Go p e below _ T1 (mkF m 39 #[.val (.int p1), .val (.int (own_len_ p1)), .val (.int ((XT.ushr p1 (2 : Int32)) &&& (255 : Int32))), .val (.int ((XT.ushr p1 (10 : Int32)) &&& (255 : Int32)))] [])
      refine Go.st (fun _ h => XT.iconstV X1.here hx rfl (2 : Int32) (hb hby d_method_4_code_39) (by decide) h) ?_
      show Go p e below _ T1 (mkF m 40 #[.val (.int p1), .val (.int (own_len_ p1)), .val (.int ((XT.ushr p1 (2 : Int32)) &&& (255 : Int32))), .val (.int ((XT.ushr p1 (10 : Int32)) &&& (255 : Int32)))] [(.int (2 : Int32))])
      refine Go.st (fun _ h => XS.iloadN X1.here hx rfl (hb hby d_method_4_code_40) rfl h) ?_
      show Go p e below _ T1 (mkF m 41 #[.val (.int p1), .val (.int (own_len_ p1)), .val (.int ((XT.ushr p1 (2 : Int32)) &&& (255 : Int32))), .val (.int ((XT.ushr p1 (10 : Int32)) &&& (255 : Int32)))] [(.int ((XT.ushr p1 (2 : Int32)) &&& (255 : Int32))), (.int (2 : Int32))])
      refine Go.st (fun _ h => XT.iconstV X1.here hx rfl (2 : Int32) (hb hby d_method_4_code_41) (by decide) h) ?_
      show Go p e below _ T1 (mkF m 42 #[.val (.int p1), .val (.int (own_len_ p1)), .val (.int ((XT.ushr p1 (2 : Int32)) &&& (255 : Int32))), .val (.int ((XT.ushr p1 (10 : Int32)) &&& (255 : Int32)))] [(.int (2 : Int32)), (.int ((XT.ushr p1 (2 : Int32)) &&& (255 : Int32))), (.int (2 : Int32))])
      refine Go.st (fun _ h => XT.ishl X1.here hx rfl (hb hby d_method_4_code_42) rfl h) ?_
      show Go p e below _ T1 (mkF m 43 #[.val (.int p1), .val (.int (own_len_ p1)), .val (.int ((XT.ushr p1 (2 : Int32)) &&& (255 : Int32))), .val (.int ((XT.ushr p1 (10 : Int32)) &&& (255 : Int32)))] [(.int (((XT.ushr p1 (2 : Int32)) &&& (255 : Int32)) <<< ((2 : Int32) &&& 31))), (.int (2 : Int32))])
      refine Go.st (fun _ h => XT.ior X1.here hx rfl (hb hby d_method_4_code_43) rfl h) ?_
      show Go p e below _ T1 (mkF m 44 #[.val (.int p1), .val (.int (own_len_ p1)), .val (.int ((XT.ushr p1 (2 : Int32)) &&& (255 : Int32))), .val (.int ((XT.ushr p1 (10 : Int32)) &&& (255 : Int32)))] [(.int ((2 : Int32) ||| (((XT.ushr p1 (2 : Int32)) &&& (255 : Int32)) <<< ((2 : Int32) &&& 31))))])
      refine Go.st (fun _ h => XS.iloadN X1.here hx rfl (hb hby d_method_4_code_44) rfl h) ?_
      show Go p e below _ T1 (mkF m 45 #[.val (.int p1), .val (.int (own_len_ p1)), .val (.int ((XT.ushr p1 (2 : Int32)) &&& (255 : Int32))), .val (.int ((XT.ushr p1 (10 : Int32)) &&& (255 : Int32)))] [(.int ((XT.ushr p1 (10 : Int32)) &&& (255 : Int32))), (.int ((2 : Int32) ||| (((XT.ushr p1 (2 : Int32)) &&& (255 : Int32)) <<< ((2 : Int32) &&& 31))))])
      refine Go.st (fun _ h => XT.bipushV X1.here hx rfl (10 : Int32) (hb hby d_method_4_code_45) (by decide) h) ?_
      show Go p e below _ T1 (mkF m 47 #[.val (.int p1), .val (.int (own_len_ p1)), .val (.int ((XT.ushr p1 (2 : Int32)) &&& (255 : Int32))), .val (.int ((XT.ushr p1 (10 : Int32)) &&& (255 : Int32)))] [(.int (10 : Int32)), (.int ((XT.ushr p1 (10 : Int32)) &&& (255 : Int32))), (.int ((2 : Int32) ||| (((XT.ushr p1 (2 : Int32)) &&& (255 : Int32)) <<< ((2 : Int32) &&& 31))))])
      refine Go.st (fun _ h => XT.ishl X1.here hx rfl (hb hby d_method_4_code_47) rfl h) ?_
      show Go p e below _ T1 (mkF m 48 #[.val (.int p1), .val (.int (own_len_ p1)), .val (.int ((XT.ushr p1 (2 : Int32)) &&& (255 : Int32))), .val (.int ((XT.ushr p1 (10 : Int32)) &&& (255 : Int32)))] [(.int (((XT.ushr p1 (10 : Int32)) &&& (255 : Int32)) <<< ((10 : Int32) &&& 31))), (.int ((2 : Int32) ||| (((XT.ushr p1 (2 : Int32)) &&& (255 : Int32)) <<< ((2 : Int32) &&& 31))))])
      refine Go.st (fun _ h => XT.ior X1.here hx rfl (hb hby d_method_4_code_48) rfl h) ?_
      show Go p e below _ T1 (mkF m 49 #[.val (.int p1), .val (.int (own_len_ p1)), .val (.int ((XT.ushr p1 (2 : Int32)) &&& (255 : Int32))), .val (.int ((XT.ushr p1 (10 : Int32)) &&& (255 : Int32)))] [(.int (((2 : Int32) ||| (((XT.ushr p1 (2 : Int32)) &&& (255 : Int32)) <<< ((2 : Int32) &&& 31))) ||| (((XT.ushr p1 (10 : Int32)) &&& (255 : Int32)) <<< ((10 : Int32) &&& 31))))])
      refine Go.retI X1 hx hlk hret (hb hby d_method_4_code_49) (by decide) (by decide) ?_
      exact ⟨(by rw [own_key, if_neg hc2, if_neg hc3]; try rfl), rfl, e1⟩
theorem ef_rmLat00 (x0 : Addr) (x1 : Addr) (m : MethodId) : entryFrame m #[(.ref x0), (.ref x1)] 3 = mkF m 0 #[.val (.ref x0), .val (.ref x1), .unset] [] := by first | (simp [entryFrame, mkF, argsToLocals, Value.category]; done) | rfl
set_option maxRecDepth 65536 in
set_option maxHeartbeats 40000000 in
theorem rmLat00 (l : Launch) (Z : State) (a0 : Array Value) (hw : ∀ d ∈ tables_1, d.before a0 Z = true) (t1 t2 : Addr) (k1 k2 : ClassId) (h0 : Heap) (B1 : Arv Z h0 t1 k1 .byte (0 : Int32) [] (.int (0 : Int32))) (B2 : Arv Z h0 t2 k2 .byte (0 : Int32) [] (.int (0 : Int32))) :
    Does l Z (⟨"java/lang/StringLatin1", "equals", "([B[B)Z"⟩ : MethodName) jdk_43_method_13_code 3 (some .boolean) [] ({ frames := 0, cells := 0, slots := 0, locals := 0 } : Room) #[(.ref t1), (.ref t2)] h0 (Val (some (.int (if ([] : List Int32) = [] then 1 else 0))) h0) := by
  refine Does.intro (plainFor_of_name pn_java_lang_StringLatin1) (ef_rmLat00 t1 t2) ?_
  intro p e s m below meth c s₁ hx hby hml hown hnm hret hlk hZ e0 X0
  show Go p e below _ s₁ (mkF m 0 #[.val (.ref t1), .val (.ref t2), .unset] [])
  refine Go.st (fun _ h => XS.aloadN X0.here hx rfl (hb hby d_jdk_43_method_13_code_0) rfl rfl h) ?_
  show Go p e below _ s₁ (mkF m 1 #[.val (.ref t1), .val (.ref t2), .unset] [(.ref t1)])
  refine Go.st (own_len X0 hx hZ e0 B1 rfl rfl (hb hby d_jdk_43_method_13_code_1)) ?_
  show Go p e below _ s₁ (mkF m 2 #[.val (.ref t1), .val (.ref t2), .unset] [(.int (0 : Int32))])
  refine Go.st (fun _ h => XS.aloadN X0.here hx rfl (hb hby d_jdk_43_method_13_code_2) rfl rfl h) ?_
  show Go p e below _ s₁ (mkF m 3 #[.val (.ref t1), .val (.ref t2), .unset] [(.ref t2), (.int (0 : Int32))])
  refine Go.st (own_len X0 hx hZ e0 B2 rfl rfl (hb hby d_jdk_43_method_13_code_3)) ?_
  show Go p e below _ s₁ (mkF m 4 #[.val (.ref t1), .val (.ref t2), .unset] [(.int (0 : Int32)), (.int (0 : Int32))])
  refine Go.st (fun _ h => XS.icmpNo X0.here hx rfl (hb hby d_jdk_43_method_13_code_4) rfl (by decide) h) ?_
  show Go p e below _ s₁ (mkF m 7 #[.val (.ref t1), .val (.ref t2), .unset] [])
  refine Go.st (fun _ h => XT.iconstV X0.here hx rfl (0 : Int32) (hb hby d_jdk_43_method_13_code_7) (by decide) h) ?_
  show Go p e below _ s₁ (mkF m 8 #[.val (.ref t1), .val (.ref t2), .unset] [(.int (0 : Int32))])
  refine Go.st (fun _ h => XS.istoreN X0.here hx rfl (hb hby d_jdk_43_method_13_code_8) rfl (l' := #[.val (.ref t1), .val (.ref t2), .val (.int (0 : Int32))]) rfl h) ?_
  show Go p e below _ s₁ (mkF m 9 #[.val (.ref t1), .val (.ref t2), .val (.int (0 : Int32))] [])
  refine Go.st (fun _ h => XS.iloadN X0.here hx rfl (hb hby d_jdk_43_method_13_code_9) rfl h) ?_
  show Go p e below _ s₁ (mkF m 10 #[.val (.ref t1), .val (.ref t2), .val (.int (0 : Int32))] [(.int (0 : Int32))])
  refine Go.st (fun _ h => XS.aloadN X0.here hx rfl (hb hby d_jdk_43_method_13_code_10) rfl rfl h) ?_
  show Go p e below _ s₁ (mkF m 11 #[.val (.ref t1), .val (.ref t2), .val (.int (0 : Int32))] [(.ref t1), (.int (0 : Int32))])
  refine Go.st (own_len X0 hx hZ e0 B1 rfl rfl (hb hby d_jdk_43_method_13_code_11)) ?_
  show Go p e below _ s₁ (mkF m 12 #[.val (.ref t1), .val (.ref t2), .val (.int (0 : Int32))] [(.int (0 : Int32)), (.int (0 : Int32))])
  refine Go.st (fun _ h => XS.icmpYes X0.here hx rfl (pc0 := 12) (pc' := 32) rfl (hb hby d_jdk_43_method_13_code_12) rfl (by decide) (by decide) (by decide) h) ?_
  show Go p e below _ s₁ (mkF m 32 #[.val (.ref t1), .val (.ref t2), .val (.int (0 : Int32))] [])
  refine Go.st (fun _ h => XT.iconstV X0.here hx rfl (1 : Int32) (hb hby d_jdk_43_method_13_code_32) (by decide) h) ?_
  show Go p e below _ s₁ (mkF m 33 #[.val (.ref t1), .val (.ref t2), .val (.int (0 : Int32))] [(.int (1 : Int32))])
  refine Go.retZ X0 hx hlk hret rfl (hb hby d_jdk_43_method_13_code_33) (by decide) (by decide) ?_
  exact ⟨by simp [], rfl, e0⟩
theorem ef_rmLat01 (x0 : Addr) (x1 : Addr) (m : MethodId) : entryFrame m #[(.ref x0), (.ref x1)] 3 = mkF m 0 #[.val (.ref x0), .val (.ref x1), .unset] [] := by first | (simp [entryFrame, mkF, argsToLocals, Value.category]; done) | rfl
set_option maxRecDepth 65536 in
set_option maxHeartbeats 40000000 in
theorem rmLat01 (l : Launch) (Z : State) (a0 : Array Value) (hw : ∀ d ∈ tables_1, d.before a0 Z = true) (z1 : Int32) (t1 t2 : Addr) (k1 k2 : ClassId) (h0 : Heap) (B1 : Arv Z h0 t1 k1 .byte (0 : Int32) [] (.int (0 : Int32))) (B2 : Arv Z h0 t2 k2 .byte (1 : Int32) [(.int z1)] (.int (0 : Int32))) :
    Does l Z (⟨"java/lang/StringLatin1", "equals", "([B[B)Z"⟩ : MethodName) jdk_43_method_13_code 3 (some .boolean) [] ({ frames := 0, cells := 0, slots := 0, locals := 0 } : Room) #[(.ref t1), (.ref t2)] h0 (Val (some (.int (if ([] : List Int32) = [z1] then 1 else 0))) h0) := by
  refine Does.intro (plainFor_of_name pn_java_lang_StringLatin1) (ef_rmLat01 t1 t2) ?_
  intro p e s m below meth c s₁ hx hby hml hown hnm hret hlk hZ e0 X0
  show Go p e below _ s₁ (mkF m 0 #[.val (.ref t1), .val (.ref t2), .unset] [])
  refine Go.st (fun _ h => XS.aloadN X0.here hx rfl (hb hby d_jdk_43_method_13_code_0) rfl rfl h) ?_
  show Go p e below _ s₁ (mkF m 1 #[.val (.ref t1), .val (.ref t2), .unset] [(.ref t1)])
  refine Go.st (own_len X0 hx hZ e0 B1 rfl rfl (hb hby d_jdk_43_method_13_code_1)) ?_
  show Go p e below _ s₁ (mkF m 2 #[.val (.ref t1), .val (.ref t2), .unset] [(.int (0 : Int32))])
  refine Go.st (fun _ h => XS.aloadN X0.here hx rfl (hb hby d_jdk_43_method_13_code_2) rfl rfl h) ?_
  show Go p e below _ s₁ (mkF m 3 #[.val (.ref t1), .val (.ref t2), .unset] [(.ref t2), (.int (0 : Int32))])
  refine Go.st (own_len X0 hx hZ e0 B2 rfl rfl (hb hby d_jdk_43_method_13_code_3)) ?_
  show Go p e below _ s₁ (mkF m 4 #[.val (.ref t1), .val (.ref t2), .unset] [(.int (1 : Int32)), (.int (0 : Int32))])
  refine Go.st (fun _ h => XS.icmpYes X0.here hx rfl (pc0 := 4) (pc' := 34) rfl (hb hby d_jdk_43_method_13_code_4) rfl (by decide) (by decide) (by decide) h) ?_
  show Go p e below _ s₁ (mkF m 34 #[.val (.ref t1), .val (.ref t2), .unset] [])
  refine Go.st (fun _ h => XT.iconstV X0.here hx rfl (0 : Int32) (hb hby d_jdk_43_method_13_code_34) (by decide) h) ?_
  show Go p e below _ s₁ (mkF m 35 #[.val (.ref t1), .val (.ref t2), .unset] [(.int (0 : Int32))])
  refine Go.retZ X0 hx hlk hret rfl (hb hby d_jdk_43_method_13_code_35) (by decide) (by decide) ?_
  exact ⟨by simp [], rfl, e0⟩
theorem ef_rmLat02 (x0 : Addr) (x1 : Addr) (m : MethodId) : entryFrame m #[(.ref x0), (.ref x1)] 3 = mkF m 0 #[.val (.ref x0), .val (.ref x1), .unset] [] := by first | (simp [entryFrame, mkF, argsToLocals, Value.category]; done) | rfl
set_option maxRecDepth 65536 in
set_option maxHeartbeats 40000000 in
theorem rmLat02 (l : Launch) (Z : State) (a0 : Array Value) (hw : ∀ d ∈ tables_1, d.before a0 Z = true) (z1 z2 : Int32) (t1 t2 : Addr) (k1 k2 : ClassId) (h0 : Heap) (B1 : Arv Z h0 t1 k1 .byte (0 : Int32) [] (.int (0 : Int32))) (B2 : Arv Z h0 t2 k2 .byte (2 : Int32) [(.int z1), (.int z2)] (.int (0 : Int32))) :
    Does l Z (⟨"java/lang/StringLatin1", "equals", "([B[B)Z"⟩ : MethodName) jdk_43_method_13_code 3 (some .boolean) [] ({ frames := 0, cells := 0, slots := 0, locals := 0 } : Room) #[(.ref t1), (.ref t2)] h0 (Val (some (.int (if ([] : List Int32) = [z1, z2] then 1 else 0))) h0) := by
  refine Does.intro (plainFor_of_name pn_java_lang_StringLatin1) (ef_rmLat02 t1 t2) ?_
  intro p e s m below meth c s₁ hx hby hml hown hnm hret hlk hZ e0 X0
  show Go p e below _ s₁ (mkF m 0 #[.val (.ref t1), .val (.ref t2), .unset] [])
  refine Go.st (fun _ h => XS.aloadN X0.here hx rfl (hb hby d_jdk_43_method_13_code_0) rfl rfl h) ?_
  show Go p e below _ s₁ (mkF m 1 #[.val (.ref t1), .val (.ref t2), .unset] [(.ref t1)])
  refine Go.st (own_len X0 hx hZ e0 B1 rfl rfl (hb hby d_jdk_43_method_13_code_1)) ?_
  show Go p e below _ s₁ (mkF m 2 #[.val (.ref t1), .val (.ref t2), .unset] [(.int (0 : Int32))])
  refine Go.st (fun _ h => XS.aloadN X0.here hx rfl (hb hby d_jdk_43_method_13_code_2) rfl rfl h) ?_
  show Go p e below _ s₁ (mkF m 3 #[.val (.ref t1), .val (.ref t2), .unset] [(.ref t2), (.int (0 : Int32))])
  refine Go.st (own_len X0 hx hZ e0 B2 rfl rfl (hb hby d_jdk_43_method_13_code_3)) ?_
  show Go p e below _ s₁ (mkF m 4 #[.val (.ref t1), .val (.ref t2), .unset] [(.int (2 : Int32)), (.int (0 : Int32))])
  refine Go.st (fun _ h => XS.icmpYes X0.here hx rfl (pc0 := 4) (pc' := 34) rfl (hb hby d_jdk_43_method_13_code_4) rfl (by decide) (by decide) (by decide) h) ?_
  show Go p e below _ s₁ (mkF m 34 #[.val (.ref t1), .val (.ref t2), .unset] [])
  refine Go.st (fun _ h => XT.iconstV X0.here hx rfl (0 : Int32) (hb hby d_jdk_43_method_13_code_34) (by decide) h) ?_
  show Go p e below _ s₁ (mkF m 35 #[.val (.ref t1), .val (.ref t2), .unset] [(.int (0 : Int32))])
  refine Go.retZ X0 hx hlk hret rfl (hb hby d_jdk_43_method_13_code_35) (by decide) (by decide) ?_
  exact ⟨by simp [], rfl, e0⟩
theorem ef_rmLat10 (x0 : Addr) (x1 : Addr) (m : MethodId) : entryFrame m #[(.ref x0), (.ref x1)] 3 = mkF m 0 #[.val (.ref x0), .val (.ref x1), .unset] [] := by first | (simp [entryFrame, mkF, argsToLocals, Value.category]; done) | rfl
set_option maxRecDepth 65536 in
set_option maxHeartbeats 40000000 in
theorem rmLat10 (l : Launch) (Z : State) (a0 : Array Value) (hw : ∀ d ∈ tables_1, d.before a0 Z = true) (x1 : Int32) (t1 t2 : Addr) (k1 k2 : ClassId) (h0 : Heap) (B1 : Arv Z h0 t1 k1 .byte (1 : Int32) [(.int x1)] (.int (0 : Int32))) (B2 : Arv Z h0 t2 k2 .byte (0 : Int32) [] (.int (0 : Int32))) :
    Does l Z (⟨"java/lang/StringLatin1", "equals", "([B[B)Z"⟩ : MethodName) jdk_43_method_13_code 3 (some .boolean) [] ({ frames := 0, cells := 0, slots := 0, locals := 0 } : Room) #[(.ref t1), (.ref t2)] h0 (Val (some (.int (if ([x1] : List Int32) = [] then 1 else 0))) h0) := by
  refine Does.intro (plainFor_of_name pn_java_lang_StringLatin1) (ef_rmLat10 t1 t2) ?_
  intro p e s m below meth c s₁ hx hby hml hown hnm hret hlk hZ e0 X0
  show Go p e below _ s₁ (mkF m 0 #[.val (.ref t1), .val (.ref t2), .unset] [])
  refine Go.st (fun _ h => XS.aloadN X0.here hx rfl (hb hby d_jdk_43_method_13_code_0) rfl rfl h) ?_
  show Go p e below _ s₁ (mkF m 1 #[.val (.ref t1), .val (.ref t2), .unset] [(.ref t1)])
  refine Go.st (own_len X0 hx hZ e0 B1 rfl rfl (hb hby d_jdk_43_method_13_code_1)) ?_
  show Go p e below _ s₁ (mkF m 2 #[.val (.ref t1), .val (.ref t2), .unset] [(.int (1 : Int32))])
  refine Go.st (fun _ h => XS.aloadN X0.here hx rfl (hb hby d_jdk_43_method_13_code_2) rfl rfl h) ?_
  show Go p e below _ s₁ (mkF m 3 #[.val (.ref t1), .val (.ref t2), .unset] [(.ref t2), (.int (1 : Int32))])
  refine Go.st (own_len X0 hx hZ e0 B2 rfl rfl (hb hby d_jdk_43_method_13_code_3)) ?_
  show Go p e below _ s₁ (mkF m 4 #[.val (.ref t1), .val (.ref t2), .unset] [(.int (0 : Int32)), (.int (1 : Int32))])
  refine Go.st (fun _ h => XS.icmpYes X0.here hx rfl (pc0 := 4) (pc' := 34) rfl (hb hby d_jdk_43_method_13_code_4) rfl (by decide) (by decide) (by decide) h) ?_
  show Go p e below _ s₁ (mkF m 34 #[.val (.ref t1), .val (.ref t2), .unset] [])
  refine Go.st (fun _ h => XT.iconstV X0.here hx rfl (0 : Int32) (hb hby d_jdk_43_method_13_code_34) (by decide) h) ?_
  show Go p e below _ s₁ (mkF m 35 #[.val (.ref t1), .val (.ref t2), .unset] [(.int (0 : Int32))])
  refine Go.retZ X0 hx hlk hret rfl (hb hby d_jdk_43_method_13_code_35) (by decide) (by decide) ?_
  exact ⟨by simp [], rfl, e0⟩
theorem ef_rmLat11 (x0 : Addr) (x1 : Addr) (m : MethodId) : entryFrame m #[(.ref x0), (.ref x1)] 3 = mkF m 0 #[.val (.ref x0), .val (.ref x1), .unset] [] := by first | (simp [entryFrame, mkF, argsToLocals, Value.category]; done) | rfl
set_option maxRecDepth 65536 in
set_option maxHeartbeats 40000000 in
theorem rmLat11 (l : Launch) (Z : State) (a0 : Array Value) (hw : ∀ d ∈ tables_1, d.before a0 Z = true) (x1 z1 : Int32) (t1 t2 : Addr) (k1 k2 : ClassId) (h0 : Heap) (B1 : Arv Z h0 t1 k1 .byte (1 : Int32) [(.int x1)] (.int (0 : Int32))) (B2 : Arv Z h0 t2 k2 .byte (1 : Int32) [(.int z1)] (.int (0 : Int32))) :
    Does l Z (⟨"java/lang/StringLatin1", "equals", "([B[B)Z"⟩ : MethodName) jdk_43_method_13_code 3 (some .boolean) [] ({ frames := 0, cells := 0, slots := 0, locals := 0 } : Room) #[(.ref t1), (.ref t2)] h0 (Val (some (.int (if ([x1] : List Int32) = [z1] then 1 else 0))) h0) := by
  refine Does.intro (plainFor_of_name pn_java_lang_StringLatin1) (ef_rmLat11 t1 t2) ?_
  intro p e s m below meth c s₁ hx hby hml hown hnm hret hlk hZ e0 X0
  show Go p e below _ s₁ (mkF m 0 #[.val (.ref t1), .val (.ref t2), .unset] [])
  refine Go.st (fun _ h => XS.aloadN X0.here hx rfl (hb hby d_jdk_43_method_13_code_0) rfl rfl h) ?_
  show Go p e below _ s₁ (mkF m 1 #[.val (.ref t1), .val (.ref t2), .unset] [(.ref t1)])
  refine Go.st (own_len X0 hx hZ e0 B1 rfl rfl (hb hby d_jdk_43_method_13_code_1)) ?_
  show Go p e below _ s₁ (mkF m 2 #[.val (.ref t1), .val (.ref t2), .unset] [(.int (1 : Int32))])
  refine Go.st (fun _ h => XS.aloadN X0.here hx rfl (hb hby d_jdk_43_method_13_code_2) rfl rfl h) ?_
  show Go p e below _ s₁ (mkF m 3 #[.val (.ref t1), .val (.ref t2), .unset] [(.ref t2), (.int (1 : Int32))])
  refine Go.st (own_len X0 hx hZ e0 B2 rfl rfl (hb hby d_jdk_43_method_13_code_3)) ?_
  show Go p e below _ s₁ (mkF m 4 #[.val (.ref t1), .val (.ref t2), .unset] [(.int (1 : Int32)), (.int (1 : Int32))])
  refine Go.st (fun _ h => XS.icmpNo X0.here hx rfl (hb hby d_jdk_43_method_13_code_4) rfl (by decide) h) ?_
  show Go p e below _ s₁ (mkF m 7 #[.val (.ref t1), .val (.ref t2), .unset] [])
  refine Go.st (fun _ h => XT.iconstV X0.here hx rfl (0 : Int32) (hb hby d_jdk_43_method_13_code_7) (by decide) h) ?_
  show Go p e below _ s₁ (mkF m 8 #[.val (.ref t1), .val (.ref t2), .unset] [(.int (0 : Int32))])
  refine Go.st (fun _ h => XS.istoreN X0.here hx rfl (hb hby d_jdk_43_method_13_code_8) rfl (l' := #[.val (.ref t1), .val (.ref t2), .val (.int (0 : Int32))]) rfl h) ?_
  show Go p e below _ s₁ (mkF m 9 #[.val (.ref t1), .val (.ref t2), .val (.int (0 : Int32))] [])
  refine Go.st (fun _ h => XS.iloadN X0.here hx rfl (hb hby d_jdk_43_method_13_code_9) rfl h) ?_
  show Go p e below _ s₁ (mkF m 10 #[.val (.ref t1), .val (.ref t2), .val (.int (0 : Int32))] [(.int (0 : Int32))])
  refine Go.st (fun _ h => XS.aloadN X0.here hx rfl (hb hby d_jdk_43_method_13_code_10) rfl rfl h) ?_
  show Go p e below _ s₁ (mkF m 11 #[.val (.ref t1), .val (.ref t2), .val (.int (0 : Int32))] [(.ref t1), (.int (0 : Int32))])
  refine Go.st (own_len X0 hx hZ e0 B1 rfl rfl (hb hby d_jdk_43_method_13_code_11)) ?_
  show Go p e below _ s₁ (mkF m 12 #[.val (.ref t1), .val (.ref t2), .val (.int (0 : Int32))] [(.int (1 : Int32)), (.int (0 : Int32))])
  refine Go.st (fun _ h => XS.icmpNo X0.here hx rfl (hb hby d_jdk_43_method_13_code_12) rfl (by decide) h) ?_
  show Go p e below _ s₁ (mkF m 15 #[.val (.ref t1), .val (.ref t2), .val (.int (0 : Int32))] [])
  refine Go.st (fun _ h => XS.aloadN X0.here hx rfl (hb hby d_jdk_43_method_13_code_15) rfl rfl h) ?_
  show Go p e below _ s₁ (mkF m 16 #[.val (.ref t1), .val (.ref t2), .val (.int (0 : Int32))] [(.ref t1)])
  refine Go.st (fun _ h => XS.iloadN X0.here hx rfl (hb hby d_jdk_43_method_13_code_16) rfl h) ?_
  show Go p e below _ s₁ (mkF m 17 #[.val (.ref t1), .val (.ref t2), .val (.int (0 : Int32))] [(.int (0 : Int32)), (.ref t1)])
  refine Go.st (own_ldB X0 hx hZ e0 B1 (by decide) (by decide) rfl rfl rfl (hb hby d_jdk_43_method_13_code_17)) ?_
  show Go p e below _ s₁ (mkF m 18 #[.val (.ref t1), .val (.ref t2), .val (.int (0 : Int32))] [(.int x1)])
  refine Go.st (fun _ h => XS.aloadN X0.here hx rfl (hb hby d_jdk_43_method_13_code_18) rfl rfl h) ?_
  show Go p e below _ s₁ (mkF m 19 #[.val (.ref t1), .val (.ref t2), .val (.int (0 : Int32))] [(.ref t2), (.int x1)])
  refine Go.st (fun _ h => XS.iloadN X0.here hx rfl (hb hby d_jdk_43_method_13_code_19) rfl h) ?_
  show Go p e below _ s₁ (mkF m 20 #[.val (.ref t1), .val (.ref t2), .val (.int (0 : Int32))] [(.int (0 : Int32)), (.ref t2), (.int x1)])
  refine Go.st (own_ldB X0 hx hZ e0 B2 (by decide) (by decide) rfl rfl rfl (hb hby d_jdk_43_method_13_code_20)) ?_
  show Go p e below _ s₁ (mkF m 21 #[.val (.ref t1), .val (.ref t2), .val (.int (0 : Int32))] [(.int z1), (.int x1)])
  by_cases hc1 : x1 = z1
  · refine Go.st (fun _ h => XS.icmpYes X0.here hx rfl (pc0 := 21) (pc' := 26) rfl (hb hby d_jdk_43_method_13_code_21) rfl ((teq hc1).1) (by decide) (by decide) h) ?_
    show Go p e below _ s₁ (mkF m 26 #[.val (.ref t1), .val (.ref t2), .val (.int (0 : Int32))] [])
    refine Go.st (fun _ h => XT.iincV X0.here hx rfl (1 : Int32) (hb hby d_jdk_43_method_13_code_26) (by decide) rfl (l' := #[.val (.ref t1), .val (.ref t2), .val (.int ((0 : Int32) + (1 : Int32)))]) rfl h) ?_
    show Go p e below _ s₁ (mkF m 29 #[.val (.ref t1), .val (.ref t2), .val (.int ((0 : Int32) + (1 : Int32)))] [])
    refine Go.st (fun _ h => XS.goto X0.here hx rfl (pc0 := 29) (pc' := 9) rfl (hb hby d_jdk_43_method_13_code_29) (by decide) (by decide) h) ?_
    show Go p e below _ s₁ (mkF m 9 #[.val (.ref t1), .val (.ref t2), .val (.int ((0 : Int32) + (1 : Int32)))] [])
    refine Go.st (fun _ h => XS.iloadN X0.here hx rfl (hb hby d_jdk_43_method_13_code_9) rfl h) ?_
    show Go p e below _ s₁ (mkF m 10 #[.val (.ref t1), .val (.ref t2), .val (.int ((0 : Int32) + (1 : Int32)))] [(.int ((0 : Int32) + (1 : Int32)))])
    refine Go.st (fun _ h => XS.aloadN X0.here hx rfl (hb hby d_jdk_43_method_13_code_10) rfl rfl h) ?_
    show Go p e below _ s₁ (mkF m 11 #[.val (.ref t1), .val (.ref t2), .val (.int ((0 : Int32) + (1 : Int32)))] [(.ref t1), (.int ((0 : Int32) + (1 : Int32)))])
    refine Go.st (own_len X0 hx hZ e0 B1 rfl rfl (hb hby d_jdk_43_method_13_code_11)) ?_
    show Go p e below _ s₁ (mkF m 12 #[.val (.ref t1), .val (.ref t2), .val (.int ((0 : Int32) + (1 : Int32)))] [(.int (1 : Int32)), (.int ((0 : Int32) + (1 : Int32)))])
    refine Go.st (fun _ h => XS.icmpYes X0.here hx rfl (pc0 := 12) (pc' := 32) rfl (hb hby d_jdk_43_method_13_code_12) rfl (by decide) (by decide) (by decide) h) ?_
    show Go p e below _ s₁ (mkF m 32 #[.val (.ref t1), .val (.ref t2), .val (.int ((0 : Int32) + (1 : Int32)))] [])
    refine Go.st (fun _ h => XT.iconstV X0.here hx rfl (1 : Int32) (hb hby d_jdk_43_method_13_code_32) (by decide) h) ?_
    show Go p e below _ s₁ (mkF m 33 #[.val (.ref t1), .val (.ref t2), .val (.int ((0 : Int32) + (1 : Int32)))] [(.int (1 : Int32))])
    refine Go.retZ X0 hx hlk hret rfl (hb hby d_jdk_43_method_13_code_33) (by decide) (by decide) ?_
    exact ⟨by simp [hc1], rfl, e0⟩
  · refine Go.st (fun _ h => XS.icmpNo X0.here hx rfl (hb hby d_jdk_43_method_13_code_21) rfl ((feq hc1).1) h) ?_
    show Go p e below _ s₁ (mkF m 24 #[.val (.ref t1), .val (.ref t2), .val (.int (0 : Int32))] [])
    refine Go.st (fun _ h => XT.iconstV X0.here hx rfl (0 : Int32) (hb hby d_jdk_43_method_13_code_24) (by decide) h) ?_
    show Go p e below _ s₁ (mkF m 25 #[.val (.ref t1), .val (.ref t2), .val (.int (0 : Int32))] [(.int (0 : Int32))])
    refine Go.retZ X0 hx hlk hret rfl (hb hby d_jdk_43_method_13_code_25) (by decide) (by decide) ?_
    exact ⟨by simp [hc1], rfl, e0⟩
theorem ef_rmLat12 (x0 : Addr) (x1 : Addr) (m : MethodId) : entryFrame m #[(.ref x0), (.ref x1)] 3 = mkF m 0 #[.val (.ref x0), .val (.ref x1), .unset] [] := by first | (simp [entryFrame, mkF, argsToLocals, Value.category]; done) | rfl
set_option maxRecDepth 65536 in
set_option maxHeartbeats 40000000 in
theorem rmLat12 (l : Launch) (Z : State) (a0 : Array Value) (hw : ∀ d ∈ tables_1, d.before a0 Z = true) (x1 z1 z2 : Int32) (t1 t2 : Addr) (k1 k2 : ClassId) (h0 : Heap) (B1 : Arv Z h0 t1 k1 .byte (1 : Int32) [(.int x1)] (.int (0 : Int32))) (B2 : Arv Z h0 t2 k2 .byte (2 : Int32) [(.int z1), (.int z2)] (.int (0 : Int32))) :
    Does l Z (⟨"java/lang/StringLatin1", "equals", "([B[B)Z"⟩ : MethodName) jdk_43_method_13_code 3 (some .boolean) [] ({ frames := 0, cells := 0, slots := 0, locals := 0 } : Room) #[(.ref t1), (.ref t2)] h0 (Val (some (.int (if ([x1] : List Int32) = [z1, z2] then 1 else 0))) h0) := by
  refine Does.intro (plainFor_of_name pn_java_lang_StringLatin1) (ef_rmLat12 t1 t2) ?_
  intro p e s m below meth c s₁ hx hby hml hown hnm hret hlk hZ e0 X0
  show Go p e below _ s₁ (mkF m 0 #[.val (.ref t1), .val (.ref t2), .unset] [])
  refine Go.st (fun _ h => XS.aloadN X0.here hx rfl (hb hby d_jdk_43_method_13_code_0) rfl rfl h) ?_
  show Go p e below _ s₁ (mkF m 1 #[.val (.ref t1), .val (.ref t2), .unset] [(.ref t1)])
  refine Go.st (own_len X0 hx hZ e0 B1 rfl rfl (hb hby d_jdk_43_method_13_code_1)) ?_
  show Go p e below _ s₁ (mkF m 2 #[.val (.ref t1), .val (.ref t2), .unset] [(.int (1 : Int32))])
  refine Go.st (fun _ h => XS.aloadN X0.here hx rfl (hb hby d_jdk_43_method_13_code_2) rfl rfl h) ?_
  show Go p e below _ s₁ (mkF m 3 #[.val (.ref t1), .val (.ref t2), .unset] [(.ref t2), (.int (1 : Int32))])
  refine Go.st (own_len X0 hx hZ e0 B2 rfl rfl (hb hby d_jdk_43_method_13_code_3)) ?_
  show Go p e below _ s₁ (mkF m 4 #[.val (.ref t1), .val (.ref t2), .unset] [(.int (2 : Int32)), (.int (1 : Int32))])
  refine Go.st (fun _ h => XS.icmpYes X0.here hx rfl (pc0 := 4) (pc' := 34) rfl (hb hby d_jdk_43_method_13_code_4) rfl (by decide) (by decide) (by decide) h) ?_
  show Go p e below _ s₁ (mkF m 34 #[.val (.ref t1), .val (.ref t2), .unset] [])
  refine Go.st (fun _ h => XT.iconstV X0.here hx rfl (0 : Int32) (hb hby d_jdk_43_method_13_code_34) (by decide) h) ?_
  show Go p e below _ s₁ (mkF m 35 #[.val (.ref t1), .val (.ref t2), .unset] [(.int (0 : Int32))])
  refine Go.retZ X0 hx hlk hret rfl (hb hby d_jdk_43_method_13_code_35) (by decide) (by decide) ?_
  exact ⟨by simp [], rfl, e0⟩
theorem ef_rmLat20 (x0 : Addr) (x1 : Addr) (m : MethodId) : entryFrame m #[(.ref x0), (.ref x1)] 3 = mkF m 0 #[.val (.ref x0), .val (.ref x1), .unset] [] := by first | (simp [entryFrame, mkF, argsToLocals, Value.category]; done) | rfl
set_option maxRecDepth 65536 in
set_option maxHeartbeats 40000000 in
theorem rmLat20 (l : Launch) (Z : State) (a0 : Array Value) (hw : ∀ d ∈ tables_1, d.before a0 Z = true) (x1 x2 : Int32) (t1 t2 : Addr) (k1 k2 : ClassId) (h0 : Heap) (B1 : Arv Z h0 t1 k1 .byte (2 : Int32) [(.int x1), (.int x2)] (.int (0 : Int32))) (B2 : Arv Z h0 t2 k2 .byte (0 : Int32) [] (.int (0 : Int32))) :
    Does l Z (⟨"java/lang/StringLatin1", "equals", "([B[B)Z"⟩ : MethodName) jdk_43_method_13_code 3 (some .boolean) [] ({ frames := 0, cells := 0, slots := 0, locals := 0 } : Room) #[(.ref t1), (.ref t2)] h0 (Val (some (.int (if ([x1, x2] : List Int32) = [] then 1 else 0))) h0) := by
  refine Does.intro (plainFor_of_name pn_java_lang_StringLatin1) (ef_rmLat20 t1 t2) ?_
  intro p e s m below meth c s₁ hx hby hml hown hnm hret hlk hZ e0 X0
  show Go p e below _ s₁ (mkF m 0 #[.val (.ref t1), .val (.ref t2), .unset] [])
  refine Go.st (fun _ h => XS.aloadN X0.here hx rfl (hb hby d_jdk_43_method_13_code_0) rfl rfl h) ?_
  show Go p e below _ s₁ (mkF m 1 #[.val (.ref t1), .val (.ref t2), .unset] [(.ref t1)])
  refine Go.st (own_len X0 hx hZ e0 B1 rfl rfl (hb hby d_jdk_43_method_13_code_1)) ?_
  show Go p e below _ s₁ (mkF m 2 #[.val (.ref t1), .val (.ref t2), .unset] [(.int (2 : Int32))])
  refine Go.st (fun _ h => XS.aloadN X0.here hx rfl (hb hby d_jdk_43_method_13_code_2) rfl rfl h) ?_
  show Go p e below _ s₁ (mkF m 3 #[.val (.ref t1), .val (.ref t2), .unset] [(.ref t2), (.int (2 : Int32))])
  refine Go.st (own_len X0 hx hZ e0 B2 rfl rfl (hb hby d_jdk_43_method_13_code_3)) ?_
  show Go p e below _ s₁ (mkF m 4 #[.val (.ref t1), .val (.ref t2), .unset] [(.int (0 : Int32)), (.int (2 : Int32))])
  refine Go.st (fun _ h => XS.icmpYes X0.here hx rfl (pc0 := 4) (pc' := 34) rfl (hb hby d_jdk_43_method_13_code_4) rfl (by decide) (by decide) (by decide) h) ?_
  show Go p e below _ s₁ (mkF m 34 #[.val (.ref t1), .val (.ref t2), .unset] [])
  refine Go.st (fun _ h => XT.iconstV X0.here hx rfl (0 : Int32) (hb hby d_jdk_43_method_13_code_34) (by decide) h) ?_
  show Go p e below _ s₁ (mkF m 35 #[.val (.ref t1), .val (.ref t2), .unset] [(.int (0 : Int32))])
  refine Go.retZ X0 hx hlk hret rfl (hb hby d_jdk_43_method_13_code_35) (by decide) (by decide) ?_
  exact ⟨by simp [], rfl, e0⟩
theorem ef_rmLat21 (x0 : Addr) (x1 : Addr) (m : MethodId) : entryFrame m #[(.ref x0), (.ref x1)] 3 = mkF m 0 #[.val (.ref x0), .val (.ref x1), .unset] [] := by first | (simp [entryFrame, mkF, argsToLocals, Value.category]; done) | rfl
set_option maxRecDepth 65536 in
set_option maxHeartbeats 40000000 in
theorem rmLat21 (l : Launch) (Z : State) (a0 : Array Value) (hw : ∀ d ∈ tables_1, d.before a0 Z = true) (x1 x2 z1 : Int32) (t1 t2 : Addr) (k1 k2 : ClassId) (h0 : Heap) (B1 : Arv Z h0 t1 k1 .byte (2 : Int32) [(.int x1), (.int x2)] (.int (0 : Int32))) (B2 : Arv Z h0 t2 k2 .byte (1 : Int32) [(.int z1)] (.int (0 : Int32))) :
    Does l Z (⟨"java/lang/StringLatin1", "equals", "([B[B)Z"⟩ : MethodName) jdk_43_method_13_code 3 (some .boolean) [] ({ frames := 0, cells := 0, slots := 0, locals := 0 } : Room) #[(.ref t1), (.ref t2)] h0 (Val (some (.int (if ([x1, x2] : List Int32) = [z1] then 1 else 0))) h0) := by
  refine Does.intro (plainFor_of_name pn_java_lang_StringLatin1) (ef_rmLat21 t1 t2) ?_
  intro p e s m below meth c s₁ hx hby hml hown hnm hret hlk hZ e0 X0
  show Go p e below _ s₁ (mkF m 0 #[.val (.ref t1), .val (.ref t2), .unset] [])
  refine Go.st (fun _ h => XS.aloadN X0.here hx rfl (hb hby d_jdk_43_method_13_code_0) rfl rfl h) ?_
  show Go p e below _ s₁ (mkF m 1 #[.val (.ref t1), .val (.ref t2), .unset] [(.ref t1)])
  refine Go.st (own_len X0 hx hZ e0 B1 rfl rfl (hb hby d_jdk_43_method_13_code_1)) ?_
  show Go p e below _ s₁ (mkF m 2 #[.val (.ref t1), .val (.ref t2), .unset] [(.int (2 : Int32))])
  refine Go.st (fun _ h => XS.aloadN X0.here hx rfl (hb hby d_jdk_43_method_13_code_2) rfl rfl h) ?_
  show Go p e below _ s₁ (mkF m 3 #[.val (.ref t1), .val (.ref t2), .unset] [(.ref t2), (.int (2 : Int32))])
  refine Go.st (own_len X0 hx hZ e0 B2 rfl rfl (hb hby d_jdk_43_method_13_code_3)) ?_
  show Go p e below _ s₁ (mkF m 4 #[.val (.ref t1), .val (.ref t2), .unset] [(.int (1 : Int32)), (.int (2 : Int32))])
  refine Go.st (fun _ h => XS.icmpYes X0.here hx rfl (pc0 := 4) (pc' := 34) rfl (hb hby d_jdk_43_method_13_code_4) rfl (by decide) (by decide) (by decide) h) ?_
  show Go p e below _ s₁ (mkF m 34 #[.val (.ref t1), .val (.ref t2), .unset] [])
  refine Go.st (fun _ h => XT.iconstV X0.here hx rfl (0 : Int32) (hb hby d_jdk_43_method_13_code_34) (by decide) h) ?_
  show Go p e below _ s₁ (mkF m 35 #[.val (.ref t1), .val (.ref t2), .unset] [(.int (0 : Int32))])
  refine Go.retZ X0 hx hlk hret rfl (hb hby d_jdk_43_method_13_code_35) (by decide) (by decide) ?_
  exact ⟨by simp [], rfl, e0⟩
theorem ef_rmLat22 (x0 : Addr) (x1 : Addr) (m : MethodId) : entryFrame m #[(.ref x0), (.ref x1)] 3 = mkF m 0 #[.val (.ref x0), .val (.ref x1), .unset] [] := by first | (simp [entryFrame, mkF, argsToLocals, Value.category]; done) | rfl
set_option maxRecDepth 65536 in
set_option maxHeartbeats 40000000 in
theorem rmLat22 (l : Launch) (Z : State) (a0 : Array Value) (hw : ∀ d ∈ tables_1, d.before a0 Z = true) (x1 x2 z1 z2 : Int32) (t1 t2 : Addr) (k1 k2 : ClassId) (h0 : Heap) (B1 : Arv Z h0 t1 k1 .byte (2 : Int32) [(.int x1), (.int x2)] (.int (0 : Int32))) (B2 : Arv Z h0 t2 k2 .byte (2 : Int32) [(.int z1), (.int z2)] (.int (0 : Int32))) :
    Does l Z (⟨"java/lang/StringLatin1", "equals", "([B[B)Z"⟩ : MethodName) jdk_43_method_13_code 3 (some .boolean) [] ({ frames := 0, cells := 0, slots := 0, locals := 0 } : Room) #[(.ref t1), (.ref t2)] h0 (Val (some (.int (if ([x1, x2] : List Int32) = [z1, z2] then 1 else 0))) h0) := by
  refine Does.intro (plainFor_of_name pn_java_lang_StringLatin1) (ef_rmLat22 t1 t2) ?_
  intro p e s m below meth c s₁ hx hby hml hown hnm hret hlk hZ e0 X0
  show Go p e below _ s₁ (mkF m 0 #[.val (.ref t1), .val (.ref t2), .unset] [])
  refine Go.st (fun _ h => XS.aloadN X0.here hx rfl (hb hby d_jdk_43_method_13_code_0) rfl rfl h) ?_
  show Go p e below _ s₁ (mkF m 1 #[.val (.ref t1), .val (.ref t2), .unset] [(.ref t1)])
  refine Go.st (own_len X0 hx hZ e0 B1 rfl rfl (hb hby d_jdk_43_method_13_code_1)) ?_
  show Go p e below _ s₁ (mkF m 2 #[.val (.ref t1), .val (.ref t2), .unset] [(.int (2 : Int32))])
  refine Go.st (fun _ h => XS.aloadN X0.here hx rfl (hb hby d_jdk_43_method_13_code_2) rfl rfl h) ?_
  show Go p e below _ s₁ (mkF m 3 #[.val (.ref t1), .val (.ref t2), .unset] [(.ref t2), (.int (2 : Int32))])
  refine Go.st (own_len X0 hx hZ e0 B2 rfl rfl (hb hby d_jdk_43_method_13_code_3)) ?_
  show Go p e below _ s₁ (mkF m 4 #[.val (.ref t1), .val (.ref t2), .unset] [(.int (2 : Int32)), (.int (2 : Int32))])
  refine Go.st (fun _ h => XS.icmpNo X0.here hx rfl (hb hby d_jdk_43_method_13_code_4) rfl (by decide) h) ?_
  show Go p e below _ s₁ (mkF m 7 #[.val (.ref t1), .val (.ref t2), .unset] [])
  refine Go.st (fun _ h => XT.iconstV X0.here hx rfl (0 : Int32) (hb hby d_jdk_43_method_13_code_7) (by decide) h) ?_
  show Go p e below _ s₁ (mkF m 8 #[.val (.ref t1), .val (.ref t2), .unset] [(.int (0 : Int32))])
  refine Go.st (fun _ h => XS.istoreN X0.here hx rfl (hb hby d_jdk_43_method_13_code_8) rfl (l' := #[.val (.ref t1), .val (.ref t2), .val (.int (0 : Int32))]) rfl h) ?_
  show Go p e below _ s₁ (mkF m 9 #[.val (.ref t1), .val (.ref t2), .val (.int (0 : Int32))] [])
  refine Go.st (fun _ h => XS.iloadN X0.here hx rfl (hb hby d_jdk_43_method_13_code_9) rfl h) ?_
  show Go p e below _ s₁ (mkF m 10 #[.val (.ref t1), .val (.ref t2), .val (.int (0 : Int32))] [(.int (0 : Int32))])
  refine Go.st (fun _ h => XS.aloadN X0.here hx rfl (hb hby d_jdk_43_method_13_code_10) rfl rfl h) ?_
  show Go p e below _ s₁ (mkF m 11 #[.val (.ref t1), .val (.ref t2), .val (.int (0 : Int32))] [(.ref t1), (.int (0 : Int32))])
  refine Go.st (own_len X0 hx hZ e0 B1 rfl rfl (hb hby d_jdk_43_method_13_code_11)) ?_
  show Go p e below _ s₁ (mkF m 12 #[.val (.ref t1), .val (.ref t2), .val (.int (0 : Int32))] [(.int (2 : Int32)), (.int (0 : Int32))])
  refine Go.st (fun _ h => XS.icmpNo X0.here hx rfl (hb hby d_jdk_43_method_13_code_12) rfl (by decide) h) ?_
  show Go p e below _ s₁ (mkF m 15 #[.val (.ref t1), .val (.ref t2), .val (.int (0 : Int32))] [])
  refine Go.st (fun _ h => XS.aloadN X0.here hx rfl (hb hby d_jdk_43_method_13_code_15) rfl rfl h) ?_
  show Go p e below _ s₁ (mkF m 16 #[.val (.ref t1), .val (.ref t2), .val (.int (0 : Int32))] [(.ref t1)])
  refine Go.st (fun _ h => XS.iloadN X0.here hx rfl (hb hby d_jdk_43_method_13_code_16) rfl h) ?_
  show Go p e below _ s₁ (mkF m 17 #[.val (.ref t1), .val (.ref t2), .val (.int (0 : Int32))] [(.int (0 : Int32)), (.ref t1)])
  refine Go.st (own_ldB X0 hx hZ e0 B1 (by decide) (by decide) rfl rfl rfl (hb hby d_jdk_43_method_13_code_17)) ?_
  show Go p e below _ s₁ (mkF m 18 #[.val (.ref t1), .val (.ref t2), .val (.int (0 : Int32))] [(.int x1)])
  refine Go.st (fun _ h => XS.aloadN X0.here hx rfl (hb hby d_jdk_43_method_13_code_18) rfl rfl h) ?_
  show Go p e below _ s₁ (mkF m 19 #[.val (.ref t1), .val (.ref t2), .val (.int (0 : Int32))] [(.ref t2), (.int x1)])
  refine Go.st (fun _ h => XS.iloadN X0.here hx rfl (hb hby d_jdk_43_method_13_code_19) rfl h) ?_
  show Go p e below _ s₁ (mkF m 20 #[.val (.ref t1), .val (.ref t2), .val (.int (0 : Int32))] [(.int (0 : Int32)), (.ref t2), (.int x1)])
  refine Go.st (own_ldB X0 hx hZ e0 B2 (by decide) (by decide) rfl rfl rfl (hb hby d_jdk_43_method_13_code_20)) ?_
  show Go p e below _ s₁ (mkF m 21 #[.val (.ref t1), .val (.ref t2), .val (.int (0 : Int32))] [(.int z1), (.int x1)])
  by_cases hc1 : x1 = z1
  · refine Go.st (fun _ h => XS.icmpYes X0.here hx rfl (pc0 := 21) (pc' := 26) rfl (hb hby d_jdk_43_method_13_code_21) rfl ((teq hc1).1) (by decide) (by decide) h) ?_
    show Go p e below _ s₁ (mkF m 26 #[.val (.ref t1), .val (.ref t2), .val (.int (0 : Int32))] [])
    refine Go.st (fun _ h => XT.iincV X0.here hx rfl (1 : Int32) (hb hby d_jdk_43_method_13_code_26) (by decide) rfl (l' := #[.val (.ref t1), .val (.ref t2), .val (.int ((0 : Int32) + (1 : Int32)))]) rfl h) ?_
    show Go p e below _ s₁ (mkF m 29 #[.val (.ref t1), .val (.ref t2), .val (.int ((0 : Int32) + (1 : Int32)))] [])
    refine Go.st (fun _ h => XS.goto X0.here hx rfl (pc0 := 29) (pc' := 9) rfl (hb hby d_jdk_43_method_13_code_29) (by decide) (by decide) h) ?_
    show Go p e below _ s₁ (mkF m 9 #[.val (.ref t1), .val (.ref t2), .val (.int ((0 : Int32) + (1 : Int32)))] [])
    refine Go.st (fun _ h => XS.iloadN X0.here hx rfl (hb hby d_jdk_43_method_13_code_9) rfl h) ?_
    show Go p e below _ s₁ (mkF m 10 #[.val (.ref t1), .val (.ref t2), .val (.int ((0 : Int32) + (1 : Int32)))] [(.int ((0 : Int32) + (1 : Int32)))])
    refine Go.st (fun _ h => XS.aloadN X0.here hx rfl (hb hby d_jdk_43_method_13_code_10) rfl rfl h) ?_
    show Go p e below _ s₁ (mkF m 11 #[.val (.ref t1), .val (.ref t2), .val (.int ((0 : Int32) + (1 : Int32)))] [(.ref t1), (.int ((0 : Int32) + (1 : Int32)))])
    refine Go.st (own_len X0 hx hZ e0 B1 rfl rfl (hb hby d_jdk_43_method_13_code_11)) ?_
    show Go p e below _ s₁ (mkF m 12 #[.val (.ref t1), .val (.ref t2), .val (.int ((0 : Int32) + (1 : Int32)))] [(.int (2 : Int32)), (.int ((0 : Int32) + (1 : Int32)))])
    refine Go.st (fun _ h => XS.icmpNo X0.here hx rfl (hb hby d_jdk_43_method_13_code_12) rfl (by decide) h) ?_
    show Go p e below _ s₁ (mkF m 15 #[.val (.ref t1), .val (.ref t2), .val (.int ((0 : Int32) + (1 : Int32)))] [])
    refine Go.st (fun _ h => XS.aloadN X0.here hx rfl (hb hby d_jdk_43_method_13_code_15) rfl rfl h) ?_
    show Go p e below _ s₁ (mkF m 16 #[.val (.ref t1), .val (.ref t2), .val (.int ((0 : Int32) + (1 : Int32)))] [(.ref t1)])
    refine Go.st (fun _ h => XS.iloadN X0.here hx rfl (hb hby d_jdk_43_method_13_code_16) rfl h) ?_
    show Go p e below _ s₁ (mkF m 17 #[.val (.ref t1), .val (.ref t2), .val (.int ((0 : Int32) + (1 : Int32)))] [(.int ((0 : Int32) + (1 : Int32))), (.ref t1)])
    refine Go.st (own_ldB X0 hx hZ e0 B1 (by decide) (by decide) rfl rfl rfl (hb hby d_jdk_43_method_13_code_17)) ?_
    show Go p e below _ s₁ (mkF m 18 #[.val (.ref t1), .val (.ref t2), .val (.int ((0 : Int32) + (1 : Int32)))] [(.int x2)])
    refine Go.st (fun _ h => XS.aloadN X0.here hx rfl (hb hby d_jdk_43_method_13_code_18) rfl rfl h) ?_
    show Go p e below _ s₁ (mkF m 19 #[.val (.ref t1), .val (.ref t2), .val (.int ((0 : Int32) + (1 : Int32)))] [(.ref t2), (.int x2)])
    refine Go.st (fun _ h => XS.iloadN X0.here hx rfl (hb hby d_jdk_43_method_13_code_19) rfl h) ?_
    show Go p e below _ s₁ (mkF m 20 #[.val (.ref t1), .val (.ref t2), .val (.int ((0 : Int32) + (1 : Int32)))] [(.int ((0 : Int32) + (1 : Int32))), (.ref t2), (.int x2)])
    refine Go.st (own_ldB X0 hx hZ e0 B2 (by decide) (by decide) rfl rfl rfl (hb hby d_jdk_43_method_13_code_20)) ?_
    show Go p e below _ s₁ (mkF m 21 #[.val (.ref t1), .val (.ref t2), .val (.int ((0 : Int32) + (1 : Int32)))] [(.int z2), (.int x2)])
    by_cases hc2 : x2 = z2
    · refine Go.st (fun _ h => XS.icmpYes X0.here hx rfl (pc0 := 21) (pc' := 26) rfl (hb hby d_jdk_43_method_13_code_21) rfl ((teq hc2).1) (by decide) (by decide) h) ?_
      show Go p e below _ s₁ (mkF m 26 #[.val (.ref t1), .val (.ref t2), .val (.int ((0 : Int32) + (1 : Int32)))] [])
      refine Go.st (fun _ h => XT.iincV X0.here hx rfl (1 : Int32) (hb hby d_jdk_43_method_13_code_26) (by decide) rfl (l' := #[.val (.ref t1), .val (.ref t2), .val (.int (((0 : Int32) + (1 : Int32)) + (1 : Int32)))]) rfl h) ?_
      show Go p e below _ s₁ (mkF m 29 #[.val (.ref t1), .val (.ref t2), .val (.int (((0 : Int32) + (1 : Int32)) + (1 : Int32)))] [])
      refine Go.st (fun _ h => XS.goto X0.here hx rfl (pc0 := 29) (pc' := 9) rfl (hb hby d_jdk_43_method_13_code_29) (by decide) (by decide) h) ?_
      show Go p e below _ s₁ (mkF m 9 #[.val (.ref t1), .val (.ref t2), .val (.int (((0 : Int32) + (1 : Int32)) + (1 : Int32)))] [])
      refine Go.st (fun _ h => XS.iloadN X0.here hx rfl (hb hby d_jdk_43_method_13_code_9) rfl h) ?_
      show Go p e below _ s₁ (mkF m 10 #[.val (.ref t1), .val (.ref t2), .val (.int (((0 : Int32) + (1 : Int32)) + (1 : Int32)))] [(.int (((0 : Int32) + (1 : Int32)) + (1 : Int32)))])
      refine Go.st (fun _ h => XS.aloadN X0.here hx rfl (hb hby d_jdk_43_method_13_code_10) rfl rfl h) ?_
      show Go p e below _ s₁ (mkF m 11 #[.val (.ref t1), .val (.ref t2), .val (.int (((0 : Int32) + (1 : Int32)) + (1 : Int32)))] [(.ref t1), (.int (((0 : Int32) + (1 : Int32)) + (1 : Int32)))])
      refine Go.st (own_len X0 hx hZ e0 B1 rfl rfl (hb hby d_jdk_43_method_13_code_11)) ?_
      show Go p e below _ s₁ (mkF m 12 #[.val (.ref t1), .val (.ref t2), .val (.int (((0 : Int32) + (1 : Int32)) + (1 : Int32)))] [(.int (2 : Int32)), (.int (((0 : Int32) + (1 : Int32)) + (1 : Int32)))])
      refine Go.st (fun _ h => XS.icmpYes X0.here hx rfl (pc0 := 12) (pc' := 32) rfl (hb hby d_jdk_43_method_13_code_12) rfl (by decide) (by decide) (by decide) h) ?_
      show Go p e below _ s₁ (mkF m 32 #[.val (.ref t1), .val (.ref t2), .val (.int (((0 : Int32) + (1 : Int32)) + (1 : Int32)))] [])
      refine Go.st (fun _ h => XT.iconstV X0.here hx rfl (1 : Int32) (hb hby d_jdk_43_method_13_code_32) (by decide) h) ?_
      show Go p e below _ s₁ (mkF m 33 #[.val (.ref t1), .val (.ref t2), .val (.int (((0 : Int32) + (1 : Int32)) + (1 : Int32)))] [(.int (1 : Int32))])
      refine Go.retZ X0 hx hlk hret rfl (hb hby d_jdk_43_method_13_code_33) (by decide) (by decide) ?_
      exact ⟨by simp [hc1, hc2], rfl, e0⟩
    · refine Go.st (fun _ h => XS.icmpNo X0.here hx rfl (hb hby d_jdk_43_method_13_code_21) rfl ((feq hc2).1) h) ?_
      show Go p e below _ s₁ (mkF m 24 #[.val (.ref t1), .val (.ref t2), .val (.int ((0 : Int32) + (1 : Int32)))] [])
      refine Go.st (fun _ h => XT.iconstV X0.here hx rfl (0 : Int32) (hb hby d_jdk_43_method_13_code_24) (by decide) h) ?_
      show Go p e below _ s₁ (mkF m 25 #[.val (.ref t1), .val (.ref t2), .val (.int ((0 : Int32) + (1 : Int32)))] [(.int (0 : Int32))])
      refine Go.retZ X0 hx hlk hret rfl (hb hby d_jdk_43_method_13_code_25) (by decide) (by decide) ?_
      exact ⟨by simp [hc1, hc2], rfl, e0⟩
  · refine Go.st (fun _ h => XS.icmpNo X0.here hx rfl (hb hby d_jdk_43_method_13_code_21) rfl ((feq hc1).1) h) ?_
    show Go p e below _ s₁ (mkF m 24 #[.val (.ref t1), .val (.ref t2), .val (.int (0 : Int32))] [])
    refine Go.st (fun _ h => XT.iconstV X0.here hx rfl (0 : Int32) (hb hby d_jdk_43_method_13_code_24) (by decide) h) ?_
    show Go p e below _ s₁ (mkF m 25 #[.val (.ref t1), .val (.ref t2), .val (.int (0 : Int32))] [(.int (0 : Int32))])
    refine Go.retZ X0 hx hlk hret rfl (hb hby d_jdk_43_method_13_code_25) (by decide) (by decide) ?_
    exact ⟨by simp [hc1], rfl, e0⟩
set_option maxHeartbeats 40000000 in
theorem rmLat (l : Launch) (Z : State) (a0 : Array Value) (hw : ∀ d ∈ tables_1, d.before a0 Z = true) (l1 l2 : List Int32) (hl1 : l1.length ≤ 2) (hl2 : l2.length ≤ 2) (t1 t2 : Addr) (k1 k2 : ClassId) (h0 : Heap) (B1 : Arv Z h0 t1 k1 .byte (Int32.ofNat l1.length) (l1.map Value.int) (.int (0 : Int32))) (B2 : Arv Z h0 t2 k2 .byte (Int32.ofNat l2.length) (l2.map Value.int) (.int (0 : Int32))) :
    Does l Z (⟨"java/lang/StringLatin1", "equals", "([B[B)Z"⟩ : MethodName) jdk_43_method_13_code 3 (some .boolean) [] ({ frames := 0, cells := 0, slots := 0, locals := 0 } : Room) #[(.ref t1), (.ref t2)] h0 (Val (some (.int (if l1 = l2 then 1 else 0))) h0) := by
  rcases own_two l1 hl1 with rfl | ⟨x1, rfl⟩ | ⟨x1, x2, rfl⟩ <;> rcases own_two l2 hl2 with rfl | ⟨z1, rfl⟩ | ⟨z1, z2, rfl⟩
  · exact rmLat00 l Z a0 hw t1 t2 k1 k2 h0 B1 B2
  · exact rmLat01 l Z a0 hw z1 t1 t2 k1 k2 h0 B1 B2
  · exact rmLat02 l Z a0 hw z1 z2 t1 t2 k1 k2 h0 B1 B2
  · exact rmLat10 l Z a0 hw x1 t1 t2 k1 k2 h0 B1 B2
  · exact rmLat11 l Z a0 hw x1 z1 t1 t2 k1 k2 h0 B1 B2
  · exact rmLat12 l Z a0 hw x1 z1 z2 t1 t2 k1 k2 h0 B1 B2
  · exact rmLat20 l Z a0 hw x1 x2 t1 t2 k1 k2 h0 B1 B2
  · exact rmLat21 l Z a0 hw x1 x2 z1 t1 t2 k1 k2 h0 B1 B2
  · exact rmLat22 l Z a0 hw x1 x2 z1 z2 t1 t2 k1 k2 h0 B1 B2
theorem ef_rmEq (x0 : Addr) (x1 : Addr) (m : MethodId) : entryFrame m #[(.ref x0), (.ref x1)] 3 = mkF m 0 #[.val (.ref x0), .val (.ref x1), .unset] [] := by first | (simp [entryFrame, mkF, argsToLocals, Value.category]; done) | rfl
set_option maxRecDepth 65536 in
set_option maxHeartbeats 40000000 in
theorem rmEq (l : Launch) (Z : State) (a0 : Array Value) (hw : ∀ d ∈ tables_1, d.before a0 Z = true) (g1 g2 t1 t2 : Addr) (k1 k2 : ClassId) (l1 l2 : List Int32) (hl1 : l1.length ≤ 2) (hl2 : l2.length ≤ 2) (h0 : Heap) (E_g1 : Exa Z h0 g1 "java/lang/String") (C_g1 : Fld Z h0 g1 "java/lang/String" "coder" "B" (.int (0 : Int32))) (V_g1 : Fld Z h0 g1 "java/lang/String" "value" "[B" (.ref t1)) (E_g2 : Exa Z h0 g2 "java/lang/String") (C_g2 : Fld Z h0 g2 "java/lang/String" "coder" "B" (.int (0 : Int32))) (V_g2 : Fld Z h0 g2 "java/lang/String" "value" "[B" (.ref t2)) (B1 : Arv Z h0 t1 k1 .byte (Int32.ofNat l1.length) (l1.map Value.int) (.int (0 : Int32))) (B2 : Arv Z h0 t2 k2 .byte (Int32.ofNat l2.length) (l2.map Value.int) (.int (0 : Int32))) (zc : Int32) (S_CS : Sta Z h0 "java/lang/String" "COMPACT_STRINGS" "Z" (.int zc)) (hzc : ¬ zc = (0 : Int32)) (hne : ¬ g1 = g2) :
    Does l Z (⟨"java/lang/String", "equals", "(Ljava/lang/Object;)Z"⟩ : MethodName) jdk_42_method_66_code 3 (some .boolean) [] ({ frames := 1, cells := 0, slots := 0, locals := 14 } : Room) #[(.ref g1), (.ref g2)] h0 (Val (some (.int (if l1 = l2 then 1 else 0))) h0) := by
  refine Does.intro (plainFor_of_name pn_java_lang_String) (ef_rmEq g1 g2) ?_
  intro p e s m below meth c s₁ hx hby hml hown hnm hret hlk hZ e0 X0
  show Go p e below _ s₁ (mkF m 0 #[.val (.ref g1), .val (.ref g2), .unset] [])
  refine Go.st (fun _ h => XS.aloadN X0.here hx rfl (hb hby d_jdk_42_method_66_code_0) rfl rfl h) ?_
  show Go p e below _ s₁ (mkF m 1 #[.val (.ref g1), .val (.ref g2), .unset] [(.ref g1)])
  refine Go.st (fun _ h => XS.aloadN X0.here hx rfl (hb hby d_jdk_42_method_66_code_1) rfl rfl h) ?_
  show Go p e below _ s₁ (mkF m 2 #[.val (.ref g1), .val (.ref g2), .unset] [(.ref g2), (.ref g1)])
  refine Go.st (fun _ h => XT.acmpYes X0.here hx rfl (pc0 := 2) (pc' := 7) rfl (hb hby d_jdk_42_method_66_code_2) rfl rfl rfl ((own_ane (hne : ¬ (g1 = g2))).2) (by decide) (by decide) h) ?_
  show Go p e below _ s₁ (mkF m 7 #[.val (.ref g1), .val (.ref g2), .unset] [])
  refine Go.st (fun _ h => XS.aloadN X0.here hx rfl (hb hby d_jdk_42_method_66_code_7) rfl rfl h) ?_
  show Go p e below _ s₁ (mkF m 8 #[.val (.ref g1), .val (.ref g2), .unset] [(.ref g2)])
  obtain ⟨T1, X1, e1, st1⟩ := instY X0 hx hZ hown (hw _ (List.mem_of_getElem? (i := 56) rfl)) e0 (Ins.self E_g2) (g := (mkF m 8 #[.val (.ref g1), .val (.ref g2), .unset] [(.ref g2)])) rfl rfl (hb hby d_jdk_42_method_66_code_8)
  refine Go.st st1 ?_
  show Go p e below _ T1 (mkF m 11 #[.val (.ref g1), .val (.ref g2), .unset] [(.int (1 : Int32))])
  refine Go.st (fun _ h => XS.ifNo X1.here hx rfl (hb hby d_jdk_42_method_66_code_11) rfl (by decide) h) ?_
  show Go p e below _ T1 (mkF m 14 #[.val (.ref g1), .val (.ref g2), .unset] [])
  refine Go.st (fun _ h => XS.aloadN X1.here hx rfl (hb hby d_jdk_42_method_66_code_14) rfl rfl h) ?_
  show Go p e below _ T1 (mkF m 15 #[.val (.ref g1), .val (.ref g2), .unset] [(.ref g2)])
  obtain ⟨T2, X2, e2, st2⟩ := castY X1 hx hZ hown (hw _ (List.mem_of_getElem? (i := 56) rfl)) e1 (Ins.self E_g2) (g := (mkF m 15 #[.val (.ref g1), .val (.ref g2), .unset] [(.ref g2)])) rfl rfl (hb hby d_jdk_42_method_66_code_15)
  refine Go.st st2 ?_
  show Go p e below _ T2 (mkF m 18 #[.val (.ref g1), .val (.ref g2), .unset] [(.ref g2)])
  refine Go.st (fun _ h => XS.astoreN X2.here hx rfl (hb hby d_jdk_42_method_66_code_18) rfl rfl (l' := #[.val (.ref g1), .val (.ref g2), .val (.ref g2)]) rfl h) ?_
  show Go p e below _ T2 (mkF m 19 #[.val (.ref g1), .val (.ref g2), .val (.ref g2)] [])
  obtain ⟨T3, X3, e3, st3⟩ := getS2 X2 hx hZ hown (host := "") (Or.inl (hw _ (List.mem_of_getElem? (i := 24) rfl))) Via.refl e2 S_CS (g := (mkF m 19 #[.val (.ref g1), .val (.ref g2), .val (.ref g2)] [])) rfl (hb hby d_jdk_42_method_66_code_19)
  refine Go.st st3 ?_
  show Go p e below _ T3 (mkF m 22 #[.val (.ref g1), .val (.ref g2), .val (.ref g2)] [(.int zc)])
  refine Go.st (fun _ h => XS.ifNo X3.here hx rfl (hb hby d_jdk_42_method_66_code_22) rfl ((if0 _ _).trans (feq (hzc : ¬ (zc = (0 : Int32)))).1) h) ?_
  show Go p e below _ T3 (mkF m 25 #[.val (.ref g1), .val (.ref g2), .val (.ref g2)] [])
  refine Go.st (fun _ h => XS.aloadN X3.here hx rfl (hb hby d_jdk_42_method_66_code_25) rfl rfl h) ?_
  show Go p e below _ T3 (mkF m 26 #[.val (.ref g1), .val (.ref g2), .val (.ref g2)] [(.ref g1)])
  obtain ⟨T4, X4, e4, st4⟩ := getF X3 hx hZ hown (host := "") (Or.inl (hw _ (List.mem_of_getElem? (i := 36) rfl))) Via.refl e3 C_g1 (g := (mkF m 26 #[.val (.ref g1), .val (.ref g2), .val (.ref g2)] [(.ref g1)])) rfl rfl (hb hby d_jdk_42_method_66_code_26)
  refine Go.st st4 ?_
  show Go p e below _ T4 (mkF m 29 #[.val (.ref g1), .val (.ref g2), .val (.ref g2)] [(.int (0 : Int32))])
  refine Go.st (fun _ h => XS.aloadN X4.here hx rfl (hb hby d_jdk_42_method_66_code_29) rfl rfl h) ?_
  show Go p e below _ T4 (mkF m 30 #[.val (.ref g1), .val (.ref g2), .val (.ref g2)] [(.ref g2), (.int (0 : Int32))])
  obtain ⟨T5, X5, e5, st5⟩ := getF X4 hx hZ hown (host := "") (Or.inl (hw _ (List.mem_of_getElem? (i := 36) rfl))) Via.refl e4 C_g2 (g := (mkF m 30 #[.val (.ref g1), .val (.ref g2), .val (.ref g2)] [(.ref g2), (.int (0 : Int32))])) rfl rfl (hb hby d_jdk_42_method_66_code_30)
  refine Go.st st5 ?_
  show Go p e below _ T5 (mkF m 33 #[.val (.ref g1), .val (.ref g2), .val (.ref g2)] [(.int (0 : Int32)), (.int (0 : Int32))])
  refine Go.st (fun _ h => XS.icmpNo X5.here hx rfl (hb hby d_jdk_42_method_66_code_33) rfl (by decide) h) ?_
  show Go p e below _ T5 (mkF m 36 #[.val (.ref g1), .val (.ref g2), .val (.ref g2)] [])
  refine Go.st (fun _ h => XS.aloadN X5.here hx rfl (hb hby d_jdk_42_method_66_code_36) rfl rfl h) ?_
  show Go p e below _ T5 (mkF m 37 #[.val (.ref g1), .val (.ref g2), .val (.ref g2)] [(.ref g1)])
  obtain ⟨T6, X6, e6, st6⟩ := getF X5 hx hZ hown (host := "") (Or.inl (hw _ (List.mem_of_getElem? (i := 38) rfl))) Via.refl e5 V_g1 (g := (mkF m 37 #[.val (.ref g1), .val (.ref g2), .val (.ref g2)] [(.ref g1)])) rfl rfl (hb hby d_jdk_42_method_66_code_37)
  refine Go.st st6 ?_
  show Go p e below _ T6 (mkF m 40 #[.val (.ref g1), .val (.ref g2), .val (.ref g2)] [(.ref t1)])
  refine Go.st (fun _ h => XS.aloadN X6.here hx rfl (hb hby d_jdk_42_method_66_code_40) rfl rfl h) ?_
  show Go p e below _ T6 (mkF m 41 #[.val (.ref g1), .val (.ref g2), .val (.ref g2)] [(.ref g2), (.ref t1)])
  obtain ⟨T7, X7, e7, st7⟩ := getF X6 hx hZ hown (host := "") (Or.inl (hw _ (List.mem_of_getElem? (i := 38) rfl))) Via.refl e6 V_g2 (g := (mkF m 41 #[.val (.ref g1), .val (.ref g2), .val (.ref g2)] [(.ref g2), (.ref t1)])) rfl rfl (hb hby d_jdk_42_method_66_code_41)
  refine Go.st st7 ?_
  show Go p e below _ T7 (mkF m 44 #[.val (.ref g1), .val (.ref g2), .val (.ref g2)] [(.ref t2), (.ref t1)])
  obtain ⟨T8, X8, e8, st8⟩ := own_still rfl rfl (Does.static (y := (⟨"java/lang/StringLatin1", "equals", "([B[B)Z"⟩ : MethodName)) (g := (mkF m 44 #[.val (.ref g1), .val (.ref g2), .val (.ref g2)] [(.ref t2), (.ref t1)])) (rmLat l Z a0 hw l1 l2 hl1 hl2 t1 t2 k1 k2 h0 B1 B2) X7 hx hZ hown e7 (hw _ (List.mem_of_getElem? (i := 57) rfl)) (hw _ (List.mem_of_getElem? (i := 58) rfl)) (hw _ (List.mem_of_getElem? (i := 59) rfl)) (hw _ (List.mem_of_getElem? (i := 60) rfl)) (by decide) rfl (by rw [hml]; rfl) (argsL := [(.ref t1), (.ref t2)]) (rest := []) (lenOf pd_285bB5bB29Z rfl) rfl (hb hby d_jdk_42_method_66_code_44) (W := 0) (by show 2 * 0 + _ ≤ _; exact Nat.le_of_eq rfl) (by decide) (by decide) (by decide) (by decide))
  refine Go.st st8 ?_
  show Go p e below _ T8 (mkF m 47 #[.val (.ref g1), .val (.ref g2), .val (.ref g2)] [(.int (if l1 = l2 then 1 else 0))])
  by_cases hc9 : (if l1 = l2 then 1 else 0) = (0 : Int32)
  · refine Go.st (fun _ h => XS.ifYes X8.here hx rfl (pc0 := 47) (pc' := 54) rfl (hb hby d_jdk_42_method_66_code_47) rfl ((if0 _ _).trans (teq hc9).1) (by decide) (by decide) h) ?_
    show Go p e below _ T8 (mkF m 54 #[.val (.ref g1), .val (.ref g2), .val (.ref g2)] [])
    refine Go.st (fun _ h => XT.iconstV X8.here hx rfl (0 : Int32) (hb hby d_jdk_42_method_66_code_54) (by decide) h) ?_
    show Go p e below _ T8 (mkF m 55 #[.val (.ref g1), .val (.ref g2), .val (.ref g2)] [(.int (0 : Int32))])
    refine Go.retZ X8 hx hlk hret rfl (hb hby d_jdk_42_method_66_code_55) (by decide) (by decide) ?_
    exact ⟨by rw [own_if0 hc9], rfl, e8⟩
  · refine Go.st (fun _ h => XS.ifNo X8.here hx rfl (hb hby d_jdk_42_method_66_code_47) rfl ((if0 _ _).trans (feq hc9).1) h) ?_
    show Go p e below _ T8 (mkF m 50 #[.val (.ref g1), .val (.ref g2), .val (.ref g2)] [])
    refine Go.st (fun _ h => XT.iconstV X8.here hx rfl (1 : Int32) (hb hby d_jdk_42_method_66_code_50) (by decide) h) ?_
    show Go p e below _ T8 (mkF m 51 #[.val (.ref g1), .val (.ref g2), .val (.ref g2)] [(.int (1 : Int32))])
    refine Go.st (fun _ h => XS.goto X8.here hx rfl (pc0 := 51) (pc' := 55) rfl (hb hby d_jdk_42_method_66_code_51) (by decide) (by decide) h) ?_
    show Go p e below _ T8 (mkF m 55 #[.val (.ref g1), .val (.ref g2), .val (.ref g2)] [(.int (1 : Int32))])
    refine Go.retZ X8 hx hlk hret rfl (hb hby d_jdk_42_method_66_code_55) (by decide) (by decide) ?_
    exact ⟨by rw [own_if1 hc9], rfl, e8⟩
set_option maxHeartbeats 40000000 in
theorem rmLatS (l : Launch) (Z : State) (a0 : Array Value) (hw : ∀ d ∈ tables_1, d.before a0 Z = true) (x1 x2 : Int32) (t1 t2 : Addr) (k1 k2 : ClassId) (h0 : Heap) (B1 : Arv Z h0 t1 k1 .byte (2 : Int32) [(.int x1), (.int x2)] (.int (0 : Int32))) (B2 : Arv Z h0 t2 k2 .byte (2 : Int32) [(.int x1), (.int x2)] (.int (0 : Int32))) :
    Does l Z (⟨"java/lang/StringLatin1", "equals", "([B[B)Z"⟩ : MethodName) jdk_43_method_13_code 3 (some .boolean) [] ({ frames := 0, cells := 0, slots := 0, locals := 0 } : Room) #[(.ref t1), (.ref t2)] h0 (Val (some (.int (1 : Int32))) h0) := by
  have q := rmLat22 l Z a0 hw x1 x2 x1 x2 t1 t2 k1 k2 h0 B1 B2
  rw [if_pos rfl] at q
  exact q
theorem ef_rmEq_u0 (x0 : Addr) (x1 : Addr) (m : MethodId) : entryFrame m #[(.ref x0), (.ref x1)] 3 = mkF m 0 #[.val (.ref x0), .val (.ref x1), .unset] [] := by first | (simp [entryFrame, mkF, argsToLocals, Value.category]; done) | rfl
set_option maxRecDepth 65536 in
set_option maxHeartbeats 40000000 in
theorem rmEq_u0 (l : Launch) (Z : State) (a0 : Array Value) (hw : ∀ d ∈ tables_1, d.before a0 Z = true) (g1 g2 t1 t2 : Addr) (k1 k2 : ClassId) (h0 : Heap) (E_g1 : Exa Z h0 g1 "java/lang/String") (C_g1 : Fld Z h0 g1 "java/lang/String" "coder" "B" (.int (0 : Int32))) (V_g1 : Fld Z h0 g1 "java/lang/String" "value" "[B" (.ref t1)) (E_g2 : Exa Z h0 g2 "java/lang/String") (C_g2 : Fld Z h0 g2 "java/lang/String" "coder" "B" (.int (0 : Int32))) (V_g2 : Fld Z h0 g2 "java/lang/String" "value" "[B" (.ref t2)) (B1 : Arv Z h0 t1 k1 .byte (2 : Int32) [(.int (117 : Int32)), (.int (48 : Int32))] (.int (0 : Int32))) (B2 : Arv Z h0 t2 k2 .byte (2 : Int32) [(.int (117 : Int32)), (.int (48 : Int32))] (.int (0 : Int32))) (zc : Int32) (S_CS : Sta Z h0 "java/lang/String" "COMPACT_STRINGS" "Z" (.int zc)) (hzc : ¬ zc = (0 : Int32)) :
    Does l Z (⟨"java/lang/String", "equals", "(Ljava/lang/Object;)Z"⟩ : MethodName) jdk_42_method_66_code 3 (some .boolean) [] ({ frames := 1, cells := 0, slots := 0, locals := 14 } : Room) #[(.ref g1), (.ref g2)] h0 (Val (some (.int (1 : Int32))) h0) := by
  refine Does.intro (plainFor_of_name pn_java_lang_String) (ef_rmEq_u0 g1 g2) ?_
  intro p e s m below meth c s₁ hx hby hml hown hnm hret hlk hZ e0 X0
  show Go p e below _ s₁ (mkF m 0 #[.val (.ref g1), .val (.ref g2), .unset] [])
  refine Go.st (fun _ h => XS.aloadN X0.here hx rfl (hb hby d_jdk_42_method_66_code_0) rfl rfl h) ?_
  show Go p e below _ s₁ (mkF m 1 #[.val (.ref g1), .val (.ref g2), .unset] [(.ref g1)])
  refine Go.st (fun _ h => XS.aloadN X0.here hx rfl (hb hby d_jdk_42_method_66_code_1) rfl rfl h) ?_
  show Go p e below _ s₁ (mkF m 2 #[.val (.ref g1), .val (.ref g2), .unset] [(.ref g2), (.ref g1)])
  by_cases hc1 : g1 = g2
  · refine Go.st (fun _ h => XT.acmpNo X0.here hx rfl (hb hby d_jdk_42_method_66_code_2) rfl rfl rfl ((own_aeq hc1).2) h) ?_
    show Go p e below _ s₁ (mkF m 5 #[.val (.ref g1), .val (.ref g2), .unset] [])
    refine Go.st (fun _ h => XT.iconstV X0.here hx rfl (1 : Int32) (hb hby d_jdk_42_method_66_code_5) (by decide) h) ?_
    show Go p e below _ s₁ (mkF m 6 #[.val (.ref g1), .val (.ref g2), .unset] [(.int (1 : Int32))])
    refine Go.retZ X0 hx hlk hret rfl (hb hby d_jdk_42_method_66_code_6) (by decide) (by decide) ?_
    exact ⟨rfl, rfl, e0⟩
  · refine Go.st (fun _ h => XT.acmpYes X0.here hx rfl (pc0 := 2) (pc' := 7) rfl (hb hby d_jdk_42_method_66_code_2) rfl rfl rfl ((own_ane hc1).2) (by decide) (by decide) h) ?_
    show Go p e below _ s₁ (mkF m 7 #[.val (.ref g1), .val (.ref g2), .unset] [])
    refine Go.st (fun _ h => XS.aloadN X0.here hx rfl (hb hby d_jdk_42_method_66_code_7) rfl rfl h) ?_
    show Go p e below _ s₁ (mkF m 8 #[.val (.ref g1), .val (.ref g2), .unset] [(.ref g2)])
    obtain ⟨T2, X2, e2, st2⟩ := instY X0 hx hZ hown (hw _ (List.mem_of_getElem? (i := 56) rfl)) e0 (Ins.self E_g2) (g := (mkF m 8 #[.val (.ref g1), .val (.ref g2), .unset] [(.ref g2)])) rfl rfl (hb hby d_jdk_42_method_66_code_8)
    refine Go.st st2 ?_
    show Go p e below _ T2 (mkF m 11 #[.val (.ref g1), .val (.ref g2), .unset] [(.int (1 : Int32))])
    refine Go.st (fun _ h => XS.ifNo X2.here hx rfl (hb hby d_jdk_42_method_66_code_11) rfl (by decide) h) ?_
    show Go p e below _ T2 (mkF m 14 #[.val (.ref g1), .val (.ref g2), .unset] [])
    refine Go.st (fun _ h => XS.aloadN X2.here hx rfl (hb hby d_jdk_42_method_66_code_14) rfl rfl h) ?_
    show Go p e below _ T2 (mkF m 15 #[.val (.ref g1), .val (.ref g2), .unset] [(.ref g2)])
    obtain ⟨T3, X3, e3, st3⟩ := castY X2 hx hZ hown (hw _ (List.mem_of_getElem? (i := 56) rfl)) e2 (Ins.self E_g2) (g := (mkF m 15 #[.val (.ref g1), .val (.ref g2), .unset] [(.ref g2)])) rfl rfl (hb hby d_jdk_42_method_66_code_15)
    refine Go.st st3 ?_
    show Go p e below _ T3 (mkF m 18 #[.val (.ref g1), .val (.ref g2), .unset] [(.ref g2)])
    refine Go.st (fun _ h => XS.astoreN X3.here hx rfl (hb hby d_jdk_42_method_66_code_18) rfl rfl (l' := #[.val (.ref g1), .val (.ref g2), .val (.ref g2)]) rfl h) ?_
    show Go p e below _ T3 (mkF m 19 #[.val (.ref g1), .val (.ref g2), .val (.ref g2)] [])
    obtain ⟨T4, X4, e4, st4⟩ := getS2 X3 hx hZ hown (host := "") (Or.inl (hw _ (List.mem_of_getElem? (i := 24) rfl))) Via.refl e3 S_CS (g := (mkF m 19 #[.val (.ref g1), .val (.ref g2), .val (.ref g2)] [])) rfl (hb hby d_jdk_42_method_66_code_19)
    refine Go.st st4 ?_
    show Go p e below _ T4 (mkF m 22 #[.val (.ref g1), .val (.ref g2), .val (.ref g2)] [(.int zc)])
    refine Go.st (fun _ h => XS.ifNo X4.here hx rfl (hb hby d_jdk_42_method_66_code_22) rfl ((if0 _ _).trans (feq (hzc : ¬ (zc = (0 : Int32)))).1) h) ?_
    show Go p e below _ T4 (mkF m 25 #[.val (.ref g1), .val (.ref g2), .val (.ref g2)] [])
    refine Go.st (fun _ h => XS.aloadN X4.here hx rfl (hb hby d_jdk_42_method_66_code_25) rfl rfl h) ?_
    show Go p e below _ T4 (mkF m 26 #[.val (.ref g1), .val (.ref g2), .val (.ref g2)] [(.ref g1)])
    obtain ⟨T5, X5, e5, st5⟩ := getF X4 hx hZ hown (host := "") (Or.inl (hw _ (List.mem_of_getElem? (i := 36) rfl))) Via.refl e4 C_g1 (g := (mkF m 26 #[.val (.ref g1), .val (.ref g2), .val (.ref g2)] [(.ref g1)])) rfl rfl (hb hby d_jdk_42_method_66_code_26)
    refine Go.st st5 ?_
    show Go p e below _ T5 (mkF m 29 #[.val (.ref g1), .val (.ref g2), .val (.ref g2)] [(.int (0 : Int32))])
    refine Go.st (fun _ h => XS.aloadN X5.here hx rfl (hb hby d_jdk_42_method_66_code_29) rfl rfl h) ?_
    show Go p e below _ T5 (mkF m 30 #[.val (.ref g1), .val (.ref g2), .val (.ref g2)] [(.ref g2), (.int (0 : Int32))])
    obtain ⟨T6, X6, e6, st6⟩ := getF X5 hx hZ hown (host := "") (Or.inl (hw _ (List.mem_of_getElem? (i := 36) rfl))) Via.refl e5 C_g2 (g := (mkF m 30 #[.val (.ref g1), .val (.ref g2), .val (.ref g2)] [(.ref g2), (.int (0 : Int32))])) rfl rfl (hb hby d_jdk_42_method_66_code_30)
    refine Go.st st6 ?_
    show Go p e below _ T6 (mkF m 33 #[.val (.ref g1), .val (.ref g2), .val (.ref g2)] [(.int (0 : Int32)), (.int (0 : Int32))])
    refine Go.st (fun _ h => XS.icmpNo X6.here hx rfl (hb hby d_jdk_42_method_66_code_33) rfl (by decide) h) ?_
    show Go p e below _ T6 (mkF m 36 #[.val (.ref g1), .val (.ref g2), .val (.ref g2)] [])
    refine Go.st (fun _ h => XS.aloadN X6.here hx rfl (hb hby d_jdk_42_method_66_code_36) rfl rfl h) ?_
    show Go p e below _ T6 (mkF m 37 #[.val (.ref g1), .val (.ref g2), .val (.ref g2)] [(.ref g1)])
    obtain ⟨T7, X7, e7, st7⟩ := getF X6 hx hZ hown (host := "") (Or.inl (hw _ (List.mem_of_getElem? (i := 38) rfl))) Via.refl e6 V_g1 (g := (mkF m 37 #[.val (.ref g1), .val (.ref g2), .val (.ref g2)] [(.ref g1)])) rfl rfl (hb hby d_jdk_42_method_66_code_37)
    refine Go.st st7 ?_
    show Go p e below _ T7 (mkF m 40 #[.val (.ref g1), .val (.ref g2), .val (.ref g2)] [(.ref t1)])
    refine Go.st (fun _ h => XS.aloadN X7.here hx rfl (hb hby d_jdk_42_method_66_code_40) rfl rfl h) ?_
    show Go p e below _ T7 (mkF m 41 #[.val (.ref g1), .val (.ref g2), .val (.ref g2)] [(.ref g2), (.ref t1)])
    obtain ⟨T8, X8, e8, st8⟩ := getF X7 hx hZ hown (host := "") (Or.inl (hw _ (List.mem_of_getElem? (i := 38) rfl))) Via.refl e7 V_g2 (g := (mkF m 41 #[.val (.ref g1), .val (.ref g2), .val (.ref g2)] [(.ref g2), (.ref t1)])) rfl rfl (hb hby d_jdk_42_method_66_code_41)
    refine Go.st st8 ?_
    show Go p e below _ T8 (mkF m 44 #[.val (.ref g1), .val (.ref g2), .val (.ref g2)] [(.ref t2), (.ref t1)])
    obtain ⟨T9, X9, e9, st9⟩ := own_still rfl rfl (Does.static (y := (⟨"java/lang/StringLatin1", "equals", "([B[B)Z"⟩ : MethodName)) (g := (mkF m 44 #[.val (.ref g1), .val (.ref g2), .val (.ref g2)] [(.ref t2), (.ref t1)])) (rmLatS l Z a0 hw (117 : Int32) (48 : Int32) t1 t2 k1 k2 h0 B1 B2) X8 hx hZ hown e8 (hw _ (List.mem_of_getElem? (i := 57) rfl)) (hw _ (List.mem_of_getElem? (i := 58) rfl)) (hw _ (List.mem_of_getElem? (i := 59) rfl)) (hw _ (List.mem_of_getElem? (i := 60) rfl)) (by decide) rfl (by rw [hml]; rfl) (argsL := [(.ref t1), (.ref t2)]) (rest := []) (lenOf pd_285bB5bB29Z rfl) rfl (hb hby d_jdk_42_method_66_code_44) (W := 0) (by show 2 * 0 + _ ≤ _; exact Nat.le_of_eq rfl) (by decide) (by decide) (by decide) (by decide))
    refine Go.st st9 ?_
    show Go p e below _ T9 (mkF m 47 #[.val (.ref g1), .val (.ref g2), .val (.ref g2)] [(.int (1 : Int32))])
    refine Go.st (fun _ h => XS.ifNo X9.here hx rfl (hb hby d_jdk_42_method_66_code_47) rfl (by decide) h) ?_
    show Go p e below _ T9 (mkF m 50 #[.val (.ref g1), .val (.ref g2), .val (.ref g2)] [])
    refine Go.st (fun _ h => XT.iconstV X9.here hx rfl (1 : Int32) (hb hby d_jdk_42_method_66_code_50) (by decide) h) ?_
    show Go p e below _ T9 (mkF m 51 #[.val (.ref g1), .val (.ref g2), .val (.ref g2)] [(.int (1 : Int32))])
    refine Go.st (fun _ h => XS.goto X9.here hx rfl (pc0 := 51) (pc' := 55) rfl (hb hby d_jdk_42_method_66_code_51) (by decide) (by decide) h) ?_
    show Go p e below _ T9 (mkF m 55 #[.val (.ref g1), .val (.ref g2), .val (.ref g2)] [(.int (1 : Int32))])
    refine Go.retZ X9 hx hlk hret rfl (hb hby d_jdk_42_method_66_code_55) (by decide) (by decide) ?_
    exact ⟨rfl, rfl, e9⟩
theorem ef_rmEq_u1 (x0 : Addr) (x1 : Addr) (m : MethodId) : entryFrame m #[(.ref x0), (.ref x1)] 3 = mkF m 0 #[.val (.ref x0), .val (.ref x1), .unset] [] := by first | (simp [entryFrame, mkF, argsToLocals, Value.category]; done) | rfl
set_option maxRecDepth 65536 in
set_option maxHeartbeats 40000000 in
theorem rmEq_u1 (l : Launch) (Z : State) (a0 : Array Value) (hw : ∀ d ∈ tables_1, d.before a0 Z = true) (g1 g2 t1 t2 : Addr) (k1 k2 : ClassId) (h0 : Heap) (E_g1 : Exa Z h0 g1 "java/lang/String") (C_g1 : Fld Z h0 g1 "java/lang/String" "coder" "B" (.int (0 : Int32))) (V_g1 : Fld Z h0 g1 "java/lang/String" "value" "[B" (.ref t1)) (E_g2 : Exa Z h0 g2 "java/lang/String") (C_g2 : Fld Z h0 g2 "java/lang/String" "coder" "B" (.int (0 : Int32))) (V_g2 : Fld Z h0 g2 "java/lang/String" "value" "[B" (.ref t2)) (B1 : Arv Z h0 t1 k1 .byte (2 : Int32) [(.int (117 : Int32)), (.int (49 : Int32))] (.int (0 : Int32))) (B2 : Arv Z h0 t2 k2 .byte (2 : Int32) [(.int (117 : Int32)), (.int (49 : Int32))] (.int (0 : Int32))) (zc : Int32) (S_CS : Sta Z h0 "java/lang/String" "COMPACT_STRINGS" "Z" (.int zc)) (hzc : ¬ zc = (0 : Int32)) :
    Does l Z (⟨"java/lang/String", "equals", "(Ljava/lang/Object;)Z"⟩ : MethodName) jdk_42_method_66_code 3 (some .boolean) [] ({ frames := 1, cells := 0, slots := 0, locals := 14 } : Room) #[(.ref g1), (.ref g2)] h0 (Val (some (.int (1 : Int32))) h0) := by
  refine Does.intro (plainFor_of_name pn_java_lang_String) (ef_rmEq_u1 g1 g2) ?_
  intro p e s m below meth c s₁ hx hby hml hown hnm hret hlk hZ e0 X0
  show Go p e below _ s₁ (mkF m 0 #[.val (.ref g1), .val (.ref g2), .unset] [])
  refine Go.st (fun _ h => XS.aloadN X0.here hx rfl (hb hby d_jdk_42_method_66_code_0) rfl rfl h) ?_
  show Go p e below _ s₁ (mkF m 1 #[.val (.ref g1), .val (.ref g2), .unset] [(.ref g1)])
  refine Go.st (fun _ h => XS.aloadN X0.here hx rfl (hb hby d_jdk_42_method_66_code_1) rfl rfl h) ?_
  show Go p e below _ s₁ (mkF m 2 #[.val (.ref g1), .val (.ref g2), .unset] [(.ref g2), (.ref g1)])
  by_cases hc1 : g1 = g2
  · refine Go.st (fun _ h => XT.acmpNo X0.here hx rfl (hb hby d_jdk_42_method_66_code_2) rfl rfl rfl ((own_aeq hc1).2) h) ?_
    show Go p e below _ s₁ (mkF m 5 #[.val (.ref g1), .val (.ref g2), .unset] [])
    refine Go.st (fun _ h => XT.iconstV X0.here hx rfl (1 : Int32) (hb hby d_jdk_42_method_66_code_5) (by decide) h) ?_
    show Go p e below _ s₁ (mkF m 6 #[.val (.ref g1), .val (.ref g2), .unset] [(.int (1 : Int32))])
    refine Go.retZ X0 hx hlk hret rfl (hb hby d_jdk_42_method_66_code_6) (by decide) (by decide) ?_
    exact ⟨rfl, rfl, e0⟩
  · refine Go.st (fun _ h => XT.acmpYes X0.here hx rfl (pc0 := 2) (pc' := 7) rfl (hb hby d_jdk_42_method_66_code_2) rfl rfl rfl ((own_ane hc1).2) (by decide) (by decide) h) ?_
    show Go p e below _ s₁ (mkF m 7 #[.val (.ref g1), .val (.ref g2), .unset] [])
    refine Go.st (fun _ h => XS.aloadN X0.here hx rfl (hb hby d_jdk_42_method_66_code_7) rfl rfl h) ?_
    show Go p e below _ s₁ (mkF m 8 #[.val (.ref g1), .val (.ref g2), .unset] [(.ref g2)])
    obtain ⟨T2, X2, e2, st2⟩ := instY X0 hx hZ hown (hw _ (List.mem_of_getElem? (i := 56) rfl)) e0 (Ins.self E_g2) (g := (mkF m 8 #[.val (.ref g1), .val (.ref g2), .unset] [(.ref g2)])) rfl rfl (hb hby d_jdk_42_method_66_code_8)
    refine Go.st st2 ?_
    show Go p e below _ T2 (mkF m 11 #[.val (.ref g1), .val (.ref g2), .unset] [(.int (1 : Int32))])
    refine Go.st (fun _ h => XS.ifNo X2.here hx rfl (hb hby d_jdk_42_method_66_code_11) rfl (by decide) h) ?_
    show Go p e below _ T2 (mkF m 14 #[.val (.ref g1), .val (.ref g2), .unset] [])
    refine Go.st (fun _ h => XS.aloadN X2.here hx rfl (hb hby d_jdk_42_method_66_code_14) rfl rfl h) ?_
    show Go p e below _ T2 (mkF m 15 #[.val (.ref g1), .val (.ref g2), .unset] [(.ref g2)])
    obtain ⟨T3, X3, e3, st3⟩ := castY X2 hx hZ hown (hw _ (List.mem_of_getElem? (i := 56) rfl)) e2 (Ins.self E_g2) (g := (mkF m 15 #[.val (.ref g1), .val (.ref g2), .unset] [(.ref g2)])) rfl rfl (hb hby d_jdk_42_method_66_code_15)
    refine Go.st st3 ?_
    show Go p e below _ T3 (mkF m 18 #[.val (.ref g1), .val (.ref g2), .unset] [(.ref g2)])
    refine Go.st (fun _ h => XS.astoreN X3.here hx rfl (hb hby d_jdk_42_method_66_code_18) rfl rfl (l' := #[.val (.ref g1), .val (.ref g2), .val (.ref g2)]) rfl h) ?_
    show Go p e below _ T3 (mkF m 19 #[.val (.ref g1), .val (.ref g2), .val (.ref g2)] [])
    obtain ⟨T4, X4, e4, st4⟩ := getS2 X3 hx hZ hown (host := "") (Or.inl (hw _ (List.mem_of_getElem? (i := 24) rfl))) Via.refl e3 S_CS (g := (mkF m 19 #[.val (.ref g1), .val (.ref g2), .val (.ref g2)] [])) rfl (hb hby d_jdk_42_method_66_code_19)
    refine Go.st st4 ?_
    show Go p e below _ T4 (mkF m 22 #[.val (.ref g1), .val (.ref g2), .val (.ref g2)] [(.int zc)])
    refine Go.st (fun _ h => XS.ifNo X4.here hx rfl (hb hby d_jdk_42_method_66_code_22) rfl ((if0 _ _).trans (feq (hzc : ¬ (zc = (0 : Int32)))).1) h) ?_
    show Go p e below _ T4 (mkF m 25 #[.val (.ref g1), .val (.ref g2), .val (.ref g2)] [])
    refine Go.st (fun _ h => XS.aloadN X4.here hx rfl (hb hby d_jdk_42_method_66_code_25) rfl rfl h) ?_
    show Go p e below _ T4 (mkF m 26 #[.val (.ref g1), .val (.ref g2), .val (.ref g2)] [(.ref g1)])
    obtain ⟨T5, X5, e5, st5⟩ := getF X4 hx hZ hown (host := "") (Or.inl (hw _ (List.mem_of_getElem? (i := 36) rfl))) Via.refl e4 C_g1 (g := (mkF m 26 #[.val (.ref g1), .val (.ref g2), .val (.ref g2)] [(.ref g1)])) rfl rfl (hb hby d_jdk_42_method_66_code_26)
    refine Go.st st5 ?_
    show Go p e below _ T5 (mkF m 29 #[.val (.ref g1), .val (.ref g2), .val (.ref g2)] [(.int (0 : Int32))])
    refine Go.st (fun _ h => XS.aloadN X5.here hx rfl (hb hby d_jdk_42_method_66_code_29) rfl rfl h) ?_
    show Go p e below _ T5 (mkF m 30 #[.val (.ref g1), .val (.ref g2), .val (.ref g2)] [(.ref g2), (.int (0 : Int32))])
    obtain ⟨T6, X6, e6, st6⟩ := getF X5 hx hZ hown (host := "") (Or.inl (hw _ (List.mem_of_getElem? (i := 36) rfl))) Via.refl e5 C_g2 (g := (mkF m 30 #[.val (.ref g1), .val (.ref g2), .val (.ref g2)] [(.ref g2), (.int (0 : Int32))])) rfl rfl (hb hby d_jdk_42_method_66_code_30)
    refine Go.st st6 ?_
    show Go p e below _ T6 (mkF m 33 #[.val (.ref g1), .val (.ref g2), .val (.ref g2)] [(.int (0 : Int32)), (.int (0 : Int32))])
    refine Go.st (fun _ h => XS.icmpNo X6.here hx rfl (hb hby d_jdk_42_method_66_code_33) rfl (by decide) h) ?_
    show Go p e below _ T6 (mkF m 36 #[.val (.ref g1), .val (.ref g2), .val (.ref g2)] [])
    refine Go.st (fun _ h => XS.aloadN X6.here hx rfl (hb hby d_jdk_42_method_66_code_36) rfl rfl h) ?_
    show Go p e below _ T6 (mkF m 37 #[.val (.ref g1), .val (.ref g2), .val (.ref g2)] [(.ref g1)])
    obtain ⟨T7, X7, e7, st7⟩ := getF X6 hx hZ hown (host := "") (Or.inl (hw _ (List.mem_of_getElem? (i := 38) rfl))) Via.refl e6 V_g1 (g := (mkF m 37 #[.val (.ref g1), .val (.ref g2), .val (.ref g2)] [(.ref g1)])) rfl rfl (hb hby d_jdk_42_method_66_code_37)
    refine Go.st st7 ?_
    show Go p e below _ T7 (mkF m 40 #[.val (.ref g1), .val (.ref g2), .val (.ref g2)] [(.ref t1)])
    refine Go.st (fun _ h => XS.aloadN X7.here hx rfl (hb hby d_jdk_42_method_66_code_40) rfl rfl h) ?_
    show Go p e below _ T7 (mkF m 41 #[.val (.ref g1), .val (.ref g2), .val (.ref g2)] [(.ref g2), (.ref t1)])
    obtain ⟨T8, X8, e8, st8⟩ := getF X7 hx hZ hown (host := "") (Or.inl (hw _ (List.mem_of_getElem? (i := 38) rfl))) Via.refl e7 V_g2 (g := (mkF m 41 #[.val (.ref g1), .val (.ref g2), .val (.ref g2)] [(.ref g2), (.ref t1)])) rfl rfl (hb hby d_jdk_42_method_66_code_41)
    refine Go.st st8 ?_
    show Go p e below _ T8 (mkF m 44 #[.val (.ref g1), .val (.ref g2), .val (.ref g2)] [(.ref t2), (.ref t1)])
    obtain ⟨T9, X9, e9, st9⟩ := own_still rfl rfl (Does.static (y := (⟨"java/lang/StringLatin1", "equals", "([B[B)Z"⟩ : MethodName)) (g := (mkF m 44 #[.val (.ref g1), .val (.ref g2), .val (.ref g2)] [(.ref t2), (.ref t1)])) (rmLatS l Z a0 hw (117 : Int32) (49 : Int32) t1 t2 k1 k2 h0 B1 B2) X8 hx hZ hown e8 (hw _ (List.mem_of_getElem? (i := 57) rfl)) (hw _ (List.mem_of_getElem? (i := 58) rfl)) (hw _ (List.mem_of_getElem? (i := 59) rfl)) (hw _ (List.mem_of_getElem? (i := 60) rfl)) (by decide) rfl (by rw [hml]; rfl) (argsL := [(.ref t1), (.ref t2)]) (rest := []) (lenOf pd_285bB5bB29Z rfl) rfl (hb hby d_jdk_42_method_66_code_44) (W := 0) (by show 2 * 0 + _ ≤ _; exact Nat.le_of_eq rfl) (by decide) (by decide) (by decide) (by decide))
    refine Go.st st9 ?_
    show Go p e below _ T9 (mkF m 47 #[.val (.ref g1), .val (.ref g2), .val (.ref g2)] [(.int (1 : Int32))])
    refine Go.st (fun _ h => XS.ifNo X9.here hx rfl (hb hby d_jdk_42_method_66_code_47) rfl (by decide) h) ?_
    show Go p e below _ T9 (mkF m 50 #[.val (.ref g1), .val (.ref g2), .val (.ref g2)] [])
    refine Go.st (fun _ h => XT.iconstV X9.here hx rfl (1 : Int32) (hb hby d_jdk_42_method_66_code_50) (by decide) h) ?_
    show Go p e below _ T9 (mkF m 51 #[.val (.ref g1), .val (.ref g2), .val (.ref g2)] [(.int (1 : Int32))])
    refine Go.st (fun _ h => XS.goto X9.here hx rfl (pc0 := 51) (pc' := 55) rfl (hb hby d_jdk_42_method_66_code_51) (by decide) (by decide) h) ?_
    show Go p e below _ T9 (mkF m 55 #[.val (.ref g1), .val (.ref g2), .val (.ref g2)] [(.int (1 : Int32))])
    refine Go.retZ X9 hx hlk hret rfl (hb hby d_jdk_42_method_66_code_55) (by decide) (by decide) ?_
    exact ⟨rfl, rfl, e9⟩
theorem ef_rmEq_u2 (x0 : Addr) (x1 : Addr) (m : MethodId) : entryFrame m #[(.ref x0), (.ref x1)] 3 = mkF m 0 #[.val (.ref x0), .val (.ref x1), .unset] [] := by first | (simp [entryFrame, mkF, argsToLocals, Value.category]; done) | rfl
set_option maxRecDepth 65536 in
set_option maxHeartbeats 40000000 in
theorem rmEq_u2 (l : Launch) (Z : State) (a0 : Array Value) (hw : ∀ d ∈ tables_1, d.before a0 Z = true) (g1 g2 t1 t2 : Addr) (k1 k2 : ClassId) (h0 : Heap) (E_g1 : Exa Z h0 g1 "java/lang/String") (C_g1 : Fld Z h0 g1 "java/lang/String" "coder" "B" (.int (0 : Int32))) (V_g1 : Fld Z h0 g1 "java/lang/String" "value" "[B" (.ref t1)) (E_g2 : Exa Z h0 g2 "java/lang/String") (C_g2 : Fld Z h0 g2 "java/lang/String" "coder" "B" (.int (0 : Int32))) (V_g2 : Fld Z h0 g2 "java/lang/String" "value" "[B" (.ref t2)) (B1 : Arv Z h0 t1 k1 .byte (2 : Int32) [(.int (117 : Int32)), (.int (50 : Int32))] (.int (0 : Int32))) (B2 : Arv Z h0 t2 k2 .byte (2 : Int32) [(.int (117 : Int32)), (.int (50 : Int32))] (.int (0 : Int32))) (zc : Int32) (S_CS : Sta Z h0 "java/lang/String" "COMPACT_STRINGS" "Z" (.int zc)) (hzc : ¬ zc = (0 : Int32)) :
    Does l Z (⟨"java/lang/String", "equals", "(Ljava/lang/Object;)Z"⟩ : MethodName) jdk_42_method_66_code 3 (some .boolean) [] ({ frames := 1, cells := 0, slots := 0, locals := 14 } : Room) #[(.ref g1), (.ref g2)] h0 (Val (some (.int (1 : Int32))) h0) := by
  refine Does.intro (plainFor_of_name pn_java_lang_String) (ef_rmEq_u2 g1 g2) ?_
  intro p e s m below meth c s₁ hx hby hml hown hnm hret hlk hZ e0 X0
  show Go p e below _ s₁ (mkF m 0 #[.val (.ref g1), .val (.ref g2), .unset] [])
  refine Go.st (fun _ h => XS.aloadN X0.here hx rfl (hb hby d_jdk_42_method_66_code_0) rfl rfl h) ?_
  show Go p e below _ s₁ (mkF m 1 #[.val (.ref g1), .val (.ref g2), .unset] [(.ref g1)])
  refine Go.st (fun _ h => XS.aloadN X0.here hx rfl (hb hby d_jdk_42_method_66_code_1) rfl rfl h) ?_
  show Go p e below _ s₁ (mkF m 2 #[.val (.ref g1), .val (.ref g2), .unset] [(.ref g2), (.ref g1)])
  by_cases hc1 : g1 = g2
  · refine Go.st (fun _ h => XT.acmpNo X0.here hx rfl (hb hby d_jdk_42_method_66_code_2) rfl rfl rfl ((own_aeq hc1).2) h) ?_
    show Go p e below _ s₁ (mkF m 5 #[.val (.ref g1), .val (.ref g2), .unset] [])
    refine Go.st (fun _ h => XT.iconstV X0.here hx rfl (1 : Int32) (hb hby d_jdk_42_method_66_code_5) (by decide) h) ?_
    show Go p e below _ s₁ (mkF m 6 #[.val (.ref g1), .val (.ref g2), .unset] [(.int (1 : Int32))])
    refine Go.retZ X0 hx hlk hret rfl (hb hby d_jdk_42_method_66_code_6) (by decide) (by decide) ?_
    exact ⟨rfl, rfl, e0⟩
  · refine Go.st (fun _ h => XT.acmpYes X0.here hx rfl (pc0 := 2) (pc' := 7) rfl (hb hby d_jdk_42_method_66_code_2) rfl rfl rfl ((own_ane hc1).2) (by decide) (by decide) h) ?_
    show Go p e below _ s₁ (mkF m 7 #[.val (.ref g1), .val (.ref g2), .unset] [])
    refine Go.st (fun _ h => XS.aloadN X0.here hx rfl (hb hby d_jdk_42_method_66_code_7) rfl rfl h) ?_
    show Go p e below _ s₁ (mkF m 8 #[.val (.ref g1), .val (.ref g2), .unset] [(.ref g2)])
    obtain ⟨T2, X2, e2, st2⟩ := instY X0 hx hZ hown (hw _ (List.mem_of_getElem? (i := 56) rfl)) e0 (Ins.self E_g2) (g := (mkF m 8 #[.val (.ref g1), .val (.ref g2), .unset] [(.ref g2)])) rfl rfl (hb hby d_jdk_42_method_66_code_8)
    refine Go.st st2 ?_
    show Go p e below _ T2 (mkF m 11 #[.val (.ref g1), .val (.ref g2), .unset] [(.int (1 : Int32))])
    refine Go.st (fun _ h => XS.ifNo X2.here hx rfl (hb hby d_jdk_42_method_66_code_11) rfl (by decide) h) ?_
    show Go p e below _ T2 (mkF m 14 #[.val (.ref g1), .val (.ref g2), .unset] [])
    refine Go.st (fun _ h => XS.aloadN X2.here hx rfl (hb hby d_jdk_42_method_66_code_14) rfl rfl h) ?_
    show Go p e below _ T2 (mkF m 15 #[.val (.ref g1), .val (.ref g2), .unset] [(.ref g2)])
    obtain ⟨T3, X3, e3, st3⟩ := castY X2 hx hZ hown (hw _ (List.mem_of_getElem? (i := 56) rfl)) e2 (Ins.self E_g2) (g := (mkF m 15 #[.val (.ref g1), .val (.ref g2), .unset] [(.ref g2)])) rfl rfl (hb hby d_jdk_42_method_66_code_15)
    refine Go.st st3 ?_
    show Go p e below _ T3 (mkF m 18 #[.val (.ref g1), .val (.ref g2), .unset] [(.ref g2)])
    refine Go.st (fun _ h => XS.astoreN X3.here hx rfl (hb hby d_jdk_42_method_66_code_18) rfl rfl (l' := #[.val (.ref g1), .val (.ref g2), .val (.ref g2)]) rfl h) ?_
    show Go p e below _ T3 (mkF m 19 #[.val (.ref g1), .val (.ref g2), .val (.ref g2)] [])
    obtain ⟨T4, X4, e4, st4⟩ := getS2 X3 hx hZ hown (host := "") (Or.inl (hw _ (List.mem_of_getElem? (i := 24) rfl))) Via.refl e3 S_CS (g := (mkF m 19 #[.val (.ref g1), .val (.ref g2), .val (.ref g2)] [])) rfl (hb hby d_jdk_42_method_66_code_19)
    refine Go.st st4 ?_
    show Go p e below _ T4 (mkF m 22 #[.val (.ref g1), .val (.ref g2), .val (.ref g2)] [(.int zc)])
    refine Go.st (fun _ h => XS.ifNo X4.here hx rfl (hb hby d_jdk_42_method_66_code_22) rfl ((if0 _ _).trans (feq (hzc : ¬ (zc = (0 : Int32)))).1) h) ?_
    show Go p e below _ T4 (mkF m 25 #[.val (.ref g1), .val (.ref g2), .val (.ref g2)] [])
    refine Go.st (fun _ h => XS.aloadN X4.here hx rfl (hb hby d_jdk_42_method_66_code_25) rfl rfl h) ?_
    show Go p e below _ T4 (mkF m 26 #[.val (.ref g1), .val (.ref g2), .val (.ref g2)] [(.ref g1)])
    obtain ⟨T5, X5, e5, st5⟩ := getF X4 hx hZ hown (host := "") (Or.inl (hw _ (List.mem_of_getElem? (i := 36) rfl))) Via.refl e4 C_g1 (g := (mkF m 26 #[.val (.ref g1), .val (.ref g2), .val (.ref g2)] [(.ref g1)])) rfl rfl (hb hby d_jdk_42_method_66_code_26)
    refine Go.st st5 ?_
    show Go p e below _ T5 (mkF m 29 #[.val (.ref g1), .val (.ref g2), .val (.ref g2)] [(.int (0 : Int32))])
    refine Go.st (fun _ h => XS.aloadN X5.here hx rfl (hb hby d_jdk_42_method_66_code_29) rfl rfl h) ?_
    show Go p e below _ T5 (mkF m 30 #[.val (.ref g1), .val (.ref g2), .val (.ref g2)] [(.ref g2), (.int (0 : Int32))])
    obtain ⟨T6, X6, e6, st6⟩ := getF X5 hx hZ hown (host := "") (Or.inl (hw _ (List.mem_of_getElem? (i := 36) rfl))) Via.refl e5 C_g2 (g := (mkF m 30 #[.val (.ref g1), .val (.ref g2), .val (.ref g2)] [(.ref g2), (.int (0 : Int32))])) rfl rfl (hb hby d_jdk_42_method_66_code_30)
    refine Go.st st6 ?_
    show Go p e below _ T6 (mkF m 33 #[.val (.ref g1), .val (.ref g2), .val (.ref g2)] [(.int (0 : Int32)), (.int (0 : Int32))])
    refine Go.st (fun _ h => XS.icmpNo X6.here hx rfl (hb hby d_jdk_42_method_66_code_33) rfl (by decide) h) ?_
    show Go p e below _ T6 (mkF m 36 #[.val (.ref g1), .val (.ref g2), .val (.ref g2)] [])
    refine Go.st (fun _ h => XS.aloadN X6.here hx rfl (hb hby d_jdk_42_method_66_code_36) rfl rfl h) ?_
    show Go p e below _ T6 (mkF m 37 #[.val (.ref g1), .val (.ref g2), .val (.ref g2)] [(.ref g1)])
    obtain ⟨T7, X7, e7, st7⟩ := getF X6 hx hZ hown (host := "") (Or.inl (hw _ (List.mem_of_getElem? (i := 38) rfl))) Via.refl e6 V_g1 (g := (mkF m 37 #[.val (.ref g1), .val (.ref g2), .val (.ref g2)] [(.ref g1)])) rfl rfl (hb hby d_jdk_42_method_66_code_37)
    refine Go.st st7 ?_
    show Go p e below _ T7 (mkF m 40 #[.val (.ref g1), .val (.ref g2), .val (.ref g2)] [(.ref t1)])
    refine Go.st (fun _ h => XS.aloadN X7.here hx rfl (hb hby d_jdk_42_method_66_code_40) rfl rfl h) ?_
    show Go p e below _ T7 (mkF m 41 #[.val (.ref g1), .val (.ref g2), .val (.ref g2)] [(.ref g2), (.ref t1)])
    obtain ⟨T8, X8, e8, st8⟩ := getF X7 hx hZ hown (host := "") (Or.inl (hw _ (List.mem_of_getElem? (i := 38) rfl))) Via.refl e7 V_g2 (g := (mkF m 41 #[.val (.ref g1), .val (.ref g2), .val (.ref g2)] [(.ref g2), (.ref t1)])) rfl rfl (hb hby d_jdk_42_method_66_code_41)
    refine Go.st st8 ?_
    show Go p e below _ T8 (mkF m 44 #[.val (.ref g1), .val (.ref g2), .val (.ref g2)] [(.ref t2), (.ref t1)])
    obtain ⟨T9, X9, e9, st9⟩ := own_still rfl rfl (Does.static (y := (⟨"java/lang/StringLatin1", "equals", "([B[B)Z"⟩ : MethodName)) (g := (mkF m 44 #[.val (.ref g1), .val (.ref g2), .val (.ref g2)] [(.ref t2), (.ref t1)])) (rmLatS l Z a0 hw (117 : Int32) (50 : Int32) t1 t2 k1 k2 h0 B1 B2) X8 hx hZ hown e8 (hw _ (List.mem_of_getElem? (i := 57) rfl)) (hw _ (List.mem_of_getElem? (i := 58) rfl)) (hw _ (List.mem_of_getElem? (i := 59) rfl)) (hw _ (List.mem_of_getElem? (i := 60) rfl)) (by decide) rfl (by rw [hml]; rfl) (argsL := [(.ref t1), (.ref t2)]) (rest := []) (lenOf pd_285bB5bB29Z rfl) rfl (hb hby d_jdk_42_method_66_code_44) (W := 0) (by show 2 * 0 + _ ≤ _; exact Nat.le_of_eq rfl) (by decide) (by decide) (by decide) (by decide))
    refine Go.st st9 ?_
    show Go p e below _ T9 (mkF m 47 #[.val (.ref g1), .val (.ref g2), .val (.ref g2)] [(.int (1 : Int32))])
    refine Go.st (fun _ h => XS.ifNo X9.here hx rfl (hb hby d_jdk_42_method_66_code_47) rfl (by decide) h) ?_
    show Go p e below _ T9 (mkF m 50 #[.val (.ref g1), .val (.ref g2), .val (.ref g2)] [])
    refine Go.st (fun _ h => XT.iconstV X9.here hx rfl (1 : Int32) (hb hby d_jdk_42_method_66_code_50) (by decide) h) ?_
    show Go p e below _ T9 (mkF m 51 #[.val (.ref g1), .val (.ref g2), .val (.ref g2)] [(.int (1 : Int32))])
    refine Go.st (fun _ h => XS.goto X9.here hx rfl (pc0 := 51) (pc' := 55) rfl (hb hby d_jdk_42_method_66_code_51) (by decide) (by decide) h) ?_
    show Go p e below _ T9 (mkF m 55 #[.val (.ref g1), .val (.ref g2), .val (.ref g2)] [(.int (1 : Int32))])
    refine Go.retZ X9 hx hlk hret rfl (hb hby d_jdk_42_method_66_code_55) (by decide) (by decide) ?_
    exact ⟨rfl, rfl, e9⟩
theorem ef_rmDecl0_n (x0 : Addr) (x1 : Addr) (m : MethodId) : entryFrame m #[(.ref x0), (.ref x1)] 3 = mkF m 0 #[.val (.ref x0), .val (.ref x1), .unset] [] := by first | (simp [entryFrame, mkF, argsToLocals, Value.category]; done) | rfl
set_option maxRecDepth 65536 in
set_option maxHeartbeats 40000000 in
theorem rmDecl0_n (l : Launch) (Z : State) (a0 : Array Value) (hw : ∀ d ∈ tables_1, d.before a0 Z = true) (d1 q tq : Addr) (kd kq : ClassId) (lq : List Int32) (hlq : lq.length ≤ 2) (h0 : Heap) (E_q : Exa Z h0 q "java/lang/String") (C_q : Fld Z h0 q "java/lang/String" "coder" "B" (.int (0 : Int32))) (V_q : Fld Z h0 q "java/lang/String" "value" "[B" (.ref tq)) (B_q : Arv Z h0 tq kq .byte (Int32.ofNat lq.length) (lq.map Value.int) (.int (0 : Int32)))  (B_d : Arv Z h0 d1 kd (.object "java/lang/String") (0 : Int32) [] .null) (zc : Int32) (S_CS : Sta Z h0 "java/lang/String" "COMPACT_STRINGS" "Z" (.int zc)) (hzc : ¬ zc = (0 : Int32)) :
    Does l Z (⟨"com/example/tenon/tenon/core/XmlElement", "declared", "([Ljava/lang/String;Ljava/lang/String;)Ljava/lang/String;"⟩ : MethodName) prog_85_method_13_code 3 (some (.object "java/lang/String")) [] ({ frames := 2, cells := 0, slots := 0, locals := 28 } : Room) #[(.ref d1), (.ref q)] h0 (Val (some .null) h0) := by
  refine Does.intro (plainFor_of_name pn_com_example_tenon_tenon_core_XmlElement) (ef_rmDecl0_n d1 q) ?_
  intro p e s m below meth c s₁ hx hby hml hown hnm hret hlk hZ e0 X0
  show Go p e below _ s₁ (mkF m 0 #[.val (.ref d1), .val (.ref q), .unset] [])
  refine Go.st (fun _ h => XT.iconstV X0.here hx rfl (0 : Int32) (hb hby d_prog_85_method_13_code_0) (by decide) h) ?_
  show Go p e below _ s₁ (mkF m 1 #[.val (.ref d1), .val (.ref q), .unset] [(.int (0 : Int32))])
  refine Go.st (fun _ h => XS.istoreN X0.here hx rfl (hb hby d_prog_85_method_13_code_1) rfl (l' := #[.val (.ref d1), .val (.ref q), .val (.int (0 : Int32))]) rfl h) ?_
  show Go p e below _ s₁ (mkF m 2 #[.val (.ref d1), .val (.ref q), .val (.int (0 : Int32))] [])
  refine Go.st (fun _ h => XS.iloadN X0.here hx rfl (hb hby d_prog_85_method_13_code_2) rfl h) ?_
  show Go p e below _ s₁ (mkF m 3 #[.val (.ref d1), .val (.ref q), .val (.int (0 : Int32))] [(.int (0 : Int32))])
  refine Go.st (fun _ h => XS.aloadN X0.here hx rfl (hb hby d_prog_85_method_13_code_3) rfl rfl h) ?_
  show Go p e below _ s₁ (mkF m 4 #[.val (.ref d1), .val (.ref q), .val (.int (0 : Int32))] [(.ref d1), (.int (0 : Int32))])
  refine Go.st (own_len X0 hx hZ e0 B_d rfl rfl (hb hby d_prog_85_method_13_code_4)) ?_
  show Go p e below _ s₁ (mkF m 5 #[.val (.ref d1), .val (.ref q), .val (.int (0 : Int32))] [(.int (0 : Int32)), (.int (0 : Int32))])
  refine Go.st (fun _ h => XS.icmpYes X0.here hx rfl (pc0 := 5) (pc' := 30) rfl (hb hby d_prog_85_method_13_code_5) rfl (by decide) (by decide) (by decide) h) ?_
  show Go p e below _ s₁ (mkF m 30 #[.val (.ref d1), .val (.ref q), .val (.int (0 : Int32))] [])
  refine Go.st (fun _ h => XS.aconstNull X0.here hx rfl (hb hby d_prog_85_method_13_code_30) h) ?_
  show Go p e below _ s₁ (mkF m 31 #[.val (.ref d1), .val (.ref q), .val (.int (0 : Int32))] [.null])
  refine Go.retA X0 hx hlk hret rfl rfl rfl (hb hby d_prog_85_method_13_code_31) (by decide) (by decide) ?_
  exact ⟨rfl, rfl, e0⟩
theorem ef_rmDecl1_0 (x0 : Addr) (x1 : Addr) (m : MethodId) : entryFrame m #[(.ref x0), (.ref x1)] 3 = mkF m 0 #[.val (.ref x0), .val (.ref x1), .unset] [] := by first | (simp [entryFrame, mkF, argsToLocals, Value.category]; done) | rfl
set_option maxRecDepth 65536 in
set_option maxHeartbeats 40000000 in
theorem rmDecl1_0 (l : Launch) (Z : State) (a0 : Array Value) (hw : ∀ d ∈ tables_1, d.before a0 Z = true) (d1 q tq : Addr) (kd kq : ClassId) (lq : List Int32) (hlq : lq.length ≤ 2) (s0 u0 ts0 : Addr) (ks0 : ClassId) (l0 : List Int32) (hl0 : l0.length ≤ 2) (ne0 : ¬ s0 = q) (h0 : Heap) (E_q : Exa Z h0 q "java/lang/String") (C_q : Fld Z h0 q "java/lang/String" "coder" "B" (.int (0 : Int32))) (V_q : Fld Z h0 q "java/lang/String" "value" "[B" (.ref tq)) (B_q : Arv Z h0 tq kq .byte (Int32.ofNat lq.length) (lq.map Value.int) (.int (0 : Int32))) (E_s0 : Exa Z h0 s0 "java/lang/String") (C_s0 : Fld Z h0 s0 "java/lang/String" "coder" "B" (.int (0 : Int32))) (V_s0 : Fld Z h0 s0 "java/lang/String" "value" "[B" (.ref ts0)) (B_s0 : Arv Z h0 ts0 ks0 .byte (Int32.ofNat l0.length) (l0.map Value.int) (.int (0 : Int32))) (B_d : Arv Z h0 d1 kd (.object "java/lang/String") (2 : Int32) [(.ref s0), (.ref u0)] .null) (zc : Int32) (S_CS : Sta Z h0 "java/lang/String" "COMPACT_STRINGS" "Z" (.int zc)) (hzc : ¬ zc = (0 : Int32)) (hq0 : l0 = lq) :
    Does l Z (⟨"com/example/tenon/tenon/core/XmlElement", "declared", "([Ljava/lang/String;Ljava/lang/String;)Ljava/lang/String;"⟩ : MethodName) prog_85_method_13_code 3 (some (.object "java/lang/String")) [] ({ frames := 2, cells := 0, slots := 0, locals := 28 } : Room) #[(.ref d1), (.ref q)] h0 (Val (some (.ref u0)) h0) := by
  refine Does.intro (plainFor_of_name pn_com_example_tenon_tenon_core_XmlElement) (ef_rmDecl1_0 d1 q) ?_
  intro p e s m below meth c s₁ hx hby hml hown hnm hret hlk hZ e0 X0
  show Go p e below _ s₁ (mkF m 0 #[.val (.ref d1), .val (.ref q), .unset] [])
  refine Go.st (fun _ h => XT.iconstV X0.here hx rfl (0 : Int32) (hb hby d_prog_85_method_13_code_0) (by decide) h) ?_
  show Go p e below _ s₁ (mkF m 1 #[.val (.ref d1), .val (.ref q), .unset] [(.int (0 : Int32))])
  refine Go.st (fun _ h => XS.istoreN X0.here hx rfl (hb hby d_prog_85_method_13_code_1) rfl (l' := #[.val (.ref d1), .val (.ref q), .val (.int (0 : Int32))]) rfl h) ?_
  show Go p e below _ s₁ (mkF m 2 #[.val (.ref d1), .val (.ref q), .val (.int (0 : Int32))] [])
  refine Go.st (fun _ h => XS.iloadN X0.here hx rfl (hb hby d_prog_85_method_13_code_2) rfl h) ?_
  show Go p e below _ s₁ (mkF m 3 #[.val (.ref d1), .val (.ref q), .val (.int (0 : Int32))] [(.int (0 : Int32))])
  refine Go.st (fun _ h => XS.aloadN X0.here hx rfl (hb hby d_prog_85_method_13_code_3) rfl rfl h) ?_
  show Go p e below _ s₁ (mkF m 4 #[.val (.ref d1), .val (.ref q), .val (.int (0 : Int32))] [(.ref d1), (.int (0 : Int32))])
  refine Go.st (own_len X0 hx hZ e0 B_d rfl rfl (hb hby d_prog_85_method_13_code_4)) ?_
  show Go p e below _ s₁ (mkF m 5 #[.val (.ref d1), .val (.ref q), .val (.int (0 : Int32))] [(.int (2 : Int32)), (.int (0 : Int32))])
  refine Go.st (fun _ h => XS.icmpNo X0.here hx rfl (hb hby d_prog_85_method_13_code_5) rfl (by decide) h) ?_
  show Go p e below _ s₁ (mkF m 8 #[.val (.ref d1), .val (.ref q), .val (.int (0 : Int32))] [])
  refine Go.st (fun _ h => XS.aloadN X0.here hx rfl (hb hby d_prog_85_method_13_code_8) rfl rfl h) ?_
  show Go p e below _ s₁ (mkF m 9 #[.val (.ref d1), .val (.ref q), .val (.int (0 : Int32))] [(.ref d1)])
  refine Go.st (fun _ h => XS.iloadN X0.here hx rfl (hb hby d_prog_85_method_13_code_9) rfl h) ?_
  show Go p e below _ s₁ (mkF m 10 #[.val (.ref d1), .val (.ref q), .val (.int (0 : Int32))] [(.int (0 : Int32)), (.ref d1)])
  refine Go.st (own_ldR X0 hx hZ e0 B_d rfl (by decide) (by decide) rfl rfl rfl (hb hby d_prog_85_method_13_code_10)) ?_
  show Go p e below _ s₁ (mkF m 11 #[.val (.ref d1), .val (.ref q), .val (.int (0 : Int32))] [(.ref s0)])
  refine Go.st (fun _ h => XS.aloadN X0.here hx rfl (hb hby d_prog_85_method_13_code_11) rfl rfl h) ?_
  show Go p e below _ s₁ (mkF m 12 #[.val (.ref d1), .val (.ref q), .val (.int (0 : Int32))] [(.ref q), (.ref s0)])
  obtain ⟨T1, X1, e1, st1⟩ := own_still rfl rfl (Does.virtual (y := (⟨"java/lang/String", "equals", "(Ljava/lang/Object;)Z"⟩ : MethodName)) (g := (mkF m 12 #[.val (.ref d1), .val (.ref q), .val (.int (0 : Int32))] [(.ref q), (.ref s0)])) (a := s0) (rmEq l Z a0 hw s0 q ts0 tq ks0 kq l0 lq hl0 hlq h0 E_s0 C_s0 V_s0 E_q C_q V_q B_s0 B_q zc S_CS hzc ne0) X0 hx hZ hown e0 E_s0 (hw _ (List.mem_of_getElem? (i := 51) rfl)) (hw _ (List.mem_of_getElem? (i := 52) rfl)) (hw _ (List.mem_of_getElem? (i := 54) rfl)) (hw _ (List.mem_of_getElem? (i := 53) rfl)) (hw _ (List.mem_of_getElem? (i := 12) rfl)) (hw _ (List.mem_of_getElem? (i := 55) rfl)) (by decide) rfl (by rw [hml]; rfl) (argsL := [(.ref q)]) (rest := []) (lenOf pd_28Ljava2flang2fObject3b29Z rfl) rfl (hb hby d_prog_85_method_13_code_12) (W := 0) (by show 2 * 0 + _ ≤ _; exact Nat.le_of_eq rfl) (by decide) (by decide) (by decide) (by decide))
  refine Go.st st1 ?_
  show Go p e below _ T1 (mkF m 15 #[.val (.ref d1), .val (.ref q), .val (.int (0 : Int32))] [(.int (if l0 = lq then 1 else 0))])
  refine Go.st (fun _ h => XS.ifNo X1.here hx rfl (hb hby d_prog_85_method_13_code_15) rfl ((if0 _ _).trans (feq (by rw [if_pos hq0]; decide : ¬ ((if l0 = lq then 1 else 0) = (0 : Int32)))).1) h) ?_
  show Go p e below _ T1 (mkF m 18 #[.val (.ref d1), .val (.ref q), .val (.int (0 : Int32))] [])
  refine Go.st (fun _ h => XS.aloadN X1.here hx rfl (hb hby d_prog_85_method_13_code_18) rfl rfl h) ?_
  show Go p e below _ T1 (mkF m 19 #[.val (.ref d1), .val (.ref q), .val (.int (0 : Int32))] [(.ref d1)])
  refine Go.st (fun _ h => XS.iloadN X1.here hx rfl (hb hby d_prog_85_method_13_code_19) rfl h) ?_
  show Go p e below _ T1 (mkF m 20 #[.val (.ref d1), .val (.ref q), .val (.int (0 : Int32))] [(.int (0 : Int32)), (.ref d1)])
  refine Go.st (fun _ h => XT.iconstV X1.here hx rfl (1 : Int32) (hb hby d_prog_85_method_13_code_20) (by decide) h) ?_
  show Go p e below _ T1 (mkF m 21 #[.val (.ref d1), .val (.ref q), .val (.int (0 : Int32))] [(.int (1 : Int32)), (.int (0 : Int32)), (.ref d1)])
  refine Go.st (fun _ h => XS.iadd X1.here hx rfl (hb hby d_prog_85_method_13_code_21) rfl h) ?_
  show Go p e below _ T1 (mkF m 22 #[.val (.ref d1), .val (.ref q), .val (.int (0 : Int32))] [(.int ((0 : Int32) + (1 : Int32))), (.ref d1)])
  refine Go.st (own_ldR X1 hx hZ e1 B_d rfl (by decide) (by decide) rfl rfl rfl (hb hby d_prog_85_method_13_code_22)) ?_
  show Go p e below _ T1 (mkF m 23 #[.val (.ref d1), .val (.ref q), .val (.int (0 : Int32))] [(.ref u0)])
  refine Go.retA X1 hx hlk hret rfl rfl rfl (hb hby d_prog_85_method_13_code_23) (by decide) (by decide) ?_
  exact ⟨rfl, rfl, e1⟩
theorem ef_rmDecl1_n (x0 : Addr) (x1 : Addr) (m : MethodId) : entryFrame m #[(.ref x0), (.ref x1)] 3 = mkF m 0 #[.val (.ref x0), .val (.ref x1), .unset] [] := by first | (simp [entryFrame, mkF, argsToLocals, Value.category]; done) | rfl
set_option maxRecDepth 65536 in
set_option maxHeartbeats 40000000 in
theorem rmDecl1_n (l : Launch) (Z : State) (a0 : Array Value) (hw : ∀ d ∈ tables_1, d.before a0 Z = true) (d1 q tq : Addr) (kd kq : ClassId) (lq : List Int32) (hlq : lq.length ≤ 2) (s0 u0 ts0 : Addr) (ks0 : ClassId) (l0 : List Int32) (hl0 : l0.length ≤ 2) (ne0 : ¬ s0 = q) (h0 : Heap) (E_q : Exa Z h0 q "java/lang/String") (C_q : Fld Z h0 q "java/lang/String" "coder" "B" (.int (0 : Int32))) (V_q : Fld Z h0 q "java/lang/String" "value" "[B" (.ref tq)) (B_q : Arv Z h0 tq kq .byte (Int32.ofNat lq.length) (lq.map Value.int) (.int (0 : Int32))) (E_s0 : Exa Z h0 s0 "java/lang/String") (C_s0 : Fld Z h0 s0 "java/lang/String" "coder" "B" (.int (0 : Int32))) (V_s0 : Fld Z h0 s0 "java/lang/String" "value" "[B" (.ref ts0)) (B_s0 : Arv Z h0 ts0 ks0 .byte (Int32.ofNat l0.length) (l0.map Value.int) (.int (0 : Int32))) (B_d : Arv Z h0 d1 kd (.object "java/lang/String") (2 : Int32) [(.ref s0), (.ref u0)] .null) (zc : Int32) (S_CS : Sta Z h0 "java/lang/String" "COMPACT_STRINGS" "Z" (.int zc)) (hzc : ¬ zc = (0 : Int32)) (hq0 : ¬ l0 = lq) :
    Does l Z (⟨"com/example/tenon/tenon/core/XmlElement", "declared", "([Ljava/lang/String;Ljava/lang/String;)Ljava/lang/String;"⟩ : MethodName) prog_85_method_13_code 3 (some (.object "java/lang/String")) [] ({ frames := 2, cells := 0, slots := 0, locals := 28 } : Room) #[(.ref d1), (.ref q)] h0 (Val (some .null) h0) := by
  refine Does.intro (plainFor_of_name pn_com_example_tenon_tenon_core_XmlElement) (ef_rmDecl1_n d1 q) ?_
  intro p e s m below meth c s₁ hx hby hml hown hnm hret hlk hZ e0 X0
  show Go p e below _ s₁ (mkF m 0 #[.val (.ref d1), .val (.ref q), .unset] [])
  refine Go.st (fun _ h => XT.iconstV X0.here hx rfl (0 : Int32) (hb hby d_prog_85_method_13_code_0) (by decide) h) ?_
  show Go p e below _ s₁ (mkF m 1 #[.val (.ref d1), .val (.ref q), .unset] [(.int (0 : Int32))])
  refine Go.st (fun _ h => XS.istoreN X0.here hx rfl (hb hby d_prog_85_method_13_code_1) rfl (l' := #[.val (.ref d1), .val (.ref q), .val (.int (0 : Int32))]) rfl h) ?_
  show Go p e below _ s₁ (mkF m 2 #[.val (.ref d1), .val (.ref q), .val (.int (0 : Int32))] [])
  refine Go.st (fun _ h => XS.iloadN X0.here hx rfl (hb hby d_prog_85_method_13_code_2) rfl h) ?_
  show Go p e below _ s₁ (mkF m 3 #[.val (.ref d1), .val (.ref q), .val (.int (0 : Int32))] [(.int (0 : Int32))])
  refine Go.st (fun _ h => XS.aloadN X0.here hx rfl (hb hby d_prog_85_method_13_code_3) rfl rfl h) ?_
  show Go p e below _ s₁ (mkF m 4 #[.val (.ref d1), .val (.ref q), .val (.int (0 : Int32))] [(.ref d1), (.int (0 : Int32))])
  refine Go.st (own_len X0 hx hZ e0 B_d rfl rfl (hb hby d_prog_85_method_13_code_4)) ?_
  show Go p e below _ s₁ (mkF m 5 #[.val (.ref d1), .val (.ref q), .val (.int (0 : Int32))] [(.int (2 : Int32)), (.int (0 : Int32))])
  refine Go.st (fun _ h => XS.icmpNo X0.here hx rfl (hb hby d_prog_85_method_13_code_5) rfl (by decide) h) ?_
  show Go p e below _ s₁ (mkF m 8 #[.val (.ref d1), .val (.ref q), .val (.int (0 : Int32))] [])
  refine Go.st (fun _ h => XS.aloadN X0.here hx rfl (hb hby d_prog_85_method_13_code_8) rfl rfl h) ?_
  show Go p e below _ s₁ (mkF m 9 #[.val (.ref d1), .val (.ref q), .val (.int (0 : Int32))] [(.ref d1)])
  refine Go.st (fun _ h => XS.iloadN X0.here hx rfl (hb hby d_prog_85_method_13_code_9) rfl h) ?_
  show Go p e below _ s₁ (mkF m 10 #[.val (.ref d1), .val (.ref q), .val (.int (0 : Int32))] [(.int (0 : Int32)), (.ref d1)])
  refine Go.st (own_ldR X0 hx hZ e0 B_d rfl (by decide) (by decide) rfl rfl rfl (hb hby d_prog_85_method_13_code_10)) ?_
  show Go p e below _ s₁ (mkF m 11 #[.val (.ref d1), .val (.ref q), .val (.int (0 : Int32))] [(.ref s0)])
  refine Go.st (fun _ h => XS.aloadN X0.here hx rfl (hb hby d_prog_85_method_13_code_11) rfl rfl h) ?_
  show Go p e below _ s₁ (mkF m 12 #[.val (.ref d1), .val (.ref q), .val (.int (0 : Int32))] [(.ref q), (.ref s0)])
  obtain ⟨T1, X1, e1, st1⟩ := own_still rfl rfl (Does.virtual (y := (⟨"java/lang/String", "equals", "(Ljava/lang/Object;)Z"⟩ : MethodName)) (g := (mkF m 12 #[.val (.ref d1), .val (.ref q), .val (.int (0 : Int32))] [(.ref q), (.ref s0)])) (a := s0) (rmEq l Z a0 hw s0 q ts0 tq ks0 kq l0 lq hl0 hlq h0 E_s0 C_s0 V_s0 E_q C_q V_q B_s0 B_q zc S_CS hzc ne0) X0 hx hZ hown e0 E_s0 (hw _ (List.mem_of_getElem? (i := 51) rfl)) (hw _ (List.mem_of_getElem? (i := 52) rfl)) (hw _ (List.mem_of_getElem? (i := 54) rfl)) (hw _ (List.mem_of_getElem? (i := 53) rfl)) (hw _ (List.mem_of_getElem? (i := 12) rfl)) (hw _ (List.mem_of_getElem? (i := 55) rfl)) (by decide) rfl (by rw [hml]; rfl) (argsL := [(.ref q)]) (rest := []) (lenOf pd_28Ljava2flang2fObject3b29Z rfl) rfl (hb hby d_prog_85_method_13_code_12) (W := 0) (by show 2 * 0 + _ ≤ _; exact Nat.le_of_eq rfl) (by decide) (by decide) (by decide) (by decide))
  refine Go.st st1 ?_
  show Go p e below _ T1 (mkF m 15 #[.val (.ref d1), .val (.ref q), .val (.int (0 : Int32))] [(.int (if l0 = lq then 1 else 0))])
  refine Go.st (fun _ h => XS.ifYes X1.here hx rfl (pc0 := 15) (pc' := 24) rfl (hb hby d_prog_85_method_13_code_15) rfl ((if0 _ _).trans (teq (by rw [if_neg hq0] : (if l0 = lq then 1 else 0) = (0 : Int32))).1) (by decide) (by decide) h) ?_
  show Go p e below _ T1 (mkF m 24 #[.val (.ref d1), .val (.ref q), .val (.int (0 : Int32))] [])
  refine Go.st (fun _ h => XT.iincV X1.here hx rfl (2 : Int32) (hb hby d_prog_85_method_13_code_24) (by decide) rfl (l' := #[.val (.ref d1), .val (.ref q), .val (.int ((0 : Int32) + (2 : Int32)))]) rfl h) ?_
  show Go p e below _ T1 (mkF m 27 #[.val (.ref d1), .val (.ref q), .val (.int ((0 : Int32) + (2 : Int32)))] [])
  refine Go.st (fun _ h => XS.goto X1.here hx rfl (pc0 := 27) (pc' := 2) rfl (hb hby d_prog_85_method_13_code_27) (by decide) (by decide) h) ?_
  show Go p e below _ T1 (mkF m 2 #[.val (.ref d1), .val (.ref q), .val (.int ((0 : Int32) + (2 : Int32)))] [])
  refine Go.st (fun _ h => XS.iloadN X1.here hx rfl (hb hby d_prog_85_method_13_code_2) rfl h) ?_
  show Go p e below _ T1 (mkF m 3 #[.val (.ref d1), .val (.ref q), .val (.int ((0 : Int32) + (2 : Int32)))] [(.int ((0 : Int32) + (2 : Int32)))])
  refine Go.st (fun _ h => XS.aloadN X1.here hx rfl (hb hby d_prog_85_method_13_code_3) rfl rfl h) ?_
  show Go p e below _ T1 (mkF m 4 #[.val (.ref d1), .val (.ref q), .val (.int ((0 : Int32) + (2 : Int32)))] [(.ref d1), (.int ((0 : Int32) + (2 : Int32)))])
  refine Go.st (own_len X1 hx hZ e1 B_d rfl rfl (hb hby d_prog_85_method_13_code_4)) ?_
  show Go p e below _ T1 (mkF m 5 #[.val (.ref d1), .val (.ref q), .val (.int ((0 : Int32) + (2 : Int32)))] [(.int (2 : Int32)), (.int ((0 : Int32) + (2 : Int32)))])
  refine Go.st (fun _ h => XS.icmpYes X1.here hx rfl (pc0 := 5) (pc' := 30) rfl (hb hby d_prog_85_method_13_code_5) rfl (by decide) (by decide) (by decide) h) ?_
  show Go p e below _ T1 (mkF m 30 #[.val (.ref d1), .val (.ref q), .val (.int ((0 : Int32) + (2 : Int32)))] [])
  refine Go.st (fun _ h => XS.aconstNull X1.here hx rfl (hb hby d_prog_85_method_13_code_30) h) ?_
  show Go p e below _ T1 (mkF m 31 #[.val (.ref d1), .val (.ref q), .val (.int ((0 : Int32) + (2 : Int32)))] [.null])
  refine Go.retA X1 hx hlk hret rfl rfl rfl (hb hby d_prog_85_method_13_code_31) (by decide) (by decide) ?_
  exact ⟨rfl, rfl, e1⟩
theorem ef_rmDecl2_0 (x0 : Addr) (x1 : Addr) (m : MethodId) : entryFrame m #[(.ref x0), (.ref x1)] 3 = mkF m 0 #[.val (.ref x0), .val (.ref x1), .unset] [] := by first | (simp [entryFrame, mkF, argsToLocals, Value.category]; done) | rfl
set_option maxRecDepth 65536 in
set_option maxHeartbeats 40000000 in
theorem rmDecl2_0 (l : Launch) (Z : State) (a0 : Array Value) (hw : ∀ d ∈ tables_1, d.before a0 Z = true) (d1 q tq : Addr) (kd kq : ClassId) (lq : List Int32) (hlq : lq.length ≤ 2) (s0 u0 ts0 : Addr) (ks0 : ClassId) (l0 : List Int32) (hl0 : l0.length ≤ 2) (ne0 : ¬ s0 = q) (s1 u1 ts1 : Addr) (ks1 : ClassId) (l1 : List Int32) (hl1 : l1.length ≤ 2) (ne1 : ¬ s1 = q) (h0 : Heap) (E_q : Exa Z h0 q "java/lang/String") (C_q : Fld Z h0 q "java/lang/String" "coder" "B" (.int (0 : Int32))) (V_q : Fld Z h0 q "java/lang/String" "value" "[B" (.ref tq)) (B_q : Arv Z h0 tq kq .byte (Int32.ofNat lq.length) (lq.map Value.int) (.int (0 : Int32))) (E_s0 : Exa Z h0 s0 "java/lang/String") (C_s0 : Fld Z h0 s0 "java/lang/String" "coder" "B" (.int (0 : Int32))) (V_s0 : Fld Z h0 s0 "java/lang/String" "value" "[B" (.ref ts0)) (B_s0 : Arv Z h0 ts0 ks0 .byte (Int32.ofNat l0.length) (l0.map Value.int) (.int (0 : Int32))) (E_s1 : Exa Z h0 s1 "java/lang/String") (C_s1 : Fld Z h0 s1 "java/lang/String" "coder" "B" (.int (0 : Int32))) (V_s1 : Fld Z h0 s1 "java/lang/String" "value" "[B" (.ref ts1)) (B_s1 : Arv Z h0 ts1 ks1 .byte (Int32.ofNat l1.length) (l1.map Value.int) (.int (0 : Int32))) (B_d : Arv Z h0 d1 kd (.object "java/lang/String") (4 : Int32) [(.ref s0), (.ref u0), (.ref s1), (.ref u1)] .null) (zc : Int32) (S_CS : Sta Z h0 "java/lang/String" "COMPACT_STRINGS" "Z" (.int zc)) (hzc : ¬ zc = (0 : Int32)) (hq0 : l0 = lq) :
    Does l Z (⟨"com/example/tenon/tenon/core/XmlElement", "declared", "([Ljava/lang/String;Ljava/lang/String;)Ljava/lang/String;"⟩ : MethodName) prog_85_method_13_code 3 (some (.object "java/lang/String")) [] ({ frames := 2, cells := 0, slots := 0, locals := 28 } : Room) #[(.ref d1), (.ref q)] h0 (Val (some (.ref u0)) h0) := by
  refine Does.intro (plainFor_of_name pn_com_example_tenon_tenon_core_XmlElement) (ef_rmDecl2_0 d1 q) ?_
  intro p e s m below meth c s₁ hx hby hml hown hnm hret hlk hZ e0 X0
  show Go p e below _ s₁ (mkF m 0 #[.val (.ref d1), .val (.ref q), .unset] [])
  refine Go.st (fun _ h => XT.iconstV X0.here hx rfl (0 : Int32) (hb hby d_prog_85_method_13_code_0) (by decide) h) ?_
  show Go p e below _ s₁ (mkF m 1 #[.val (.ref d1), .val (.ref q), .unset] [(.int (0 : Int32))])
  refine Go.st (fun _ h => XS.istoreN X0.here hx rfl (hb hby d_prog_85_method_13_code_1) rfl (l' := #[.val (.ref d1), .val (.ref q), .val (.int (0 : Int32))]) rfl h) ?_
  show Go p e below _ s₁ (mkF m 2 #[.val (.ref d1), .val (.ref q), .val (.int (0 : Int32))] [])
  refine Go.st (fun _ h => XS.iloadN X0.here hx rfl (hb hby d_prog_85_method_13_code_2) rfl h) ?_
  show Go p e below _ s₁ (mkF m 3 #[.val (.ref d1), .val (.ref q), .val (.int (0 : Int32))] [(.int (0 : Int32))])
  refine Go.st (fun _ h => XS.aloadN X0.here hx rfl (hb hby d_prog_85_method_13_code_3) rfl rfl h) ?_
  show Go p e below _ s₁ (mkF m 4 #[.val (.ref d1), .val (.ref q), .val (.int (0 : Int32))] [(.ref d1), (.int (0 : Int32))])
  refine Go.st (own_len X0 hx hZ e0 B_d rfl rfl (hb hby d_prog_85_method_13_code_4)) ?_
  show Go p e below _ s₁ (mkF m 5 #[.val (.ref d1), .val (.ref q), .val (.int (0 : Int32))] [(.int (4 : Int32)), (.int (0 : Int32))])
  refine Go.st (fun _ h => XS.icmpNo X0.here hx rfl (hb hby d_prog_85_method_13_code_5) rfl (by decide) h) ?_
  show Go p e below _ s₁ (mkF m 8 #[.val (.ref d1), .val (.ref q), .val (.int (0 : Int32))] [])
  refine Go.st (fun _ h => XS.aloadN X0.here hx rfl (hb hby d_prog_85_method_13_code_8) rfl rfl h) ?_
  show Go p e below _ s₁ (mkF m 9 #[.val (.ref d1), .val (.ref q), .val (.int (0 : Int32))] [(.ref d1)])
  refine Go.st (fun _ h => XS.iloadN X0.here hx rfl (hb hby d_prog_85_method_13_code_9) rfl h) ?_
  show Go p e below _ s₁ (mkF m 10 #[.val (.ref d1), .val (.ref q), .val (.int (0 : Int32))] [(.int (0 : Int32)), (.ref d1)])
  refine Go.st (own_ldR X0 hx hZ e0 B_d rfl (by decide) (by decide) rfl rfl rfl (hb hby d_prog_85_method_13_code_10)) ?_
  show Go p e below _ s₁ (mkF m 11 #[.val (.ref d1), .val (.ref q), .val (.int (0 : Int32))] [(.ref s0)])
  refine Go.st (fun _ h => XS.aloadN X0.here hx rfl (hb hby d_prog_85_method_13_code_11) rfl rfl h) ?_
  show Go p e below _ s₁ (mkF m 12 #[.val (.ref d1), .val (.ref q), .val (.int (0 : Int32))] [(.ref q), (.ref s0)])
  obtain ⟨T1, X1, e1, st1⟩ := own_still rfl rfl (Does.virtual (y := (⟨"java/lang/String", "equals", "(Ljava/lang/Object;)Z"⟩ : MethodName)) (g := (mkF m 12 #[.val (.ref d1), .val (.ref q), .val (.int (0 : Int32))] [(.ref q), (.ref s0)])) (a := s0) (rmEq l Z a0 hw s0 q ts0 tq ks0 kq l0 lq hl0 hlq h0 E_s0 C_s0 V_s0 E_q C_q V_q B_s0 B_q zc S_CS hzc ne0) X0 hx hZ hown e0 E_s0 (hw _ (List.mem_of_getElem? (i := 51) rfl)) (hw _ (List.mem_of_getElem? (i := 52) rfl)) (hw _ (List.mem_of_getElem? (i := 54) rfl)) (hw _ (List.mem_of_getElem? (i := 53) rfl)) (hw _ (List.mem_of_getElem? (i := 12) rfl)) (hw _ (List.mem_of_getElem? (i := 55) rfl)) (by decide) rfl (by rw [hml]; rfl) (argsL := [(.ref q)]) (rest := []) (lenOf pd_28Ljava2flang2fObject3b29Z rfl) rfl (hb hby d_prog_85_method_13_code_12) (W := 0) (by show 2 * 0 + _ ≤ _; exact Nat.le_of_eq rfl) (by decide) (by decide) (by decide) (by decide))
  refine Go.st st1 ?_
  show Go p e below _ T1 (mkF m 15 #[.val (.ref d1), .val (.ref q), .val (.int (0 : Int32))] [(.int (if l0 = lq then 1 else 0))])
  refine Go.st (fun _ h => XS.ifNo X1.here hx rfl (hb hby d_prog_85_method_13_code_15) rfl ((if0 _ _).trans (feq (by rw [if_pos hq0]; decide : ¬ ((if l0 = lq then 1 else 0) = (0 : Int32)))).1) h) ?_
  show Go p e below _ T1 (mkF m 18 #[.val (.ref d1), .val (.ref q), .val (.int (0 : Int32))] [])
  refine Go.st (fun _ h => XS.aloadN X1.here hx rfl (hb hby d_prog_85_method_13_code_18) rfl rfl h) ?_
  show Go p e below _ T1 (mkF m 19 #[.val (.ref d1), .val (.ref q), .val (.int (0 : Int32))] [(.ref d1)])
  refine Go.st (fun _ h => XS.iloadN X1.here hx rfl (hb hby d_prog_85_method_13_code_19) rfl h) ?_
  show Go p e below _ T1 (mkF m 20 #[.val (.ref d1), .val (.ref q), .val (.int (0 : Int32))] [(.int (0 : Int32)), (.ref d1)])
  refine Go.st (fun _ h => XT.iconstV X1.here hx rfl (1 : Int32) (hb hby d_prog_85_method_13_code_20) (by decide) h) ?_
  show Go p e below _ T1 (mkF m 21 #[.val (.ref d1), .val (.ref q), .val (.int (0 : Int32))] [(.int (1 : Int32)), (.int (0 : Int32)), (.ref d1)])
  refine Go.st (fun _ h => XS.iadd X1.here hx rfl (hb hby d_prog_85_method_13_code_21) rfl h) ?_
  show Go p e below _ T1 (mkF m 22 #[.val (.ref d1), .val (.ref q), .val (.int (0 : Int32))] [(.int ((0 : Int32) + (1 : Int32))), (.ref d1)])
  refine Go.st (own_ldR X1 hx hZ e1 B_d rfl (by decide) (by decide) rfl rfl rfl (hb hby d_prog_85_method_13_code_22)) ?_
  show Go p e below _ T1 (mkF m 23 #[.val (.ref d1), .val (.ref q), .val (.int (0 : Int32))] [(.ref u0)])
  refine Go.retA X1 hx hlk hret rfl rfl rfl (hb hby d_prog_85_method_13_code_23) (by decide) (by decide) ?_
  exact ⟨rfl, rfl, e1⟩
theorem ef_rmDecl2_1 (x0 : Addr) (x1 : Addr) (m : MethodId) : entryFrame m #[(.ref x0), (.ref x1)] 3 = mkF m 0 #[.val (.ref x0), .val (.ref x1), .unset] [] := by first | (simp [entryFrame, mkF, argsToLocals, Value.category]; done) | rfl
set_option maxRecDepth 65536 in
set_option maxHeartbeats 40000000 in
theorem rmDecl2_1 (l : Launch) (Z : State) (a0 : Array Value) (hw : ∀ d ∈ tables_1, d.before a0 Z = true) (d1 q tq : Addr) (kd kq : ClassId) (lq : List Int32) (hlq : lq.length ≤ 2) (s0 u0 ts0 : Addr) (ks0 : ClassId) (l0 : List Int32) (hl0 : l0.length ≤ 2) (ne0 : ¬ s0 = q) (s1 u1 ts1 : Addr) (ks1 : ClassId) (l1 : List Int32) (hl1 : l1.length ≤ 2) (ne1 : ¬ s1 = q) (h0 : Heap) (E_q : Exa Z h0 q "java/lang/String") (C_q : Fld Z h0 q "java/lang/String" "coder" "B" (.int (0 : Int32))) (V_q : Fld Z h0 q "java/lang/String" "value" "[B" (.ref tq)) (B_q : Arv Z h0 tq kq .byte (Int32.ofNat lq.length) (lq.map Value.int) (.int (0 : Int32))) (E_s0 : Exa Z h0 s0 "java/lang/String") (C_s0 : Fld Z h0 s0 "java/lang/String" "coder" "B" (.int (0 : Int32))) (V_s0 : Fld Z h0 s0 "java/lang/String" "value" "[B" (.ref ts0)) (B_s0 : Arv Z h0 ts0 ks0 .byte (Int32.ofNat l0.length) (l0.map Value.int) (.int (0 : Int32))) (E_s1 : Exa Z h0 s1 "java/lang/String") (C_s1 : Fld Z h0 s1 "java/lang/String" "coder" "B" (.int (0 : Int32))) (V_s1 : Fld Z h0 s1 "java/lang/String" "value" "[B" (.ref ts1)) (B_s1 : Arv Z h0 ts1 ks1 .byte (Int32.ofNat l1.length) (l1.map Value.int) (.int (0 : Int32))) (B_d : Arv Z h0 d1 kd (.object "java/lang/String") (4 : Int32) [(.ref s0), (.ref u0), (.ref s1), (.ref u1)] .null) (zc : Int32) (S_CS : Sta Z h0 "java/lang/String" "COMPACT_STRINGS" "Z" (.int zc)) (hzc : ¬ zc = (0 : Int32)) (hq0 : ¬ l0 = lq) (hq1 : l1 = lq) :
    Does l Z (⟨"com/example/tenon/tenon/core/XmlElement", "declared", "([Ljava/lang/String;Ljava/lang/String;)Ljava/lang/String;"⟩ : MethodName) prog_85_method_13_code 3 (some (.object "java/lang/String")) [] ({ frames := 2, cells := 0, slots := 0, locals := 28 } : Room) #[(.ref d1), (.ref q)] h0 (Val (some (.ref u1)) h0) := by
  refine Does.intro (plainFor_of_name pn_com_example_tenon_tenon_core_XmlElement) (ef_rmDecl2_1 d1 q) ?_
  intro p e s m below meth c s₁ hx hby hml hown hnm hret hlk hZ e0 X0
  show Go p e below _ s₁ (mkF m 0 #[.val (.ref d1), .val (.ref q), .unset] [])
  refine Go.st (fun _ h => XT.iconstV X0.here hx rfl (0 : Int32) (hb hby d_prog_85_method_13_code_0) (by decide) h) ?_
  show Go p e below _ s₁ (mkF m 1 #[.val (.ref d1), .val (.ref q), .unset] [(.int (0 : Int32))])
  refine Go.st (fun _ h => XS.istoreN X0.here hx rfl (hb hby d_prog_85_method_13_code_1) rfl (l' := #[.val (.ref d1), .val (.ref q), .val (.int (0 : Int32))]) rfl h) ?_
  show Go p e below _ s₁ (mkF m 2 #[.val (.ref d1), .val (.ref q), .val (.int (0 : Int32))] [])
  refine Go.st (fun _ h => XS.iloadN X0.here hx rfl (hb hby d_prog_85_method_13_code_2) rfl h) ?_
  show Go p e below _ s₁ (mkF m 3 #[.val (.ref d1), .val (.ref q), .val (.int (0 : Int32))] [(.int (0 : Int32))])
  refine Go.st (fun _ h => XS.aloadN X0.here hx rfl (hb hby d_prog_85_method_13_code_3) rfl rfl h) ?_
  show Go p e below _ s₁ (mkF m 4 #[.val (.ref d1), .val (.ref q), .val (.int (0 : Int32))] [(.ref d1), (.int (0 : Int32))])
  refine Go.st (own_len X0 hx hZ e0 B_d rfl rfl (hb hby d_prog_85_method_13_code_4)) ?_
  show Go p e below _ s₁ (mkF m 5 #[.val (.ref d1), .val (.ref q), .val (.int (0 : Int32))] [(.int (4 : Int32)), (.int (0 : Int32))])
  refine Go.st (fun _ h => XS.icmpNo X0.here hx rfl (hb hby d_prog_85_method_13_code_5) rfl (by decide) h) ?_
  show Go p e below _ s₁ (mkF m 8 #[.val (.ref d1), .val (.ref q), .val (.int (0 : Int32))] [])
  refine Go.st (fun _ h => XS.aloadN X0.here hx rfl (hb hby d_prog_85_method_13_code_8) rfl rfl h) ?_
  show Go p e below _ s₁ (mkF m 9 #[.val (.ref d1), .val (.ref q), .val (.int (0 : Int32))] [(.ref d1)])
  refine Go.st (fun _ h => XS.iloadN X0.here hx rfl (hb hby d_prog_85_method_13_code_9) rfl h) ?_
  show Go p e below _ s₁ (mkF m 10 #[.val (.ref d1), .val (.ref q), .val (.int (0 : Int32))] [(.int (0 : Int32)), (.ref d1)])
  refine Go.st (own_ldR X0 hx hZ e0 B_d rfl (by decide) (by decide) rfl rfl rfl (hb hby d_prog_85_method_13_code_10)) ?_
  show Go p e below _ s₁ (mkF m 11 #[.val (.ref d1), .val (.ref q), .val (.int (0 : Int32))] [(.ref s0)])
  refine Go.st (fun _ h => XS.aloadN X0.here hx rfl (hb hby d_prog_85_method_13_code_11) rfl rfl h) ?_
  show Go p e below _ s₁ (mkF m 12 #[.val (.ref d1), .val (.ref q), .val (.int (0 : Int32))] [(.ref q), (.ref s0)])
  obtain ⟨T1, X1, e1, st1⟩ := own_still rfl rfl (Does.virtual (y := (⟨"java/lang/String", "equals", "(Ljava/lang/Object;)Z"⟩ : MethodName)) (g := (mkF m 12 #[.val (.ref d1), .val (.ref q), .val (.int (0 : Int32))] [(.ref q), (.ref s0)])) (a := s0) (rmEq l Z a0 hw s0 q ts0 tq ks0 kq l0 lq hl0 hlq h0 E_s0 C_s0 V_s0 E_q C_q V_q B_s0 B_q zc S_CS hzc ne0) X0 hx hZ hown e0 E_s0 (hw _ (List.mem_of_getElem? (i := 51) rfl)) (hw _ (List.mem_of_getElem? (i := 52) rfl)) (hw _ (List.mem_of_getElem? (i := 54) rfl)) (hw _ (List.mem_of_getElem? (i := 53) rfl)) (hw _ (List.mem_of_getElem? (i := 12) rfl)) (hw _ (List.mem_of_getElem? (i := 55) rfl)) (by decide) rfl (by rw [hml]; rfl) (argsL := [(.ref q)]) (rest := []) (lenOf pd_28Ljava2flang2fObject3b29Z rfl) rfl (hb hby d_prog_85_method_13_code_12) (W := 0) (by show 2 * 0 + _ ≤ _; exact Nat.le_of_eq rfl) (by decide) (by decide) (by decide) (by decide))
  refine Go.st st1 ?_
  show Go p e below _ T1 (mkF m 15 #[.val (.ref d1), .val (.ref q), .val (.int (0 : Int32))] [(.int (if l0 = lq then 1 else 0))])
  refine Go.st (fun _ h => XS.ifYes X1.here hx rfl (pc0 := 15) (pc' := 24) rfl (hb hby d_prog_85_method_13_code_15) rfl ((if0 _ _).trans (teq (by rw [if_neg hq0] : (if l0 = lq then 1 else 0) = (0 : Int32))).1) (by decide) (by decide) h) ?_
  show Go p e below _ T1 (mkF m 24 #[.val (.ref d1), .val (.ref q), .val (.int (0 : Int32))] [])
  refine Go.st (fun _ h => XT.iincV X1.here hx rfl (2 : Int32) (hb hby d_prog_85_method_13_code_24) (by decide) rfl (l' := #[.val (.ref d1), .val (.ref q), .val (.int ((0 : Int32) + (2 : Int32)))]) rfl h) ?_
  show Go p e below _ T1 (mkF m 27 #[.val (.ref d1), .val (.ref q), .val (.int ((0 : Int32) + (2 : Int32)))] [])
  refine Go.st (fun _ h => XS.goto X1.here hx rfl (pc0 := 27) (pc' := 2) rfl (hb hby d_prog_85_method_13_code_27) (by decide) (by decide) h) ?_
  show Go p e below _ T1 (mkF m 2 #[.val (.ref d1), .val (.ref q), .val (.int ((0 : Int32) + (2 : Int32)))] [])
  refine Go.st (fun _ h => XS.iloadN X1.here hx rfl (hb hby d_prog_85_method_13_code_2) rfl h) ?_
  show Go p e below _ T1 (mkF m 3 #[.val (.ref d1), .val (.ref q), .val (.int ((0 : Int32) + (2 : Int32)))] [(.int ((0 : Int32) + (2 : Int32)))])
  refine Go.st (fun _ h => XS.aloadN X1.here hx rfl (hb hby d_prog_85_method_13_code_3) rfl rfl h) ?_
  show Go p e below _ T1 (mkF m 4 #[.val (.ref d1), .val (.ref q), .val (.int ((0 : Int32) + (2 : Int32)))] [(.ref d1), (.int ((0 : Int32) + (2 : Int32)))])
  refine Go.st (own_len X1 hx hZ e1 B_d rfl rfl (hb hby d_prog_85_method_13_code_4)) ?_
  show Go p e below _ T1 (mkF m 5 #[.val (.ref d1), .val (.ref q), .val (.int ((0 : Int32) + (2 : Int32)))] [(.int (4 : Int32)), (.int ((0 : Int32) + (2 : Int32)))])
  refine Go.st (fun _ h => XS.icmpNo X1.here hx rfl (hb hby d_prog_85_method_13_code_5) rfl (by decide) h) ?_
  show Go p e below _ T1 (mkF m 8 #[.val (.ref d1), .val (.ref q), .val (.int ((0 : Int32) + (2 : Int32)))] [])
  refine Go.st (fun _ h => XS.aloadN X1.here hx rfl (hb hby d_prog_85_method_13_code_8) rfl rfl h) ?_
  show Go p e below _ T1 (mkF m 9 #[.val (.ref d1), .val (.ref q), .val (.int ((0 : Int32) + (2 : Int32)))] [(.ref d1)])
  refine Go.st (fun _ h => XS.iloadN X1.here hx rfl (hb hby d_prog_85_method_13_code_9) rfl h) ?_
  show Go p e below _ T1 (mkF m 10 #[.val (.ref d1), .val (.ref q), .val (.int ((0 : Int32) + (2 : Int32)))] [(.int ((0 : Int32) + (2 : Int32))), (.ref d1)])
  refine Go.st (own_ldR X1 hx hZ e1 B_d rfl (by decide) (by decide) rfl rfl rfl (hb hby d_prog_85_method_13_code_10)) ?_
  show Go p e below _ T1 (mkF m 11 #[.val (.ref d1), .val (.ref q), .val (.int ((0 : Int32) + (2 : Int32)))] [(.ref s1)])
  refine Go.st (fun _ h => XS.aloadN X1.here hx rfl (hb hby d_prog_85_method_13_code_11) rfl rfl h) ?_
  show Go p e below _ T1 (mkF m 12 #[.val (.ref d1), .val (.ref q), .val (.int ((0 : Int32) + (2 : Int32)))] [(.ref q), (.ref s1)])
  obtain ⟨T2, X2, e2, st2⟩ := own_still rfl rfl (Does.virtual (y := (⟨"java/lang/String", "equals", "(Ljava/lang/Object;)Z"⟩ : MethodName)) (g := (mkF m 12 #[.val (.ref d1), .val (.ref q), .val (.int ((0 : Int32) + (2 : Int32)))] [(.ref q), (.ref s1)])) (a := s1) (rmEq l Z a0 hw s1 q ts1 tq ks1 kq l1 lq hl1 hlq h0 E_s1 C_s1 V_s1 E_q C_q V_q B_s1 B_q zc S_CS hzc ne1) X1 hx hZ hown e1 E_s1 (hw _ (List.mem_of_getElem? (i := 51) rfl)) (hw _ (List.mem_of_getElem? (i := 52) rfl)) (hw _ (List.mem_of_getElem? (i := 54) rfl)) (hw _ (List.mem_of_getElem? (i := 53) rfl)) (hw _ (List.mem_of_getElem? (i := 12) rfl)) (hw _ (List.mem_of_getElem? (i := 55) rfl)) (by decide) rfl (by rw [hml]; rfl) (argsL := [(.ref q)]) (rest := []) (lenOf pd_28Ljava2flang2fObject3b29Z rfl) rfl (hb hby d_prog_85_method_13_code_12) (W := 0) (by show 2 * 0 + _ ≤ _; exact Nat.le_of_eq rfl) (by decide) (by decide) (by decide) (by decide))
  refine Go.st st2 ?_
  show Go p e below _ T2 (mkF m 15 #[.val (.ref d1), .val (.ref q), .val (.int ((0 : Int32) + (2 : Int32)))] [(.int (if l1 = lq then 1 else 0))])
  refine Go.st (fun _ h => XS.ifNo X2.here hx rfl (hb hby d_prog_85_method_13_code_15) rfl ((if0 _ _).trans (feq (by rw [if_pos hq1]; decide : ¬ ((if l1 = lq then 1 else 0) = (0 : Int32)))).1) h) ?_
  show Go p e below _ T2 (mkF m 18 #[.val (.ref d1), .val (.ref q), .val (.int ((0 : Int32) + (2 : Int32)))] [])
  refine Go.st (fun _ h => XS.aloadN X2.here hx rfl (hb hby d_prog_85_method_13_code_18) rfl rfl h) ?_
  show Go p e below _ T2 (mkF m 19 #[.val (.ref d1), .val (.ref q), .val (.int ((0 : Int32) + (2 : Int32)))] [(.ref d1)])
  refine Go.st (fun _ h => XS.iloadN X2.here hx rfl (hb hby d_prog_85_method_13_code_19) rfl h) ?_
  show Go p e below _ T2 (mkF m 20 #[.val (.ref d1), .val (.ref q), .val (.int ((0 : Int32) + (2 : Int32)))] [(.int ((0 : Int32) + (2 : Int32))), (.ref d1)])
  refine Go.st (fun _ h => XT.iconstV X2.here hx rfl (1 : Int32) (hb hby d_prog_85_method_13_code_20) (by decide) h) ?_
  show Go p e below _ T2 (mkF m 21 #[.val (.ref d1), .val (.ref q), .val (.int ((0 : Int32) + (2 : Int32)))] [(.int (1 : Int32)), (.int ((0 : Int32) + (2 : Int32))), (.ref d1)])
  refine Go.st (fun _ h => XS.iadd X2.here hx rfl (hb hby d_prog_85_method_13_code_21) rfl h) ?_
  show Go p e below _ T2 (mkF m 22 #[.val (.ref d1), .val (.ref q), .val (.int ((0 : Int32) + (2 : Int32)))] [(.int (((0 : Int32) + (2 : Int32)) + (1 : Int32))), (.ref d1)])
  refine Go.st (own_ldR X2 hx hZ e2 B_d rfl (by decide) (by decide) rfl rfl rfl (hb hby d_prog_85_method_13_code_22)) ?_
  show Go p e below _ T2 (mkF m 23 #[.val (.ref d1), .val (.ref q), .val (.int ((0 : Int32) + (2 : Int32)))] [(.ref u1)])
  refine Go.retA X2 hx hlk hret rfl rfl rfl (hb hby d_prog_85_method_13_code_23) (by decide) (by decide) ?_
  exact ⟨rfl, rfl, e2⟩
theorem ef_rmDecl2_n (x0 : Addr) (x1 : Addr) (m : MethodId) : entryFrame m #[(.ref x0), (.ref x1)] 3 = mkF m 0 #[.val (.ref x0), .val (.ref x1), .unset] [] := by first | (simp [entryFrame, mkF, argsToLocals, Value.category]; done) | rfl
set_option maxRecDepth 65536 in
set_option maxHeartbeats 40000000 in
theorem rmDecl2_n (l : Launch) (Z : State) (a0 : Array Value) (hw : ∀ d ∈ tables_1, d.before a0 Z = true) (d1 q tq : Addr) (kd kq : ClassId) (lq : List Int32) (hlq : lq.length ≤ 2) (s0 u0 ts0 : Addr) (ks0 : ClassId) (l0 : List Int32) (hl0 : l0.length ≤ 2) (ne0 : ¬ s0 = q) (s1 u1 ts1 : Addr) (ks1 : ClassId) (l1 : List Int32) (hl1 : l1.length ≤ 2) (ne1 : ¬ s1 = q) (h0 : Heap) (E_q : Exa Z h0 q "java/lang/String") (C_q : Fld Z h0 q "java/lang/String" "coder" "B" (.int (0 : Int32))) (V_q : Fld Z h0 q "java/lang/String" "value" "[B" (.ref tq)) (B_q : Arv Z h0 tq kq .byte (Int32.ofNat lq.length) (lq.map Value.int) (.int (0 : Int32))) (E_s0 : Exa Z h0 s0 "java/lang/String") (C_s0 : Fld Z h0 s0 "java/lang/String" "coder" "B" (.int (0 : Int32))) (V_s0 : Fld Z h0 s0 "java/lang/String" "value" "[B" (.ref ts0)) (B_s0 : Arv Z h0 ts0 ks0 .byte (Int32.ofNat l0.length) (l0.map Value.int) (.int (0 : Int32))) (E_s1 : Exa Z h0 s1 "java/lang/String") (C_s1 : Fld Z h0 s1 "java/lang/String" "coder" "B" (.int (0 : Int32))) (V_s1 : Fld Z h0 s1 "java/lang/String" "value" "[B" (.ref ts1)) (B_s1 : Arv Z h0 ts1 ks1 .byte (Int32.ofNat l1.length) (l1.map Value.int) (.int (0 : Int32))) (B_d : Arv Z h0 d1 kd (.object "java/lang/String") (4 : Int32) [(.ref s0), (.ref u0), (.ref s1), (.ref u1)] .null) (zc : Int32) (S_CS : Sta Z h0 "java/lang/String" "COMPACT_STRINGS" "Z" (.int zc)) (hzc : ¬ zc = (0 : Int32)) (hq0 : ¬ l0 = lq) (hq1 : ¬ l1 = lq) :
    Does l Z (⟨"com/example/tenon/tenon/core/XmlElement", "declared", "([Ljava/lang/String;Ljava/lang/String;)Ljava/lang/String;"⟩ : MethodName) prog_85_method_13_code 3 (some (.object "java/lang/String")) [] ({ frames := 2, cells := 0, slots := 0, locals := 28 } : Room) #[(.ref d1), (.ref q)] h0 (Val (some .null) h0) := by
  refine Does.intro (plainFor_of_name pn_com_example_tenon_tenon_core_XmlElement) (ef_rmDecl2_n d1 q) ?_
  intro p e s m below meth c s₁ hx hby hml hown hnm hret hlk hZ e0 X0
  show Go p e below _ s₁ (mkF m 0 #[.val (.ref d1), .val (.ref q), .unset] [])
  refine Go.st (fun _ h => XT.iconstV X0.here hx rfl (0 : Int32) (hb hby d_prog_85_method_13_code_0) (by decide) h) ?_
  show Go p e below _ s₁ (mkF m 1 #[.val (.ref d1), .val (.ref q), .unset] [(.int (0 : Int32))])
  refine Go.st (fun _ h => XS.istoreN X0.here hx rfl (hb hby d_prog_85_method_13_code_1) rfl (l' := #[.val (.ref d1), .val (.ref q), .val (.int (0 : Int32))]) rfl h) ?_
  show Go p e below _ s₁ (mkF m 2 #[.val (.ref d1), .val (.ref q), .val (.int (0 : Int32))] [])
  refine Go.st (fun _ h => XS.iloadN X0.here hx rfl (hb hby d_prog_85_method_13_code_2) rfl h) ?_
  show Go p e below _ s₁ (mkF m 3 #[.val (.ref d1), .val (.ref q), .val (.int (0 : Int32))] [(.int (0 : Int32))])
  refine Go.st (fun _ h => XS.aloadN X0.here hx rfl (hb hby d_prog_85_method_13_code_3) rfl rfl h) ?_
  show Go p e below _ s₁ (mkF m 4 #[.val (.ref d1), .val (.ref q), .val (.int (0 : Int32))] [(.ref d1), (.int (0 : Int32))])
  refine Go.st (own_len X0 hx hZ e0 B_d rfl rfl (hb hby d_prog_85_method_13_code_4)) ?_
  show Go p e below _ s₁ (mkF m 5 #[.val (.ref d1), .val (.ref q), .val (.int (0 : Int32))] [(.int (4 : Int32)), (.int (0 : Int32))])
  refine Go.st (fun _ h => XS.icmpNo X0.here hx rfl (hb hby d_prog_85_method_13_code_5) rfl (by decide) h) ?_
  show Go p e below _ s₁ (mkF m 8 #[.val (.ref d1), .val (.ref q), .val (.int (0 : Int32))] [])
  refine Go.st (fun _ h => XS.aloadN X0.here hx rfl (hb hby d_prog_85_method_13_code_8) rfl rfl h) ?_
  show Go p e below _ s₁ (mkF m 9 #[.val (.ref d1), .val (.ref q), .val (.int (0 : Int32))] [(.ref d1)])
  refine Go.st (fun _ h => XS.iloadN X0.here hx rfl (hb hby d_prog_85_method_13_code_9) rfl h) ?_
  show Go p e below _ s₁ (mkF m 10 #[.val (.ref d1), .val (.ref q), .val (.int (0 : Int32))] [(.int (0 : Int32)), (.ref d1)])
  refine Go.st (own_ldR X0 hx hZ e0 B_d rfl (by decide) (by decide) rfl rfl rfl (hb hby d_prog_85_method_13_code_10)) ?_
  show Go p e below _ s₁ (mkF m 11 #[.val (.ref d1), .val (.ref q), .val (.int (0 : Int32))] [(.ref s0)])
  refine Go.st (fun _ h => XS.aloadN X0.here hx rfl (hb hby d_prog_85_method_13_code_11) rfl rfl h) ?_
  show Go p e below _ s₁ (mkF m 12 #[.val (.ref d1), .val (.ref q), .val (.int (0 : Int32))] [(.ref q), (.ref s0)])
  obtain ⟨T1, X1, e1, st1⟩ := own_still rfl rfl (Does.virtual (y := (⟨"java/lang/String", "equals", "(Ljava/lang/Object;)Z"⟩ : MethodName)) (g := (mkF m 12 #[.val (.ref d1), .val (.ref q), .val (.int (0 : Int32))] [(.ref q), (.ref s0)])) (a := s0) (rmEq l Z a0 hw s0 q ts0 tq ks0 kq l0 lq hl0 hlq h0 E_s0 C_s0 V_s0 E_q C_q V_q B_s0 B_q zc S_CS hzc ne0) X0 hx hZ hown e0 E_s0 (hw _ (List.mem_of_getElem? (i := 51) rfl)) (hw _ (List.mem_of_getElem? (i := 52) rfl)) (hw _ (List.mem_of_getElem? (i := 54) rfl)) (hw _ (List.mem_of_getElem? (i := 53) rfl)) (hw _ (List.mem_of_getElem? (i := 12) rfl)) (hw _ (List.mem_of_getElem? (i := 55) rfl)) (by decide) rfl (by rw [hml]; rfl) (argsL := [(.ref q)]) (rest := []) (lenOf pd_28Ljava2flang2fObject3b29Z rfl) rfl (hb hby d_prog_85_method_13_code_12) (W := 0) (by show 2 * 0 + _ ≤ _; exact Nat.le_of_eq rfl) (by decide) (by decide) (by decide) (by decide))
  refine Go.st st1 ?_
  show Go p e below _ T1 (mkF m 15 #[.val (.ref d1), .val (.ref q), .val (.int (0 : Int32))] [(.int (if l0 = lq then 1 else 0))])
  refine Go.st (fun _ h => XS.ifYes X1.here hx rfl (pc0 := 15) (pc' := 24) rfl (hb hby d_prog_85_method_13_code_15) rfl ((if0 _ _).trans (teq (by rw [if_neg hq0] : (if l0 = lq then 1 else 0) = (0 : Int32))).1) (by decide) (by decide) h) ?_
  show Go p e below _ T1 (mkF m 24 #[.val (.ref d1), .val (.ref q), .val (.int (0 : Int32))] [])
  refine Go.st (fun _ h => XT.iincV X1.here hx rfl (2 : Int32) (hb hby d_prog_85_method_13_code_24) (by decide) rfl (l' := #[.val (.ref d1), .val (.ref q), .val (.int ((0 : Int32) + (2 : Int32)))]) rfl h) ?_
  show Go p e below _ T1 (mkF m 27 #[.val (.ref d1), .val (.ref q), .val (.int ((0 : Int32) + (2 : Int32)))] [])
  refine Go.st (fun _ h => XS.goto X1.here hx rfl (pc0 := 27) (pc' := 2) rfl (hb hby d_prog_85_method_13_code_27) (by decide) (by decide) h) ?_
  show Go p e below _ T1 (mkF m 2 #[.val (.ref d1), .val (.ref q), .val (.int ((0 : Int32) + (2 : Int32)))] [])
  refine Go.st (fun _ h => XS.iloadN X1.here hx rfl (hb hby d_prog_85_method_13_code_2) rfl h) ?_
  show Go p e below _ T1 (mkF m 3 #[.val (.ref d1), .val (.ref q), .val (.int ((0 : Int32) + (2 : Int32)))] [(.int ((0 : Int32) + (2 : Int32)))])
  refine Go.st (fun _ h => XS.aloadN X1.here hx rfl (hb hby d_prog_85_method_13_code_3) rfl rfl h) ?_
  show Go p e below _ T1 (mkF m 4 #[.val (.ref d1), .val (.ref q), .val (.int ((0 : Int32) + (2 : Int32)))] [(.ref d1), (.int ((0 : Int32) + (2 : Int32)))])
  refine Go.st (own_len X1 hx hZ e1 B_d rfl rfl (hb hby d_prog_85_method_13_code_4)) ?_
  show Go p e below _ T1 (mkF m 5 #[.val (.ref d1), .val (.ref q), .val (.int ((0 : Int32) + (2 : Int32)))] [(.int (4 : Int32)), (.int ((0 : Int32) + (2 : Int32)))])
  refine Go.st (fun _ h => XS.icmpNo X1.here hx rfl (hb hby d_prog_85_method_13_code_5) rfl (by decide) h) ?_
  show Go p e below _ T1 (mkF m 8 #[.val (.ref d1), .val (.ref q), .val (.int ((0 : Int32) + (2 : Int32)))] [])
  refine Go.st (fun _ h => XS.aloadN X1.here hx rfl (hb hby d_prog_85_method_13_code_8) rfl rfl h) ?_
  show Go p e below _ T1 (mkF m 9 #[.val (.ref d1), .val (.ref q), .val (.int ((0 : Int32) + (2 : Int32)))] [(.ref d1)])
  refine Go.st (fun _ h => XS.iloadN X1.here hx rfl (hb hby d_prog_85_method_13_code_9) rfl h) ?_
  show Go p e below _ T1 (mkF m 10 #[.val (.ref d1), .val (.ref q), .val (.int ((0 : Int32) + (2 : Int32)))] [(.int ((0 : Int32) + (2 : Int32))), (.ref d1)])
  refine Go.st (own_ldR X1 hx hZ e1 B_d rfl (by decide) (by decide) rfl rfl rfl (hb hby d_prog_85_method_13_code_10)) ?_
  show Go p e below _ T1 (mkF m 11 #[.val (.ref d1), .val (.ref q), .val (.int ((0 : Int32) + (2 : Int32)))] [(.ref s1)])
  refine Go.st (fun _ h => XS.aloadN X1.here hx rfl (hb hby d_prog_85_method_13_code_11) rfl rfl h) ?_
  show Go p e below _ T1 (mkF m 12 #[.val (.ref d1), .val (.ref q), .val (.int ((0 : Int32) + (2 : Int32)))] [(.ref q), (.ref s1)])
  obtain ⟨T2, X2, e2, st2⟩ := own_still rfl rfl (Does.virtual (y := (⟨"java/lang/String", "equals", "(Ljava/lang/Object;)Z"⟩ : MethodName)) (g := (mkF m 12 #[.val (.ref d1), .val (.ref q), .val (.int ((0 : Int32) + (2 : Int32)))] [(.ref q), (.ref s1)])) (a := s1) (rmEq l Z a0 hw s1 q ts1 tq ks1 kq l1 lq hl1 hlq h0 E_s1 C_s1 V_s1 E_q C_q V_q B_s1 B_q zc S_CS hzc ne1) X1 hx hZ hown e1 E_s1 (hw _ (List.mem_of_getElem? (i := 51) rfl)) (hw _ (List.mem_of_getElem? (i := 52) rfl)) (hw _ (List.mem_of_getElem? (i := 54) rfl)) (hw _ (List.mem_of_getElem? (i := 53) rfl)) (hw _ (List.mem_of_getElem? (i := 12) rfl)) (hw _ (List.mem_of_getElem? (i := 55) rfl)) (by decide) rfl (by rw [hml]; rfl) (argsL := [(.ref q)]) (rest := []) (lenOf pd_28Ljava2flang2fObject3b29Z rfl) rfl (hb hby d_prog_85_method_13_code_12) (W := 0) (by show 2 * 0 + _ ≤ _; exact Nat.le_of_eq rfl) (by decide) (by decide) (by decide) (by decide))
  refine Go.st st2 ?_
  show Go p e below _ T2 (mkF m 15 #[.val (.ref d1), .val (.ref q), .val (.int ((0 : Int32) + (2 : Int32)))] [(.int (if l1 = lq then 1 else 0))])
  refine Go.st (fun _ h => XS.ifYes X2.here hx rfl (pc0 := 15) (pc' := 24) rfl (hb hby d_prog_85_method_13_code_15) rfl ((if0 _ _).trans (teq (by rw [if_neg hq1] : (if l1 = lq then 1 else 0) = (0 : Int32))).1) (by decide) (by decide) h) ?_
  show Go p e below _ T2 (mkF m 24 #[.val (.ref d1), .val (.ref q), .val (.int ((0 : Int32) + (2 : Int32)))] [])
  refine Go.st (fun _ h => XT.iincV X2.here hx rfl (2 : Int32) (hb hby d_prog_85_method_13_code_24) (by decide) rfl (l' := #[.val (.ref d1), .val (.ref q), .val (.int (((0 : Int32) + (2 : Int32)) + (2 : Int32)))]) rfl h) ?_
  show Go p e below _ T2 (mkF m 27 #[.val (.ref d1), .val (.ref q), .val (.int (((0 : Int32) + (2 : Int32)) + (2 : Int32)))] [])
  refine Go.st (fun _ h => XS.goto X2.here hx rfl (pc0 := 27) (pc' := 2) rfl (hb hby d_prog_85_method_13_code_27) (by decide) (by decide) h) ?_
  show Go p e below _ T2 (mkF m 2 #[.val (.ref d1), .val (.ref q), .val (.int (((0 : Int32) + (2 : Int32)) + (2 : Int32)))] [])
  refine Go.st (fun _ h => XS.iloadN X2.here hx rfl (hb hby d_prog_85_method_13_code_2) rfl h) ?_
  show Go p e below _ T2 (mkF m 3 #[.val (.ref d1), .val (.ref q), .val (.int (((0 : Int32) + (2 : Int32)) + (2 : Int32)))] [(.int (((0 : Int32) + (2 : Int32)) + (2 : Int32)))])
  refine Go.st (fun _ h => XS.aloadN X2.here hx rfl (hb hby d_prog_85_method_13_code_3) rfl rfl h) ?_
  show Go p e below _ T2 (mkF m 4 #[.val (.ref d1), .val (.ref q), .val (.int (((0 : Int32) + (2 : Int32)) + (2 : Int32)))] [(.ref d1), (.int (((0 : Int32) + (2 : Int32)) + (2 : Int32)))])
  refine Go.st (own_len X2 hx hZ e2 B_d rfl rfl (hb hby d_prog_85_method_13_code_4)) ?_
  show Go p e below _ T2 (mkF m 5 #[.val (.ref d1), .val (.ref q), .val (.int (((0 : Int32) + (2 : Int32)) + (2 : Int32)))] [(.int (4 : Int32)), (.int (((0 : Int32) + (2 : Int32)) + (2 : Int32)))])
  refine Go.st (fun _ h => XS.icmpYes X2.here hx rfl (pc0 := 5) (pc' := 30) rfl (hb hby d_prog_85_method_13_code_5) rfl (by decide) (by decide) (by decide) h) ?_
  show Go p e below _ T2 (mkF m 30 #[.val (.ref d1), .val (.ref q), .val (.int (((0 : Int32) + (2 : Int32)) + (2 : Int32)))] [])
  refine Go.st (fun _ h => XS.aconstNull X2.here hx rfl (hb hby d_prog_85_method_13_code_30) h) ?_
  show Go p e below _ T2 (mkF m 31 #[.val (.ref d1), .val (.ref q), .val (.int (((0 : Int32) + (2 : Int32)) + (2 : Int32)))] [.null])
  refine Go.retA X2 hx hlk hret rfl rfl rfl (hb hby d_prog_85_method_13_code_31) (by decide) (by decide) ?_
  exact ⟨rfl, rfl, e2⟩
theorem ef_rmDecl3_0 (x0 : Addr) (x1 : Addr) (m : MethodId) : entryFrame m #[(.ref x0), (.ref x1)] 3 = mkF m 0 #[.val (.ref x0), .val (.ref x1), .unset] [] := by first | (simp [entryFrame, mkF, argsToLocals, Value.category]; done) | rfl
set_option maxRecDepth 65536 in
set_option maxHeartbeats 40000000 in
theorem rmDecl3_0 (l : Launch) (Z : State) (a0 : Array Value) (hw : ∀ d ∈ tables_1, d.before a0 Z = true) (d1 q tq : Addr) (kd kq : ClassId) (lq : List Int32) (hlq : lq.length ≤ 2) (s0 u0 ts0 : Addr) (ks0 : ClassId) (l0 : List Int32) (hl0 : l0.length ≤ 2) (ne0 : ¬ s0 = q) (s1 u1 ts1 : Addr) (ks1 : ClassId) (l1 : List Int32) (hl1 : l1.length ≤ 2) (ne1 : ¬ s1 = q) (s2 u2 ts2 : Addr) (ks2 : ClassId) (l2 : List Int32) (hl2 : l2.length ≤ 2) (ne2 : ¬ s2 = q) (h0 : Heap) (E_q : Exa Z h0 q "java/lang/String") (C_q : Fld Z h0 q "java/lang/String" "coder" "B" (.int (0 : Int32))) (V_q : Fld Z h0 q "java/lang/String" "value" "[B" (.ref tq)) (B_q : Arv Z h0 tq kq .byte (Int32.ofNat lq.length) (lq.map Value.int) (.int (0 : Int32))) (E_s0 : Exa Z h0 s0 "java/lang/String") (C_s0 : Fld Z h0 s0 "java/lang/String" "coder" "B" (.int (0 : Int32))) (V_s0 : Fld Z h0 s0 "java/lang/String" "value" "[B" (.ref ts0)) (B_s0 : Arv Z h0 ts0 ks0 .byte (Int32.ofNat l0.length) (l0.map Value.int) (.int (0 : Int32))) (E_s1 : Exa Z h0 s1 "java/lang/String") (C_s1 : Fld Z h0 s1 "java/lang/String" "coder" "B" (.int (0 : Int32))) (V_s1 : Fld Z h0 s1 "java/lang/String" "value" "[B" (.ref ts1)) (B_s1 : Arv Z h0 ts1 ks1 .byte (Int32.ofNat l1.length) (l1.map Value.int) (.int (0 : Int32))) (E_s2 : Exa Z h0 s2 "java/lang/String") (C_s2 : Fld Z h0 s2 "java/lang/String" "coder" "B" (.int (0 : Int32))) (V_s2 : Fld Z h0 s2 "java/lang/String" "value" "[B" (.ref ts2)) (B_s2 : Arv Z h0 ts2 ks2 .byte (Int32.ofNat l2.length) (l2.map Value.int) (.int (0 : Int32))) (B_d : Arv Z h0 d1 kd (.object "java/lang/String") (6 : Int32) [(.ref s0), (.ref u0), (.ref s1), (.ref u1), (.ref s2), (.ref u2)] .null) (zc : Int32) (S_CS : Sta Z h0 "java/lang/String" "COMPACT_STRINGS" "Z" (.int zc)) (hzc : ¬ zc = (0 : Int32)) (hq0 : l0 = lq) :
    Does l Z (⟨"com/example/tenon/tenon/core/XmlElement", "declared", "([Ljava/lang/String;Ljava/lang/String;)Ljava/lang/String;"⟩ : MethodName) prog_85_method_13_code 3 (some (.object "java/lang/String")) [] ({ frames := 2, cells := 0, slots := 0, locals := 28 } : Room) #[(.ref d1), (.ref q)] h0 (Val (some (.ref u0)) h0) := by
  refine Does.intro (plainFor_of_name pn_com_example_tenon_tenon_core_XmlElement) (ef_rmDecl3_0 d1 q) ?_
  intro p e s m below meth c s₁ hx hby hml hown hnm hret hlk hZ e0 X0
  show Go p e below _ s₁ (mkF m 0 #[.val (.ref d1), .val (.ref q), .unset] [])
  refine Go.st (fun _ h => XT.iconstV X0.here hx rfl (0 : Int32) (hb hby d_prog_85_method_13_code_0) (by decide) h) ?_
  show Go p e below _ s₁ (mkF m 1 #[.val (.ref d1), .val (.ref q), .unset] [(.int (0 : Int32))])
  refine Go.st (fun _ h => XS.istoreN X0.here hx rfl (hb hby d_prog_85_method_13_code_1) rfl (l' := #[.val (.ref d1), .val (.ref q), .val (.int (0 : Int32))]) rfl h) ?_
  show Go p e below _ s₁ (mkF m 2 #[.val (.ref d1), .val (.ref q), .val (.int (0 : Int32))] [])
  refine Go.st (fun _ h => XS.iloadN X0.here hx rfl (hb hby d_prog_85_method_13_code_2) rfl h) ?_
  show Go p e below _ s₁ (mkF m 3 #[.val (.ref d1), .val (.ref q), .val (.int (0 : Int32))] [(.int (0 : Int32))])
  refine Go.st (fun _ h => XS.aloadN X0.here hx rfl (hb hby d_prog_85_method_13_code_3) rfl rfl h) ?_
  show Go p e below _ s₁ (mkF m 4 #[.val (.ref d1), .val (.ref q), .val (.int (0 : Int32))] [(.ref d1), (.int (0 : Int32))])
  refine Go.st (own_len X0 hx hZ e0 B_d rfl rfl (hb hby d_prog_85_method_13_code_4)) ?_
  show Go p e below _ s₁ (mkF m 5 #[.val (.ref d1), .val (.ref q), .val (.int (0 : Int32))] [(.int (6 : Int32)), (.int (0 : Int32))])
  refine Go.st (fun _ h => XS.icmpNo X0.here hx rfl (hb hby d_prog_85_method_13_code_5) rfl (by decide) h) ?_
  show Go p e below _ s₁ (mkF m 8 #[.val (.ref d1), .val (.ref q), .val (.int (0 : Int32))] [])
  refine Go.st (fun _ h => XS.aloadN X0.here hx rfl (hb hby d_prog_85_method_13_code_8) rfl rfl h) ?_
  show Go p e below _ s₁ (mkF m 9 #[.val (.ref d1), .val (.ref q), .val (.int (0 : Int32))] [(.ref d1)])
  refine Go.st (fun _ h => XS.iloadN X0.here hx rfl (hb hby d_prog_85_method_13_code_9) rfl h) ?_
  show Go p e below _ s₁ (mkF m 10 #[.val (.ref d1), .val (.ref q), .val (.int (0 : Int32))] [(.int (0 : Int32)), (.ref d1)])
  refine Go.st (own_ldR X0 hx hZ e0 B_d rfl (by decide) (by decide) rfl rfl rfl (hb hby d_prog_85_method_13_code_10)) ?_
  show Go p e below _ s₁ (mkF m 11 #[.val (.ref d1), .val (.ref q), .val (.int (0 : Int32))] [(.ref s0)])
  refine Go.st (fun _ h => XS.aloadN X0.here hx rfl (hb hby d_prog_85_method_13_code_11) rfl rfl h) ?_
  show Go p e below _ s₁ (mkF m 12 #[.val (.ref d1), .val (.ref q), .val (.int (0 : Int32))] [(.ref q), (.ref s0)])
  obtain ⟨T1, X1, e1, st1⟩ := own_still rfl rfl (Does.virtual (y := (⟨"java/lang/String", "equals", "(Ljava/lang/Object;)Z"⟩ : MethodName)) (g := (mkF m 12 #[.val (.ref d1), .val (.ref q), .val (.int (0 : Int32))] [(.ref q), (.ref s0)])) (a := s0) (rmEq l Z a0 hw s0 q ts0 tq ks0 kq l0 lq hl0 hlq h0 E_s0 C_s0 V_s0 E_q C_q V_q B_s0 B_q zc S_CS hzc ne0) X0 hx hZ hown e0 E_s0 (hw _ (List.mem_of_getElem? (i := 51) rfl)) (hw _ (List.mem_of_getElem? (i := 52) rfl)) (hw _ (List.mem_of_getElem? (i := 54) rfl)) (hw _ (List.mem_of_getElem? (i := 53) rfl)) (hw _ (List.mem_of_getElem? (i := 12) rfl)) (hw _ (List.mem_of_getElem? (i := 55) rfl)) (by decide) rfl (by rw [hml]; rfl) (argsL := [(.ref q)]) (rest := []) (lenOf pd_28Ljava2flang2fObject3b29Z rfl) rfl (hb hby d_prog_85_method_13_code_12) (W := 0) (by show 2 * 0 + _ ≤ _; exact Nat.le_of_eq rfl) (by decide) (by decide) (by decide) (by decide))
  refine Go.st st1 ?_
  show Go p e below _ T1 (mkF m 15 #[.val (.ref d1), .val (.ref q), .val (.int (0 : Int32))] [(.int (if l0 = lq then 1 else 0))])
  refine Go.st (fun _ h => XS.ifNo X1.here hx rfl (hb hby d_prog_85_method_13_code_15) rfl ((if0 _ _).trans (feq (by rw [if_pos hq0]; decide : ¬ ((if l0 = lq then 1 else 0) = (0 : Int32)))).1) h) ?_
  show Go p e below _ T1 (mkF m 18 #[.val (.ref d1), .val (.ref q), .val (.int (0 : Int32))] [])
  refine Go.st (fun _ h => XS.aloadN X1.here hx rfl (hb hby d_prog_85_method_13_code_18) rfl rfl h) ?_
  show Go p e below _ T1 (mkF m 19 #[.val (.ref d1), .val (.ref q), .val (.int (0 : Int32))] [(.ref d1)])
  refine Go.st (fun _ h => XS.iloadN X1.here hx rfl (hb hby d_prog_85_method_13_code_19) rfl h) ?_
  show Go p e below _ T1 (mkF m 20 #[.val (.ref d1), .val (.ref q), .val (.int (0 : Int32))] [(.int (0 : Int32)), (.ref d1)])
  refine Go.st (fun _ h => XT.iconstV X1.here hx rfl (1 : Int32) (hb hby d_prog_85_method_13_code_20) (by decide) h) ?_
  show Go p e below _ T1 (mkF m 21 #[.val (.ref d1), .val (.ref q), .val (.int (0 : Int32))] [(.int (1 : Int32)), (.int (0 : Int32)), (.ref d1)])
  refine Go.st (fun _ h => XS.iadd X1.here hx rfl (hb hby d_prog_85_method_13_code_21) rfl h) ?_
  show Go p e below _ T1 (mkF m 22 #[.val (.ref d1), .val (.ref q), .val (.int (0 : Int32))] [(.int ((0 : Int32) + (1 : Int32))), (.ref d1)])
  refine Go.st (own_ldR X1 hx hZ e1 B_d rfl (by decide) (by decide) rfl rfl rfl (hb hby d_prog_85_method_13_code_22)) ?_
  show Go p e below _ T1 (mkF m 23 #[.val (.ref d1), .val (.ref q), .val (.int (0 : Int32))] [(.ref u0)])
  refine Go.retA X1 hx hlk hret rfl rfl rfl (hb hby d_prog_85_method_13_code_23) (by decide) (by decide) ?_
  exact ⟨rfl, rfl, e1⟩
theorem ef_rmDecl3_1 (x0 : Addr) (x1 : Addr) (m : MethodId) : entryFrame m #[(.ref x0), (.ref x1)] 3 = mkF m 0 #[.val (.ref x0), .val (.ref x1), .unset] [] := by first | (simp [entryFrame, mkF, argsToLocals, Value.category]; done) | rfl
set_option maxRecDepth 65536 in
set_option maxHeartbeats 40000000 in
theorem rmDecl3_1 (l : Launch) (Z : State) (a0 : Array Value) (hw : ∀ d ∈ tables_1, d.before a0 Z = true) (d1 q tq : Addr) (kd kq : ClassId) (lq : List Int32) (hlq : lq.length ≤ 2) (s0 u0 ts0 : Addr) (ks0 : ClassId) (l0 : List Int32) (hl0 : l0.length ≤ 2) (ne0 : ¬ s0 = q) (s1 u1 ts1 : Addr) (ks1 : ClassId) (l1 : List Int32) (hl1 : l1.length ≤ 2) (ne1 : ¬ s1 = q) (s2 u2 ts2 : Addr) (ks2 : ClassId) (l2 : List Int32) (hl2 : l2.length ≤ 2) (ne2 : ¬ s2 = q) (h0 : Heap) (E_q : Exa Z h0 q "java/lang/String") (C_q : Fld Z h0 q "java/lang/String" "coder" "B" (.int (0 : Int32))) (V_q : Fld Z h0 q "java/lang/String" "value" "[B" (.ref tq)) (B_q : Arv Z h0 tq kq .byte (Int32.ofNat lq.length) (lq.map Value.int) (.int (0 : Int32))) (E_s0 : Exa Z h0 s0 "java/lang/String") (C_s0 : Fld Z h0 s0 "java/lang/String" "coder" "B" (.int (0 : Int32))) (V_s0 : Fld Z h0 s0 "java/lang/String" "value" "[B" (.ref ts0)) (B_s0 : Arv Z h0 ts0 ks0 .byte (Int32.ofNat l0.length) (l0.map Value.int) (.int (0 : Int32))) (E_s1 : Exa Z h0 s1 "java/lang/String") (C_s1 : Fld Z h0 s1 "java/lang/String" "coder" "B" (.int (0 : Int32))) (V_s1 : Fld Z h0 s1 "java/lang/String" "value" "[B" (.ref ts1)) (B_s1 : Arv Z h0 ts1 ks1 .byte (Int32.ofNat l1.length) (l1.map Value.int) (.int (0 : Int32))) (E_s2 : Exa Z h0 s2 "java/lang/String") (C_s2 : Fld Z h0 s2 "java/lang/String" "coder" "B" (.int (0 : Int32))) (V_s2 : Fld Z h0 s2 "java/lang/String" "value" "[B" (.ref ts2)) (B_s2 : Arv Z h0 ts2 ks2 .byte (Int32.ofNat l2.length) (l2.map Value.int) (.int (0 : Int32))) (B_d : Arv Z h0 d1 kd (.object "java/lang/String") (6 : Int32) [(.ref s0), (.ref u0), (.ref s1), (.ref u1), (.ref s2), (.ref u2)] .null) (zc : Int32) (S_CS : Sta Z h0 "java/lang/String" "COMPACT_STRINGS" "Z" (.int zc)) (hzc : ¬ zc = (0 : Int32)) (hq0 : ¬ l0 = lq) (hq1 : l1 = lq) :
    Does l Z (⟨"com/example/tenon/tenon/core/XmlElement", "declared", "([Ljava/lang/String;Ljava/lang/String;)Ljava/lang/String;"⟩ : MethodName) prog_85_method_13_code 3 (some (.object "java/lang/String")) [] ({ frames := 2, cells := 0, slots := 0, locals := 28 } : Room) #[(.ref d1), (.ref q)] h0 (Val (some (.ref u1)) h0) := by
  refine Does.intro (plainFor_of_name pn_com_example_tenon_tenon_core_XmlElement) (ef_rmDecl3_1 d1 q) ?_
  intro p e s m below meth c s₁ hx hby hml hown hnm hret hlk hZ e0 X0
  show Go p e below _ s₁ (mkF m 0 #[.val (.ref d1), .val (.ref q), .unset] [])
  refine Go.st (fun _ h => XT.iconstV X0.here hx rfl (0 : Int32) (hb hby d_prog_85_method_13_code_0) (by decide) h) ?_
  show Go p e below _ s₁ (mkF m 1 #[.val (.ref d1), .val (.ref q), .unset] [(.int (0 : Int32))])
  refine Go.st (fun _ h => XS.istoreN X0.here hx rfl (hb hby d_prog_85_method_13_code_1) rfl (l' := #[.val (.ref d1), .val (.ref q), .val (.int (0 : Int32))]) rfl h) ?_
  show Go p e below _ s₁ (mkF m 2 #[.val (.ref d1), .val (.ref q), .val (.int (0 : Int32))] [])
  refine Go.st (fun _ h => XS.iloadN X0.here hx rfl (hb hby d_prog_85_method_13_code_2) rfl h) ?_
  show Go p e below _ s₁ (mkF m 3 #[.val (.ref d1), .val (.ref q), .val (.int (0 : Int32))] [(.int (0 : Int32))])
  refine Go.st (fun _ h => XS.aloadN X0.here hx rfl (hb hby d_prog_85_method_13_code_3) rfl rfl h) ?_
  show Go p e below _ s₁ (mkF m 4 #[.val (.ref d1), .val (.ref q), .val (.int (0 : Int32))] [(.ref d1), (.int (0 : Int32))])
  refine Go.st (own_len X0 hx hZ e0 B_d rfl rfl (hb hby d_prog_85_method_13_code_4)) ?_
  show Go p e below _ s₁ (mkF m 5 #[.val (.ref d1), .val (.ref q), .val (.int (0 : Int32))] [(.int (6 : Int32)), (.int (0 : Int32))])
  refine Go.st (fun _ h => XS.icmpNo X0.here hx rfl (hb hby d_prog_85_method_13_code_5) rfl (by decide) h) ?_
  show Go p e below _ s₁ (mkF m 8 #[.val (.ref d1), .val (.ref q), .val (.int (0 : Int32))] [])
  refine Go.st (fun _ h => XS.aloadN X0.here hx rfl (hb hby d_prog_85_method_13_code_8) rfl rfl h) ?_
  show Go p e below _ s₁ (mkF m 9 #[.val (.ref d1), .val (.ref q), .val (.int (0 : Int32))] [(.ref d1)])
  refine Go.st (fun _ h => XS.iloadN X0.here hx rfl (hb hby d_prog_85_method_13_code_9) rfl h) ?_
  show Go p e below _ s₁ (mkF m 10 #[.val (.ref d1), .val (.ref q), .val (.int (0 : Int32))] [(.int (0 : Int32)), (.ref d1)])
  refine Go.st (own_ldR X0 hx hZ e0 B_d rfl (by decide) (by decide) rfl rfl rfl (hb hby d_prog_85_method_13_code_10)) ?_
  show Go p e below _ s₁ (mkF m 11 #[.val (.ref d1), .val (.ref q), .val (.int (0 : Int32))] [(.ref s0)])
  refine Go.st (fun _ h => XS.aloadN X0.here hx rfl (hb hby d_prog_85_method_13_code_11) rfl rfl h) ?_
  show Go p e below _ s₁ (mkF m 12 #[.val (.ref d1), .val (.ref q), .val (.int (0 : Int32))] [(.ref q), (.ref s0)])
  obtain ⟨T1, X1, e1, st1⟩ := own_still rfl rfl (Does.virtual (y := (⟨"java/lang/String", "equals", "(Ljava/lang/Object;)Z"⟩ : MethodName)) (g := (mkF m 12 #[.val (.ref d1), .val (.ref q), .val (.int (0 : Int32))] [(.ref q), (.ref s0)])) (a := s0) (rmEq l Z a0 hw s0 q ts0 tq ks0 kq l0 lq hl0 hlq h0 E_s0 C_s0 V_s0 E_q C_q V_q B_s0 B_q zc S_CS hzc ne0) X0 hx hZ hown e0 E_s0 (hw _ (List.mem_of_getElem? (i := 51) rfl)) (hw _ (List.mem_of_getElem? (i := 52) rfl)) (hw _ (List.mem_of_getElem? (i := 54) rfl)) (hw _ (List.mem_of_getElem? (i := 53) rfl)) (hw _ (List.mem_of_getElem? (i := 12) rfl)) (hw _ (List.mem_of_getElem? (i := 55) rfl)) (by decide) rfl (by rw [hml]; rfl) (argsL := [(.ref q)]) (rest := []) (lenOf pd_28Ljava2flang2fObject3b29Z rfl) rfl (hb hby d_prog_85_method_13_code_12) (W := 0) (by show 2 * 0 + _ ≤ _; exact Nat.le_of_eq rfl) (by decide) (by decide) (by decide) (by decide))
  refine Go.st st1 ?_
  show Go p e below _ T1 (mkF m 15 #[.val (.ref d1), .val (.ref q), .val (.int (0 : Int32))] [(.int (if l0 = lq then 1 else 0))])
  refine Go.st (fun _ h => XS.ifYes X1.here hx rfl (pc0 := 15) (pc' := 24) rfl (hb hby d_prog_85_method_13_code_15) rfl ((if0 _ _).trans (teq (by rw [if_neg hq0] : (if l0 = lq then 1 else 0) = (0 : Int32))).1) (by decide) (by decide) h) ?_
  show Go p e below _ T1 (mkF m 24 #[.val (.ref d1), .val (.ref q), .val (.int (0 : Int32))] [])
  refine Go.st (fun _ h => XT.iincV X1.here hx rfl (2 : Int32) (hb hby d_prog_85_method_13_code_24) (by decide) rfl (l' := #[.val (.ref d1), .val (.ref q), .val (.int ((0 : Int32) + (2 : Int32)))]) rfl h) ?_
  show Go p e below _ T1 (mkF m 27 #[.val (.ref d1), .val (.ref q), .val (.int ((0 : Int32) + (2 : Int32)))] [])
  refine Go.st (fun _ h => XS.goto X1.here hx rfl (pc0 := 27) (pc' := 2) rfl (hb hby d_prog_85_method_13_code_27) (by decide) (by decide) h) ?_
  show Go p e below _ T1 (mkF m 2 #[.val (.ref d1), .val (.ref q), .val (.int ((0 : Int32) + (2 : Int32)))] [])
  refine Go.st (fun _ h => XS.iloadN X1.here hx rfl (hb hby d_prog_85_method_13_code_2) rfl h) ?_
  show Go p e below _ T1 (mkF m 3 #[.val (.ref d1), .val (.ref q), .val (.int ((0 : Int32) + (2 : Int32)))] [(.int ((0 : Int32) + (2 : Int32)))])
  refine Go.st (fun _ h => XS.aloadN X1.here hx rfl (hb hby d_prog_85_method_13_code_3) rfl rfl h) ?_
  show Go p e below _ T1 (mkF m 4 #[.val (.ref d1), .val (.ref q), .val (.int ((0 : Int32) + (2 : Int32)))] [(.ref d1), (.int ((0 : Int32) + (2 : Int32)))])
  refine Go.st (own_len X1 hx hZ e1 B_d rfl rfl (hb hby d_prog_85_method_13_code_4)) ?_
  show Go p e below _ T1 (mkF m 5 #[.val (.ref d1), .val (.ref q), .val (.int ((0 : Int32) + (2 : Int32)))] [(.int (6 : Int32)), (.int ((0 : Int32) + (2 : Int32)))])
  refine Go.st (fun _ h => XS.icmpNo X1.here hx rfl (hb hby d_prog_85_method_13_code_5) rfl (by decide) h) ?_
  show Go p e below _ T1 (mkF m 8 #[.val (.ref d1), .val (.ref q), .val (.int ((0 : Int32) + (2 : Int32)))] [])
  refine Go.st (fun _ h => XS.aloadN X1.here hx rfl (hb hby d_prog_85_method_13_code_8) rfl rfl h) ?_
  show Go p e below _ T1 (mkF m 9 #[.val (.ref d1), .val (.ref q), .val (.int ((0 : Int32) + (2 : Int32)))] [(.ref d1)])
  refine Go.st (fun _ h => XS.iloadN X1.here hx rfl (hb hby d_prog_85_method_13_code_9) rfl h) ?_
  show Go p e below _ T1 (mkF m 10 #[.val (.ref d1), .val (.ref q), .val (.int ((0 : Int32) + (2 : Int32)))] [(.int ((0 : Int32) + (2 : Int32))), (.ref d1)])
  refine Go.st (own_ldR X1 hx hZ e1 B_d rfl (by decide) (by decide) rfl rfl rfl (hb hby d_prog_85_method_13_code_10)) ?_
  show Go p e below _ T1 (mkF m 11 #[.val (.ref d1), .val (.ref q), .val (.int ((0 : Int32) + (2 : Int32)))] [(.ref s1)])
  refine Go.st (fun _ h => XS.aloadN X1.here hx rfl (hb hby d_prog_85_method_13_code_11) rfl rfl h) ?_
  show Go p e below _ T1 (mkF m 12 #[.val (.ref d1), .val (.ref q), .val (.int ((0 : Int32) + (2 : Int32)))] [(.ref q), (.ref s1)])
  obtain ⟨T2, X2, e2, st2⟩ := own_still rfl rfl (Does.virtual (y := (⟨"java/lang/String", "equals", "(Ljava/lang/Object;)Z"⟩ : MethodName)) (g := (mkF m 12 #[.val (.ref d1), .val (.ref q), .val (.int ((0 : Int32) + (2 : Int32)))] [(.ref q), (.ref s1)])) (a := s1) (rmEq l Z a0 hw s1 q ts1 tq ks1 kq l1 lq hl1 hlq h0 E_s1 C_s1 V_s1 E_q C_q V_q B_s1 B_q zc S_CS hzc ne1) X1 hx hZ hown e1 E_s1 (hw _ (List.mem_of_getElem? (i := 51) rfl)) (hw _ (List.mem_of_getElem? (i := 52) rfl)) (hw _ (List.mem_of_getElem? (i := 54) rfl)) (hw _ (List.mem_of_getElem? (i := 53) rfl)) (hw _ (List.mem_of_getElem? (i := 12) rfl)) (hw _ (List.mem_of_getElem? (i := 55) rfl)) (by decide) rfl (by rw [hml]; rfl) (argsL := [(.ref q)]) (rest := []) (lenOf pd_28Ljava2flang2fObject3b29Z rfl) rfl (hb hby d_prog_85_method_13_code_12) (W := 0) (by show 2 * 0 + _ ≤ _; exact Nat.le_of_eq rfl) (by decide) (by decide) (by decide) (by decide))
  refine Go.st st2 ?_
  show Go p e below _ T2 (mkF m 15 #[.val (.ref d1), .val (.ref q), .val (.int ((0 : Int32) + (2 : Int32)))] [(.int (if l1 = lq then 1 else 0))])
  refine Go.st (fun _ h => XS.ifNo X2.here hx rfl (hb hby d_prog_85_method_13_code_15) rfl ((if0 _ _).trans (feq (by rw [if_pos hq1]; decide : ¬ ((if l1 = lq then 1 else 0) = (0 : Int32)))).1) h) ?_
  show Go p e below _ T2 (mkF m 18 #[.val (.ref d1), .val (.ref q), .val (.int ((0 : Int32) + (2 : Int32)))] [])
  refine Go.st (fun _ h => XS.aloadN X2.here hx rfl (hb hby d_prog_85_method_13_code_18) rfl rfl h) ?_
  show Go p e below _ T2 (mkF m 19 #[.val (.ref d1), .val (.ref q), .val (.int ((0 : Int32) + (2 : Int32)))] [(.ref d1)])
  refine Go.st (fun _ h => XS.iloadN X2.here hx rfl (hb hby d_prog_85_method_13_code_19) rfl h) ?_
  show Go p e below _ T2 (mkF m 20 #[.val (.ref d1), .val (.ref q), .val (.int ((0 : Int32) + (2 : Int32)))] [(.int ((0 : Int32) + (2 : Int32))), (.ref d1)])
  refine Go.st (fun _ h => XT.iconstV X2.here hx rfl (1 : Int32) (hb hby d_prog_85_method_13_code_20) (by decide) h) ?_
  show Go p e below _ T2 (mkF m 21 #[.val (.ref d1), .val (.ref q), .val (.int ((0 : Int32) + (2 : Int32)))] [(.int (1 : Int32)), (.int ((0 : Int32) + (2 : Int32))), (.ref d1)])
  refine Go.st (fun _ h => XS.iadd X2.here hx rfl (hb hby d_prog_85_method_13_code_21) rfl h) ?_
  show Go p e below _ T2 (mkF m 22 #[.val (.ref d1), .val (.ref q), .val (.int ((0 : Int32) + (2 : Int32)))] [(.int (((0 : Int32) + (2 : Int32)) + (1 : Int32))), (.ref d1)])
  refine Go.st (own_ldR X2 hx hZ e2 B_d rfl (by decide) (by decide) rfl rfl rfl (hb hby d_prog_85_method_13_code_22)) ?_
  show Go p e below _ T2 (mkF m 23 #[.val (.ref d1), .val (.ref q), .val (.int ((0 : Int32) + (2 : Int32)))] [(.ref u1)])
  refine Go.retA X2 hx hlk hret rfl rfl rfl (hb hby d_prog_85_method_13_code_23) (by decide) (by decide) ?_
  exact ⟨rfl, rfl, e2⟩
theorem ef_rmDecl3_2 (x0 : Addr) (x1 : Addr) (m : MethodId) : entryFrame m #[(.ref x0), (.ref x1)] 3 = mkF m 0 #[.val (.ref x0), .val (.ref x1), .unset] [] := by first | (simp [entryFrame, mkF, argsToLocals, Value.category]; done) | rfl
set_option maxRecDepth 65536 in
set_option maxHeartbeats 40000000 in
theorem rmDecl3_2 (l : Launch) (Z : State) (a0 : Array Value) (hw : ∀ d ∈ tables_1, d.before a0 Z = true) (d1 q tq : Addr) (kd kq : ClassId) (lq : List Int32) (hlq : lq.length ≤ 2) (s0 u0 ts0 : Addr) (ks0 : ClassId) (l0 : List Int32) (hl0 : l0.length ≤ 2) (ne0 : ¬ s0 = q) (s1 u1 ts1 : Addr) (ks1 : ClassId) (l1 : List Int32) (hl1 : l1.length ≤ 2) (ne1 : ¬ s1 = q) (s2 u2 ts2 : Addr) (ks2 : ClassId) (l2 : List Int32) (hl2 : l2.length ≤ 2) (ne2 : ¬ s2 = q) (h0 : Heap) (E_q : Exa Z h0 q "java/lang/String") (C_q : Fld Z h0 q "java/lang/String" "coder" "B" (.int (0 : Int32))) (V_q : Fld Z h0 q "java/lang/String" "value" "[B" (.ref tq)) (B_q : Arv Z h0 tq kq .byte (Int32.ofNat lq.length) (lq.map Value.int) (.int (0 : Int32))) (E_s0 : Exa Z h0 s0 "java/lang/String") (C_s0 : Fld Z h0 s0 "java/lang/String" "coder" "B" (.int (0 : Int32))) (V_s0 : Fld Z h0 s0 "java/lang/String" "value" "[B" (.ref ts0)) (B_s0 : Arv Z h0 ts0 ks0 .byte (Int32.ofNat l0.length) (l0.map Value.int) (.int (0 : Int32))) (E_s1 : Exa Z h0 s1 "java/lang/String") (C_s1 : Fld Z h0 s1 "java/lang/String" "coder" "B" (.int (0 : Int32))) (V_s1 : Fld Z h0 s1 "java/lang/String" "value" "[B" (.ref ts1)) (B_s1 : Arv Z h0 ts1 ks1 .byte (Int32.ofNat l1.length) (l1.map Value.int) (.int (0 : Int32))) (E_s2 : Exa Z h0 s2 "java/lang/String") (C_s2 : Fld Z h0 s2 "java/lang/String" "coder" "B" (.int (0 : Int32))) (V_s2 : Fld Z h0 s2 "java/lang/String" "value" "[B" (.ref ts2)) (B_s2 : Arv Z h0 ts2 ks2 .byte (Int32.ofNat l2.length) (l2.map Value.int) (.int (0 : Int32))) (B_d : Arv Z h0 d1 kd (.object "java/lang/String") (6 : Int32) [(.ref s0), (.ref u0), (.ref s1), (.ref u1), (.ref s2), (.ref u2)] .null) (zc : Int32) (S_CS : Sta Z h0 "java/lang/String" "COMPACT_STRINGS" "Z" (.int zc)) (hzc : ¬ zc = (0 : Int32)) (hq0 : ¬ l0 = lq) (hq1 : ¬ l1 = lq) (hq2 : l2 = lq) :
    Does l Z (⟨"com/example/tenon/tenon/core/XmlElement", "declared", "([Ljava/lang/String;Ljava/lang/String;)Ljava/lang/String;"⟩ : MethodName) prog_85_method_13_code 3 (some (.object "java/lang/String")) [] ({ frames := 2, cells := 0, slots := 0, locals := 28 } : Room) #[(.ref d1), (.ref q)] h0 (Val (some (.ref u2)) h0) := by
  refine Does.intro (plainFor_of_name pn_com_example_tenon_tenon_core_XmlElement) (ef_rmDecl3_2 d1 q) ?_
  intro p e s m below meth c s₁ hx hby hml hown hnm hret hlk hZ e0 X0
  show Go p e below _ s₁ (mkF m 0 #[.val (.ref d1), .val (.ref q), .unset] [])
  refine Go.st (fun _ h => XT.iconstV X0.here hx rfl (0 : Int32) (hb hby d_prog_85_method_13_code_0) (by decide) h) ?_
  show Go p e below _ s₁ (mkF m 1 #[.val (.ref d1), .val (.ref q), .unset] [(.int (0 : Int32))])
  refine Go.st (fun _ h => XS.istoreN X0.here hx rfl (hb hby d_prog_85_method_13_code_1) rfl (l' := #[.val (.ref d1), .val (.ref q), .val (.int (0 : Int32))]) rfl h) ?_
  show Go p e below _ s₁ (mkF m 2 #[.val (.ref d1), .val (.ref q), .val (.int (0 : Int32))] [])
  refine Go.st (fun _ h => XS.iloadN X0.here hx rfl (hb hby d_prog_85_method_13_code_2) rfl h) ?_
  show Go p e below _ s₁ (mkF m 3 #[.val (.ref d1), .val (.ref q), .val (.int (0 : Int32))] [(.int (0 : Int32))])
  refine Go.st (fun _ h => XS.aloadN X0.here hx rfl (hb hby d_prog_85_method_13_code_3) rfl rfl h) ?_
  show Go p e below _ s₁ (mkF m 4 #[.val (.ref d1), .val (.ref q), .val (.int (0 : Int32))] [(.ref d1), (.int (0 : Int32))])
  refine Go.st (own_len X0 hx hZ e0 B_d rfl rfl (hb hby d_prog_85_method_13_code_4)) ?_
  show Go p e below _ s₁ (mkF m 5 #[.val (.ref d1), .val (.ref q), .val (.int (0 : Int32))] [(.int (6 : Int32)), (.int (0 : Int32))])
  refine Go.st (fun _ h => XS.icmpNo X0.here hx rfl (hb hby d_prog_85_method_13_code_5) rfl (by decide) h) ?_
  show Go p e below _ s₁ (mkF m 8 #[.val (.ref d1), .val (.ref q), .val (.int (0 : Int32))] [])
  refine Go.st (fun _ h => XS.aloadN X0.here hx rfl (hb hby d_prog_85_method_13_code_8) rfl rfl h) ?_
  show Go p e below _ s₁ (mkF m 9 #[.val (.ref d1), .val (.ref q), .val (.int (0 : Int32))] [(.ref d1)])
  refine Go.st (fun _ h => XS.iloadN X0.here hx rfl (hb hby d_prog_85_method_13_code_9) rfl h) ?_
  show Go p e below _ s₁ (mkF m 10 #[.val (.ref d1), .val (.ref q), .val (.int (0 : Int32))] [(.int (0 : Int32)), (.ref d1)])
  refine Go.st (own_ldR X0 hx hZ e0 B_d rfl (by decide) (by decide) rfl rfl rfl (hb hby d_prog_85_method_13_code_10)) ?_
  show Go p e below _ s₁ (mkF m 11 #[.val (.ref d1), .val (.ref q), .val (.int (0 : Int32))] [(.ref s0)])
  refine Go.st (fun _ h => XS.aloadN X0.here hx rfl (hb hby d_prog_85_method_13_code_11) rfl rfl h) ?_
  show Go p e below _ s₁ (mkF m 12 #[.val (.ref d1), .val (.ref q), .val (.int (0 : Int32))] [(.ref q), (.ref s0)])
  obtain ⟨T1, X1, e1, st1⟩ := own_still rfl rfl (Does.virtual (y := (⟨"java/lang/String", "equals", "(Ljava/lang/Object;)Z"⟩ : MethodName)) (g := (mkF m 12 #[.val (.ref d1), .val (.ref q), .val (.int (0 : Int32))] [(.ref q), (.ref s0)])) (a := s0) (rmEq l Z a0 hw s0 q ts0 tq ks0 kq l0 lq hl0 hlq h0 E_s0 C_s0 V_s0 E_q C_q V_q B_s0 B_q zc S_CS hzc ne0) X0 hx hZ hown e0 E_s0 (hw _ (List.mem_of_getElem? (i := 51) rfl)) (hw _ (List.mem_of_getElem? (i := 52) rfl)) (hw _ (List.mem_of_getElem? (i := 54) rfl)) (hw _ (List.mem_of_getElem? (i := 53) rfl)) (hw _ (List.mem_of_getElem? (i := 12) rfl)) (hw _ (List.mem_of_getElem? (i := 55) rfl)) (by decide) rfl (by rw [hml]; rfl) (argsL := [(.ref q)]) (rest := []) (lenOf pd_28Ljava2flang2fObject3b29Z rfl) rfl (hb hby d_prog_85_method_13_code_12) (W := 0) (by show 2 * 0 + _ ≤ _; exact Nat.le_of_eq rfl) (by decide) (by decide) (by decide) (by decide))
  refine Go.st st1 ?_
  show Go p e below _ T1 (mkF m 15 #[.val (.ref d1), .val (.ref q), .val (.int (0 : Int32))] [(.int (if l0 = lq then 1 else 0))])
  refine Go.st (fun _ h => XS.ifYes X1.here hx rfl (pc0 := 15) (pc' := 24) rfl (hb hby d_prog_85_method_13_code_15) rfl ((if0 _ _).trans (teq (by rw [if_neg hq0] : (if l0 = lq then 1 else 0) = (0 : Int32))).1) (by decide) (by decide) h) ?_
  show Go p e below _ T1 (mkF m 24 #[.val (.ref d1), .val (.ref q), .val (.int (0 : Int32))] [])
  refine Go.st (fun _ h => XT.iincV X1.here hx rfl (2 : Int32) (hb hby d_prog_85_method_13_code_24) (by decide) rfl (l' := #[.val (.ref d1), .val (.ref q), .val (.int ((0 : Int32) + (2 : Int32)))]) rfl h) ?_
  show Go p e below _ T1 (mkF m 27 #[.val (.ref d1), .val (.ref q), .val (.int ((0 : Int32) + (2 : Int32)))] [])
  refine Go.st (fun _ h => XS.goto X1.here hx rfl (pc0 := 27) (pc' := 2) rfl (hb hby d_prog_85_method_13_code_27) (by decide) (by decide) h) ?_
  show Go p e below _ T1 (mkF m 2 #[.val (.ref d1), .val (.ref q), .val (.int ((0 : Int32) + (2 : Int32)))] [])
  refine Go.st (fun _ h => XS.iloadN X1.here hx rfl (hb hby d_prog_85_method_13_code_2) rfl h) ?_
  show Go p e below _ T1 (mkF m 3 #[.val (.ref d1), .val (.ref q), .val (.int ((0 : Int32) + (2 : Int32)))] [(.int ((0 : Int32) + (2 : Int32)))])
  refine Go.st (fun _ h => XS.aloadN X1.here hx rfl (hb hby d_prog_85_method_13_code_3) rfl rfl h) ?_
  show Go p e below _ T1 (mkF m 4 #[.val (.ref d1), .val (.ref q), .val (.int ((0 : Int32) + (2 : Int32)))] [(.ref d1), (.int ((0 : Int32) + (2 : Int32)))])
  refine Go.st (own_len X1 hx hZ e1 B_d rfl rfl (hb hby d_prog_85_method_13_code_4)) ?_
  show Go p e below _ T1 (mkF m 5 #[.val (.ref d1), .val (.ref q), .val (.int ((0 : Int32) + (2 : Int32)))] [(.int (6 : Int32)), (.int ((0 : Int32) + (2 : Int32)))])
  refine Go.st (fun _ h => XS.icmpNo X1.here hx rfl (hb hby d_prog_85_method_13_code_5) rfl (by decide) h) ?_
  show Go p e below _ T1 (mkF m 8 #[.val (.ref d1), .val (.ref q), .val (.int ((0 : Int32) + (2 : Int32)))] [])
  refine Go.st (fun _ h => XS.aloadN X1.here hx rfl (hb hby d_prog_85_method_13_code_8) rfl rfl h) ?_
  show Go p e below _ T1 (mkF m 9 #[.val (.ref d1), .val (.ref q), .val (.int ((0 : Int32) + (2 : Int32)))] [(.ref d1)])
  refine Go.st (fun _ h => XS.iloadN X1.here hx rfl (hb hby d_prog_85_method_13_code_9) rfl h) ?_
  show Go p e below _ T1 (mkF m 10 #[.val (.ref d1), .val (.ref q), .val (.int ((0 : Int32) + (2 : Int32)))] [(.int ((0 : Int32) + (2 : Int32))), (.ref d1)])
  refine Go.st (own_ldR X1 hx hZ e1 B_d rfl (by decide) (by decide) rfl rfl rfl (hb hby d_prog_85_method_13_code_10)) ?_
  show Go p e below _ T1 (mkF m 11 #[.val (.ref d1), .val (.ref q), .val (.int ((0 : Int32) + (2 : Int32)))] [(.ref s1)])
  refine Go.st (fun _ h => XS.aloadN X1.here hx rfl (hb hby d_prog_85_method_13_code_11) rfl rfl h) ?_
  show Go p e below _ T1 (mkF m 12 #[.val (.ref d1), .val (.ref q), .val (.int ((0 : Int32) + (2 : Int32)))] [(.ref q), (.ref s1)])
  obtain ⟨T2, X2, e2, st2⟩ := own_still rfl rfl (Does.virtual (y := (⟨"java/lang/String", "equals", "(Ljava/lang/Object;)Z"⟩ : MethodName)) (g := (mkF m 12 #[.val (.ref d1), .val (.ref q), .val (.int ((0 : Int32) + (2 : Int32)))] [(.ref q), (.ref s1)])) (a := s1) (rmEq l Z a0 hw s1 q ts1 tq ks1 kq l1 lq hl1 hlq h0 E_s1 C_s1 V_s1 E_q C_q V_q B_s1 B_q zc S_CS hzc ne1) X1 hx hZ hown e1 E_s1 (hw _ (List.mem_of_getElem? (i := 51) rfl)) (hw _ (List.mem_of_getElem? (i := 52) rfl)) (hw _ (List.mem_of_getElem? (i := 54) rfl)) (hw _ (List.mem_of_getElem? (i := 53) rfl)) (hw _ (List.mem_of_getElem? (i := 12) rfl)) (hw _ (List.mem_of_getElem? (i := 55) rfl)) (by decide) rfl (by rw [hml]; rfl) (argsL := [(.ref q)]) (rest := []) (lenOf pd_28Ljava2flang2fObject3b29Z rfl) rfl (hb hby d_prog_85_method_13_code_12) (W := 0) (by show 2 * 0 + _ ≤ _; exact Nat.le_of_eq rfl) (by decide) (by decide) (by decide) (by decide))
  refine Go.st st2 ?_
  show Go p e below _ T2 (mkF m 15 #[.val (.ref d1), .val (.ref q), .val (.int ((0 : Int32) + (2 : Int32)))] [(.int (if l1 = lq then 1 else 0))])
  refine Go.st (fun _ h => XS.ifYes X2.here hx rfl (pc0 := 15) (pc' := 24) rfl (hb hby d_prog_85_method_13_code_15) rfl ((if0 _ _).trans (teq (by rw [if_neg hq1] : (if l1 = lq then 1 else 0) = (0 : Int32))).1) (by decide) (by decide) h) ?_
  show Go p e below _ T2 (mkF m 24 #[.val (.ref d1), .val (.ref q), .val (.int ((0 : Int32) + (2 : Int32)))] [])
  refine Go.st (fun _ h => XT.iincV X2.here hx rfl (2 : Int32) (hb hby d_prog_85_method_13_code_24) (by decide) rfl (l' := #[.val (.ref d1), .val (.ref q), .val (.int (((0 : Int32) + (2 : Int32)) + (2 : Int32)))]) rfl h) ?_
  show Go p e below _ T2 (mkF m 27 #[.val (.ref d1), .val (.ref q), .val (.int (((0 : Int32) + (2 : Int32)) + (2 : Int32)))] [])
  refine Go.st (fun _ h => XS.goto X2.here hx rfl (pc0 := 27) (pc' := 2) rfl (hb hby d_prog_85_method_13_code_27) (by decide) (by decide) h) ?_
  show Go p e below _ T2 (mkF m 2 #[.val (.ref d1), .val (.ref q), .val (.int (((0 : Int32) + (2 : Int32)) + (2 : Int32)))] [])
  refine Go.st (fun _ h => XS.iloadN X2.here hx rfl (hb hby d_prog_85_method_13_code_2) rfl h) ?_
  show Go p e below _ T2 (mkF m 3 #[.val (.ref d1), .val (.ref q), .val (.int (((0 : Int32) + (2 : Int32)) + (2 : Int32)))] [(.int (((0 : Int32) + (2 : Int32)) + (2 : Int32)))])
  refine Go.st (fun _ h => XS.aloadN X2.here hx rfl (hb hby d_prog_85_method_13_code_3) rfl rfl h) ?_
  show Go p e below _ T2 (mkF m 4 #[.val (.ref d1), .val (.ref q), .val (.int (((0 : Int32) + (2 : Int32)) + (2 : Int32)))] [(.ref d1), (.int (((0 : Int32) + (2 : Int32)) + (2 : Int32)))])
  refine Go.st (own_len X2 hx hZ e2 B_d rfl rfl (hb hby d_prog_85_method_13_code_4)) ?_
  show Go p e below _ T2 (mkF m 5 #[.val (.ref d1), .val (.ref q), .val (.int (((0 : Int32) + (2 : Int32)) + (2 : Int32)))] [(.int (6 : Int32)), (.int (((0 : Int32) + (2 : Int32)) + (2 : Int32)))])
  refine Go.st (fun _ h => XS.icmpNo X2.here hx rfl (hb hby d_prog_85_method_13_code_5) rfl (by decide) h) ?_
  show Go p e below _ T2 (mkF m 8 #[.val (.ref d1), .val (.ref q), .val (.int (((0 : Int32) + (2 : Int32)) + (2 : Int32)))] [])
  refine Go.st (fun _ h => XS.aloadN X2.here hx rfl (hb hby d_prog_85_method_13_code_8) rfl rfl h) ?_
  show Go p e below _ T2 (mkF m 9 #[.val (.ref d1), .val (.ref q), .val (.int (((0 : Int32) + (2 : Int32)) + (2 : Int32)))] [(.ref d1)])
  refine Go.st (fun _ h => XS.iloadN X2.here hx rfl (hb hby d_prog_85_method_13_code_9) rfl h) ?_
  show Go p e below _ T2 (mkF m 10 #[.val (.ref d1), .val (.ref q), .val (.int (((0 : Int32) + (2 : Int32)) + (2 : Int32)))] [(.int (((0 : Int32) + (2 : Int32)) + (2 : Int32))), (.ref d1)])
  refine Go.st (own_ldR X2 hx hZ e2 B_d rfl (by decide) (by decide) rfl rfl rfl (hb hby d_prog_85_method_13_code_10)) ?_
  show Go p e below _ T2 (mkF m 11 #[.val (.ref d1), .val (.ref q), .val (.int (((0 : Int32) + (2 : Int32)) + (2 : Int32)))] [(.ref s2)])
  refine Go.st (fun _ h => XS.aloadN X2.here hx rfl (hb hby d_prog_85_method_13_code_11) rfl rfl h) ?_
  show Go p e below _ T2 (mkF m 12 #[.val (.ref d1), .val (.ref q), .val (.int (((0 : Int32) + (2 : Int32)) + (2 : Int32)))] [(.ref q), (.ref s2)])
  obtain ⟨T3, X3, e3, st3⟩ := own_still rfl rfl (Does.virtual (y := (⟨"java/lang/String", "equals", "(Ljava/lang/Object;)Z"⟩ : MethodName)) (g := (mkF m 12 #[.val (.ref d1), .val (.ref q), .val (.int (((0 : Int32) + (2 : Int32)) + (2 : Int32)))] [(.ref q), (.ref s2)])) (a := s2) (rmEq l Z a0 hw s2 q ts2 tq ks2 kq l2 lq hl2 hlq h0 E_s2 C_s2 V_s2 E_q C_q V_q B_s2 B_q zc S_CS hzc ne2) X2 hx hZ hown e2 E_s2 (hw _ (List.mem_of_getElem? (i := 51) rfl)) (hw _ (List.mem_of_getElem? (i := 52) rfl)) (hw _ (List.mem_of_getElem? (i := 54) rfl)) (hw _ (List.mem_of_getElem? (i := 53) rfl)) (hw _ (List.mem_of_getElem? (i := 12) rfl)) (hw _ (List.mem_of_getElem? (i := 55) rfl)) (by decide) rfl (by rw [hml]; rfl) (argsL := [(.ref q)]) (rest := []) (lenOf pd_28Ljava2flang2fObject3b29Z rfl) rfl (hb hby d_prog_85_method_13_code_12) (W := 0) (by show 2 * 0 + _ ≤ _; exact Nat.le_of_eq rfl) (by decide) (by decide) (by decide) (by decide))
  refine Go.st st3 ?_
  show Go p e below _ T3 (mkF m 15 #[.val (.ref d1), .val (.ref q), .val (.int (((0 : Int32) + (2 : Int32)) + (2 : Int32)))] [(.int (if l2 = lq then 1 else 0))])
  refine Go.st (fun _ h => XS.ifNo X3.here hx rfl (hb hby d_prog_85_method_13_code_15) rfl ((if0 _ _).trans (feq (by rw [if_pos hq2]; decide : ¬ ((if l2 = lq then 1 else 0) = (0 : Int32)))).1) h) ?_
  show Go p e below _ T3 (mkF m 18 #[.val (.ref d1), .val (.ref q), .val (.int (((0 : Int32) + (2 : Int32)) + (2 : Int32)))] [])
  refine Go.st (fun _ h => XS.aloadN X3.here hx rfl (hb hby d_prog_85_method_13_code_18) rfl rfl h) ?_
  show Go p e below _ T3 (mkF m 19 #[.val (.ref d1), .val (.ref q), .val (.int (((0 : Int32) + (2 : Int32)) + (2 : Int32)))] [(.ref d1)])
  refine Go.st (fun _ h => XS.iloadN X3.here hx rfl (hb hby d_prog_85_method_13_code_19) rfl h) ?_
  show Go p e below _ T3 (mkF m 20 #[.val (.ref d1), .val (.ref q), .val (.int (((0 : Int32) + (2 : Int32)) + (2 : Int32)))] [(.int (((0 : Int32) + (2 : Int32)) + (2 : Int32))), (.ref d1)])
  refine Go.st (fun _ h => XT.iconstV X3.here hx rfl (1 : Int32) (hb hby d_prog_85_method_13_code_20) (by decide) h) ?_
  show Go p e below _ T3 (mkF m 21 #[.val (.ref d1), .val (.ref q), .val (.int (((0 : Int32) + (2 : Int32)) + (2 : Int32)))] [(.int (1 : Int32)), (.int (((0 : Int32) + (2 : Int32)) + (2 : Int32))), (.ref d1)])
  refine Go.st (fun _ h => XS.iadd X3.here hx rfl (hb hby d_prog_85_method_13_code_21) rfl h) ?_
  show Go p e below _ T3 (mkF m 22 #[.val (.ref d1), .val (.ref q), .val (.int (((0 : Int32) + (2 : Int32)) + (2 : Int32)))] [(.int ((((0 : Int32) + (2 : Int32)) + (2 : Int32)) + (1 : Int32))), (.ref d1)])
  refine Go.st (own_ldR X3 hx hZ e3 B_d rfl (by decide) (by decide) rfl rfl rfl (hb hby d_prog_85_method_13_code_22)) ?_
  show Go p e below _ T3 (mkF m 23 #[.val (.ref d1), .val (.ref q), .val (.int (((0 : Int32) + (2 : Int32)) + (2 : Int32)))] [(.ref u2)])
  refine Go.retA X3 hx hlk hret rfl rfl rfl (hb hby d_prog_85_method_13_code_23) (by decide) (by decide) ?_
  exact ⟨rfl, rfl, e3⟩
theorem ef_rmDecl3_n (x0 : Addr) (x1 : Addr) (m : MethodId) : entryFrame m #[(.ref x0), (.ref x1)] 3 = mkF m 0 #[.val (.ref x0), .val (.ref x1), .unset] [] := by first | (simp [entryFrame, mkF, argsToLocals, Value.category]; done) | rfl
set_option maxRecDepth 65536 in
set_option maxHeartbeats 40000000 in
theorem rmDecl3_n (l : Launch) (Z : State) (a0 : Array Value) (hw : ∀ d ∈ tables_1, d.before a0 Z = true) (d1 q tq : Addr) (kd kq : ClassId) (lq : List Int32) (hlq : lq.length ≤ 2) (s0 u0 ts0 : Addr) (ks0 : ClassId) (l0 : List Int32) (hl0 : l0.length ≤ 2) (ne0 : ¬ s0 = q) (s1 u1 ts1 : Addr) (ks1 : ClassId) (l1 : List Int32) (hl1 : l1.length ≤ 2) (ne1 : ¬ s1 = q) (s2 u2 ts2 : Addr) (ks2 : ClassId) (l2 : List Int32) (hl2 : l2.length ≤ 2) (ne2 : ¬ s2 = q) (h0 : Heap) (E_q : Exa Z h0 q "java/lang/String") (C_q : Fld Z h0 q "java/lang/String" "coder" "B" (.int (0 : Int32))) (V_q : Fld Z h0 q "java/lang/String" "value" "[B" (.ref tq)) (B_q : Arv Z h0 tq kq .byte (Int32.ofNat lq.length) (lq.map Value.int) (.int (0 : Int32))) (E_s0 : Exa Z h0 s0 "java/lang/String") (C_s0 : Fld Z h0 s0 "java/lang/String" "coder" "B" (.int (0 : Int32))) (V_s0 : Fld Z h0 s0 "java/lang/String" "value" "[B" (.ref ts0)) (B_s0 : Arv Z h0 ts0 ks0 .byte (Int32.ofNat l0.length) (l0.map Value.int) (.int (0 : Int32))) (E_s1 : Exa Z h0 s1 "java/lang/String") (C_s1 : Fld Z h0 s1 "java/lang/String" "coder" "B" (.int (0 : Int32))) (V_s1 : Fld Z h0 s1 "java/lang/String" "value" "[B" (.ref ts1)) (B_s1 : Arv Z h0 ts1 ks1 .byte (Int32.ofNat l1.length) (l1.map Value.int) (.int (0 : Int32))) (E_s2 : Exa Z h0 s2 "java/lang/String") (C_s2 : Fld Z h0 s2 "java/lang/String" "coder" "B" (.int (0 : Int32))) (V_s2 : Fld Z h0 s2 "java/lang/String" "value" "[B" (.ref ts2)) (B_s2 : Arv Z h0 ts2 ks2 .byte (Int32.ofNat l2.length) (l2.map Value.int) (.int (0 : Int32))) (B_d : Arv Z h0 d1 kd (.object "java/lang/String") (6 : Int32) [(.ref s0), (.ref u0), (.ref s1), (.ref u1), (.ref s2), (.ref u2)] .null) (zc : Int32) (S_CS : Sta Z h0 "java/lang/String" "COMPACT_STRINGS" "Z" (.int zc)) (hzc : ¬ zc = (0 : Int32)) (hq0 : ¬ l0 = lq) (hq1 : ¬ l1 = lq) (hq2 : ¬ l2 = lq) :
    Does l Z (⟨"com/example/tenon/tenon/core/XmlElement", "declared", "([Ljava/lang/String;Ljava/lang/String;)Ljava/lang/String;"⟩ : MethodName) prog_85_method_13_code 3 (some (.object "java/lang/String")) [] ({ frames := 2, cells := 0, slots := 0, locals := 28 } : Room) #[(.ref d1), (.ref q)] h0 (Val (some .null) h0) := by
  refine Does.intro (plainFor_of_name pn_com_example_tenon_tenon_core_XmlElement) (ef_rmDecl3_n d1 q) ?_
  intro p e s m below meth c s₁ hx hby hml hown hnm hret hlk hZ e0 X0
  show Go p e below _ s₁ (mkF m 0 #[.val (.ref d1), .val (.ref q), .unset] [])
  refine Go.st (fun _ h => XT.iconstV X0.here hx rfl (0 : Int32) (hb hby d_prog_85_method_13_code_0) (by decide) h) ?_
  show Go p e below _ s₁ (mkF m 1 #[.val (.ref d1), .val (.ref q), .unset] [(.int (0 : Int32))])
  refine Go.st (fun _ h => XS.istoreN X0.here hx rfl (hb hby d_prog_85_method_13_code_1) rfl (l' := #[.val (.ref d1), .val (.ref q), .val (.int (0 : Int32))]) rfl h) ?_
  show Go p e below _ s₁ (mkF m 2 #[.val (.ref d1), .val (.ref q), .val (.int (0 : Int32))] [])
  refine Go.st (fun _ h => XS.iloadN X0.here hx rfl (hb hby d_prog_85_method_13_code_2) rfl h) ?_
  show Go p e below _ s₁ (mkF m 3 #[.val (.ref d1), .val (.ref q), .val (.int (0 : Int32))] [(.int (0 : Int32))])
  refine Go.st (fun _ h => XS.aloadN X0.here hx rfl (hb hby d_prog_85_method_13_code_3) rfl rfl h) ?_
  show Go p e below _ s₁ (mkF m 4 #[.val (.ref d1), .val (.ref q), .val (.int (0 : Int32))] [(.ref d1), (.int (0 : Int32))])
  refine Go.st (own_len X0 hx hZ e0 B_d rfl rfl (hb hby d_prog_85_method_13_code_4)) ?_
  show Go p e below _ s₁ (mkF m 5 #[.val (.ref d1), .val (.ref q), .val (.int (0 : Int32))] [(.int (6 : Int32)), (.int (0 : Int32))])
  refine Go.st (fun _ h => XS.icmpNo X0.here hx rfl (hb hby d_prog_85_method_13_code_5) rfl (by decide) h) ?_
  show Go p e below _ s₁ (mkF m 8 #[.val (.ref d1), .val (.ref q), .val (.int (0 : Int32))] [])
  refine Go.st (fun _ h => XS.aloadN X0.here hx rfl (hb hby d_prog_85_method_13_code_8) rfl rfl h) ?_
  show Go p e below _ s₁ (mkF m 9 #[.val (.ref d1), .val (.ref q), .val (.int (0 : Int32))] [(.ref d1)])
  refine Go.st (fun _ h => XS.iloadN X0.here hx rfl (hb hby d_prog_85_method_13_code_9) rfl h) ?_
  show Go p e below _ s₁ (mkF m 10 #[.val (.ref d1), .val (.ref q), .val (.int (0 : Int32))] [(.int (0 : Int32)), (.ref d1)])
  refine Go.st (own_ldR X0 hx hZ e0 B_d rfl (by decide) (by decide) rfl rfl rfl (hb hby d_prog_85_method_13_code_10)) ?_
  show Go p e below _ s₁ (mkF m 11 #[.val (.ref d1), .val (.ref q), .val (.int (0 : Int32))] [(.ref s0)])
  refine Go.st (fun _ h => XS.aloadN X0.here hx rfl (hb hby d_prog_85_method_13_code_11) rfl rfl h) ?_
  show Go p e below _ s₁ (mkF m 12 #[.val (.ref d1), .val (.ref q), .val (.int (0 : Int32))] [(.ref q), (.ref s0)])
  obtain ⟨T1, X1, e1, st1⟩ := own_still rfl rfl (Does.virtual (y := (⟨"java/lang/String", "equals", "(Ljava/lang/Object;)Z"⟩ : MethodName)) (g := (mkF m 12 #[.val (.ref d1), .val (.ref q), .val (.int (0 : Int32))] [(.ref q), (.ref s0)])) (a := s0) (rmEq l Z a0 hw s0 q ts0 tq ks0 kq l0 lq hl0 hlq h0 E_s0 C_s0 V_s0 E_q C_q V_q B_s0 B_q zc S_CS hzc ne0) X0 hx hZ hown e0 E_s0 (hw _ (List.mem_of_getElem? (i := 51) rfl)) (hw _ (List.mem_of_getElem? (i := 52) rfl)) (hw _ (List.mem_of_getElem? (i := 54) rfl)) (hw _ (List.mem_of_getElem? (i := 53) rfl)) (hw _ (List.mem_of_getElem? (i := 12) rfl)) (hw _ (List.mem_of_getElem? (i := 55) rfl)) (by decide) rfl (by rw [hml]; rfl) (argsL := [(.ref q)]) (rest := []) (lenOf pd_28Ljava2flang2fObject3b29Z rfl) rfl (hb hby d_prog_85_method_13_code_12) (W := 0) (by show 2 * 0 + _ ≤ _; exact Nat.le_of_eq rfl) (by decide) (by decide) (by decide) (by decide))
  refine Go.st st1 ?_
  show Go p e below _ T1 (mkF m 15 #[.val (.ref d1), .val (.ref q), .val (.int (0 : Int32))] [(.int (if l0 = lq then 1 else 0))])
  refine Go.st (fun _ h => XS.ifYes X1.here hx rfl (pc0 := 15) (pc' := 24) rfl (hb hby d_prog_85_method_13_code_15) rfl ((if0 _ _).trans (teq (by rw [if_neg hq0] : (if l0 = lq then 1 else 0) = (0 : Int32))).1) (by decide) (by decide) h) ?_
  show Go p e below _ T1 (mkF m 24 #[.val (.ref d1), .val (.ref q), .val (.int (0 : Int32))] [])
  refine Go.st (fun _ h => XT.iincV X1.here hx rfl (2 : Int32) (hb hby d_prog_85_method_13_code_24) (by decide) rfl (l' := #[.val (.ref d1), .val (.ref q), .val (.int ((0 : Int32) + (2 : Int32)))]) rfl h) ?_
  show Go p e below _ T1 (mkF m 27 #[.val (.ref d1), .val (.ref q), .val (.int ((0 : Int32) + (2 : Int32)))] [])
  refine Go.st (fun _ h => XS.goto X1.here hx rfl (pc0 := 27) (pc' := 2) rfl (hb hby d_prog_85_method_13_code_27) (by decide) (by decide) h) ?_
  show Go p e below _ T1 (mkF m 2 #[.val (.ref d1), .val (.ref q), .val (.int ((0 : Int32) + (2 : Int32)))] [])
  refine Go.st (fun _ h => XS.iloadN X1.here hx rfl (hb hby d_prog_85_method_13_code_2) rfl h) ?_
  show Go p e below _ T1 (mkF m 3 #[.val (.ref d1), .val (.ref q), .val (.int ((0 : Int32) + (2 : Int32)))] [(.int ((0 : Int32) + (2 : Int32)))])
  refine Go.st (fun _ h => XS.aloadN X1.here hx rfl (hb hby d_prog_85_method_13_code_3) rfl rfl h) ?_
  show Go p e below _ T1 (mkF m 4 #[.val (.ref d1), .val (.ref q), .val (.int ((0 : Int32) + (2 : Int32)))] [(.ref d1), (.int ((0 : Int32) + (2 : Int32)))])
  refine Go.st (own_len X1 hx hZ e1 B_d rfl rfl (hb hby d_prog_85_method_13_code_4)) ?_
  show Go p e below _ T1 (mkF m 5 #[.val (.ref d1), .val (.ref q), .val (.int ((0 : Int32) + (2 : Int32)))] [(.int (6 : Int32)), (.int ((0 : Int32) + (2 : Int32)))])
  refine Go.st (fun _ h => XS.icmpNo X1.here hx rfl (hb hby d_prog_85_method_13_code_5) rfl (by decide) h) ?_
  show Go p e below _ T1 (mkF m 8 #[.val (.ref d1), .val (.ref q), .val (.int ((0 : Int32) + (2 : Int32)))] [])
  refine Go.st (fun _ h => XS.aloadN X1.here hx rfl (hb hby d_prog_85_method_13_code_8) rfl rfl h) ?_
  show Go p e below _ T1 (mkF m 9 #[.val (.ref d1), .val (.ref q), .val (.int ((0 : Int32) + (2 : Int32)))] [(.ref d1)])
  refine Go.st (fun _ h => XS.iloadN X1.here hx rfl (hb hby d_prog_85_method_13_code_9) rfl h) ?_
  show Go p e below _ T1 (mkF m 10 #[.val (.ref d1), .val (.ref q), .val (.int ((0 : Int32) + (2 : Int32)))] [(.int ((0 : Int32) + (2 : Int32))), (.ref d1)])
  refine Go.st (own_ldR X1 hx hZ e1 B_d rfl (by decide) (by decide) rfl rfl rfl (hb hby d_prog_85_method_13_code_10)) ?_
  show Go p e below _ T1 (mkF m 11 #[.val (.ref d1), .val (.ref q), .val (.int ((0 : Int32) + (2 : Int32)))] [(.ref s1)])
  refine Go.st (fun _ h => XS.aloadN X1.here hx rfl (hb hby d_prog_85_method_13_code_11) rfl rfl h) ?_
  show Go p e below _ T1 (mkF m 12 #[.val (.ref d1), .val (.ref q), .val (.int ((0 : Int32) + (2 : Int32)))] [(.ref q), (.ref s1)])
  obtain ⟨T2, X2, e2, st2⟩ := own_still rfl rfl (Does.virtual (y := (⟨"java/lang/String", "equals", "(Ljava/lang/Object;)Z"⟩ : MethodName)) (g := (mkF m 12 #[.val (.ref d1), .val (.ref q), .val (.int ((0 : Int32) + (2 : Int32)))] [(.ref q), (.ref s1)])) (a := s1) (rmEq l Z a0 hw s1 q ts1 tq ks1 kq l1 lq hl1 hlq h0 E_s1 C_s1 V_s1 E_q C_q V_q B_s1 B_q zc S_CS hzc ne1) X1 hx hZ hown e1 E_s1 (hw _ (List.mem_of_getElem? (i := 51) rfl)) (hw _ (List.mem_of_getElem? (i := 52) rfl)) (hw _ (List.mem_of_getElem? (i := 54) rfl)) (hw _ (List.mem_of_getElem? (i := 53) rfl)) (hw _ (List.mem_of_getElem? (i := 12) rfl)) (hw _ (List.mem_of_getElem? (i := 55) rfl)) (by decide) rfl (by rw [hml]; rfl) (argsL := [(.ref q)]) (rest := []) (lenOf pd_28Ljava2flang2fObject3b29Z rfl) rfl (hb hby d_prog_85_method_13_code_12) (W := 0) (by show 2 * 0 + _ ≤ _; exact Nat.le_of_eq rfl) (by decide) (by decide) (by decide) (by decide))
  refine Go.st st2 ?_
  show Go p e below _ T2 (mkF m 15 #[.val (.ref d1), .val (.ref q), .val (.int ((0 : Int32) + (2 : Int32)))] [(.int (if l1 = lq then 1 else 0))])
  refine Go.st (fun _ h => XS.ifYes X2.here hx rfl (pc0 := 15) (pc' := 24) rfl (hb hby d_prog_85_method_13_code_15) rfl ((if0 _ _).trans (teq (by rw [if_neg hq1] : (if l1 = lq then 1 else 0) = (0 : Int32))).1) (by decide) (by decide) h) ?_
  show Go p e below _ T2 (mkF m 24 #[.val (.ref d1), .val (.ref q), .val (.int ((0 : Int32) + (2 : Int32)))] [])
  refine Go.st (fun _ h => XT.iincV X2.here hx rfl (2 : Int32) (hb hby d_prog_85_method_13_code_24) (by decide) rfl (l' := #[.val (.ref d1), .val (.ref q), .val (.int (((0 : Int32) + (2 : Int32)) + (2 : Int32)))]) rfl h) ?_
  show Go p e below _ T2 (mkF m 27 #[.val (.ref d1), .val (.ref q), .val (.int (((0 : Int32) + (2 : Int32)) + (2 : Int32)))] [])
  refine Go.st (fun _ h => XS.goto X2.here hx rfl (pc0 := 27) (pc' := 2) rfl (hb hby d_prog_85_method_13_code_27) (by decide) (by decide) h) ?_
  show Go p e below _ T2 (mkF m 2 #[.val (.ref d1), .val (.ref q), .val (.int (((0 : Int32) + (2 : Int32)) + (2 : Int32)))] [])
  refine Go.st (fun _ h => XS.iloadN X2.here hx rfl (hb hby d_prog_85_method_13_code_2) rfl h) ?_
  show Go p e below _ T2 (mkF m 3 #[.val (.ref d1), .val (.ref q), .val (.int (((0 : Int32) + (2 : Int32)) + (2 : Int32)))] [(.int (((0 : Int32) + (2 : Int32)) + (2 : Int32)))])
  refine Go.st (fun _ h => XS.aloadN X2.here hx rfl (hb hby d_prog_85_method_13_code_3) rfl rfl h) ?_
  show Go p e below _ T2 (mkF m 4 #[.val (.ref d1), .val (.ref q), .val (.int (((0 : Int32) + (2 : Int32)) + (2 : Int32)))] [(.ref d1), (.int (((0 : Int32) + (2 : Int32)) + (2 : Int32)))])
  refine Go.st (own_len X2 hx hZ e2 B_d rfl rfl (hb hby d_prog_85_method_13_code_4)) ?_
  show Go p e below _ T2 (mkF m 5 #[.val (.ref d1), .val (.ref q), .val (.int (((0 : Int32) + (2 : Int32)) + (2 : Int32)))] [(.int (6 : Int32)), (.int (((0 : Int32) + (2 : Int32)) + (2 : Int32)))])
  refine Go.st (fun _ h => XS.icmpNo X2.here hx rfl (hb hby d_prog_85_method_13_code_5) rfl (by decide) h) ?_
  show Go p e below _ T2 (mkF m 8 #[.val (.ref d1), .val (.ref q), .val (.int (((0 : Int32) + (2 : Int32)) + (2 : Int32)))] [])
  refine Go.st (fun _ h => XS.aloadN X2.here hx rfl (hb hby d_prog_85_method_13_code_8) rfl rfl h) ?_
  show Go p e below _ T2 (mkF m 9 #[.val (.ref d1), .val (.ref q), .val (.int (((0 : Int32) + (2 : Int32)) + (2 : Int32)))] [(.ref d1)])
  refine Go.st (fun _ h => XS.iloadN X2.here hx rfl (hb hby d_prog_85_method_13_code_9) rfl h) ?_
  show Go p e below _ T2 (mkF m 10 #[.val (.ref d1), .val (.ref q), .val (.int (((0 : Int32) + (2 : Int32)) + (2 : Int32)))] [(.int (((0 : Int32) + (2 : Int32)) + (2 : Int32))), (.ref d1)])
  refine Go.st (own_ldR X2 hx hZ e2 B_d rfl (by decide) (by decide) rfl rfl rfl (hb hby d_prog_85_method_13_code_10)) ?_
  show Go p e below _ T2 (mkF m 11 #[.val (.ref d1), .val (.ref q), .val (.int (((0 : Int32) + (2 : Int32)) + (2 : Int32)))] [(.ref s2)])
  refine Go.st (fun _ h => XS.aloadN X2.here hx rfl (hb hby d_prog_85_method_13_code_11) rfl rfl h) ?_
  show Go p e below _ T2 (mkF m 12 #[.val (.ref d1), .val (.ref q), .val (.int (((0 : Int32) + (2 : Int32)) + (2 : Int32)))] [(.ref q), (.ref s2)])
  obtain ⟨T3, X3, e3, st3⟩ := own_still rfl rfl (Does.virtual (y := (⟨"java/lang/String", "equals", "(Ljava/lang/Object;)Z"⟩ : MethodName)) (g := (mkF m 12 #[.val (.ref d1), .val (.ref q), .val (.int (((0 : Int32) + (2 : Int32)) + (2 : Int32)))] [(.ref q), (.ref s2)])) (a := s2) (rmEq l Z a0 hw s2 q ts2 tq ks2 kq l2 lq hl2 hlq h0 E_s2 C_s2 V_s2 E_q C_q V_q B_s2 B_q zc S_CS hzc ne2) X2 hx hZ hown e2 E_s2 (hw _ (List.mem_of_getElem? (i := 51) rfl)) (hw _ (List.mem_of_getElem? (i := 52) rfl)) (hw _ (List.mem_of_getElem? (i := 54) rfl)) (hw _ (List.mem_of_getElem? (i := 53) rfl)) (hw _ (List.mem_of_getElem? (i := 12) rfl)) (hw _ (List.mem_of_getElem? (i := 55) rfl)) (by decide) rfl (by rw [hml]; rfl) (argsL := [(.ref q)]) (rest := []) (lenOf pd_28Ljava2flang2fObject3b29Z rfl) rfl (hb hby d_prog_85_method_13_code_12) (W := 0) (by show 2 * 0 + _ ≤ _; exact Nat.le_of_eq rfl) (by decide) (by decide) (by decide) (by decide))
  refine Go.st st3 ?_
  show Go p e below _ T3 (mkF m 15 #[.val (.ref d1), .val (.ref q), .val (.int (((0 : Int32) + (2 : Int32)) + (2 : Int32)))] [(.int (if l2 = lq then 1 else 0))])
  refine Go.st (fun _ h => XS.ifYes X3.here hx rfl (pc0 := 15) (pc' := 24) rfl (hb hby d_prog_85_method_13_code_15) rfl ((if0 _ _).trans (teq (by rw [if_neg hq2] : (if l2 = lq then 1 else 0) = (0 : Int32))).1) (by decide) (by decide) h) ?_
  show Go p e below _ T3 (mkF m 24 #[.val (.ref d1), .val (.ref q), .val (.int (((0 : Int32) + (2 : Int32)) + (2 : Int32)))] [])
  refine Go.st (fun _ h => XT.iincV X3.here hx rfl (2 : Int32) (hb hby d_prog_85_method_13_code_24) (by decide) rfl (l' := #[.val (.ref d1), .val (.ref q), .val (.int ((((0 : Int32) + (2 : Int32)) + (2 : Int32)) + (2 : Int32)))]) rfl h) ?_
  show Go p e below _ T3 (mkF m 27 #[.val (.ref d1), .val (.ref q), .val (.int ((((0 : Int32) + (2 : Int32)) + (2 : Int32)) + (2 : Int32)))] [])
  refine Go.st (fun _ h => XS.goto X3.here hx rfl (pc0 := 27) (pc' := 2) rfl (hb hby d_prog_85_method_13_code_27) (by decide) (by decide) h) ?_
  show Go p e below _ T3 (mkF m 2 #[.val (.ref d1), .val (.ref q), .val (.int ((((0 : Int32) + (2 : Int32)) + (2 : Int32)) + (2 : Int32)))] [])
  refine Go.st (fun _ h => XS.iloadN X3.here hx rfl (hb hby d_prog_85_method_13_code_2) rfl h) ?_
  show Go p e below _ T3 (mkF m 3 #[.val (.ref d1), .val (.ref q), .val (.int ((((0 : Int32) + (2 : Int32)) + (2 : Int32)) + (2 : Int32)))] [(.int ((((0 : Int32) + (2 : Int32)) + (2 : Int32)) + (2 : Int32)))])
  refine Go.st (fun _ h => XS.aloadN X3.here hx rfl (hb hby d_prog_85_method_13_code_3) rfl rfl h) ?_
  show Go p e below _ T3 (mkF m 4 #[.val (.ref d1), .val (.ref q), .val (.int ((((0 : Int32) + (2 : Int32)) + (2 : Int32)) + (2 : Int32)))] [(.ref d1), (.int ((((0 : Int32) + (2 : Int32)) + (2 : Int32)) + (2 : Int32)))])
  refine Go.st (own_len X3 hx hZ e3 B_d rfl rfl (hb hby d_prog_85_method_13_code_4)) ?_
  show Go p e below _ T3 (mkF m 5 #[.val (.ref d1), .val (.ref q), .val (.int ((((0 : Int32) + (2 : Int32)) + (2 : Int32)) + (2 : Int32)))] [(.int (6 : Int32)), (.int ((((0 : Int32) + (2 : Int32)) + (2 : Int32)) + (2 : Int32)))])
  refine Go.st (fun _ h => XS.icmpYes X3.here hx rfl (pc0 := 5) (pc' := 30) rfl (hb hby d_prog_85_method_13_code_5) rfl (by decide) (by decide) (by decide) h) ?_
  show Go p e below _ T3 (mkF m 30 #[.val (.ref d1), .val (.ref q), .val (.int ((((0 : Int32) + (2 : Int32)) + (2 : Int32)) + (2 : Int32)))] [])
  refine Go.st (fun _ h => XS.aconstNull X3.here hx rfl (hb hby d_prog_85_method_13_code_30) h) ?_
  show Go p e below _ T3 (mkF m 31 #[.val (.ref d1), .val (.ref q), .val (.int ((((0 : Int32) + (2 : Int32)) + (2 : Int32)) + (2 : Int32)))] [.null])
  refine Go.retA X3 hx hlk hret rfl rfl rfl (hb hby d_prog_85_method_13_code_31) (by decide) (by decide) ?_
  exact ⟨rfl, rfl, e3⟩
theorem ef_rmSI4 (x0 : Addr) (x1 : Addr) (x2 : Int32) (x3 : Int32) (m : MethodId) : entryFrame m #[(.ref x0), (.ref x1), (.int x2), (.int x3), .null] 6 = mkF m 0 #[.val (.ref x0), .val (.ref x1), .val (.int x2), .val (.int x3), .val .null, .unset] [] := by first | (simp [entryFrame, mkF, argsToLocals, Value.category]; done) | rfl
set_option maxRecDepth 65536 in
set_option maxHeartbeats 40000000 in
theorem rmSI4 (l : Launch) (Z : State) (a0 : Array Value) (hw : ∀ d ∈ tables_1, d.before a0 Z = true) (hEL : EW Z a0 consts_1) (wS : ∀ a ∈ Bundle.stringAtoms, a.before a0 Z = true) (b1 b2 : Addr) (h0 : Heap) (n0 : Nat) (Z0 : n0 ≤ h0.size) (E1 : Exa Z h0 b1 "java/lang/String") (F_v : Fld Z h0 b1 "java/lang/String" "value" "[B" .null) (F_c : Fld Z h0 b1 "java/lang/String" "coder" "B" (.int (0 : Int32))) (g_b1 : n0 ≤ b1) :
    DoesH l Z consts_1 (⟨"java/lang/String", "<init>", "([CIILjava/lang/Void;)V"⟩ : MethodName) jdk_42_method_149_code 6 none [] ({ frames := 1, cells := 4, slots := 8, locals := 14 } : Room) #[(.ref b1), (.ref b2), (.int (0 : Int32)), (.int (0 : Int32)), .null] h0 (fun v h L => ∃ t kt, v = none ∧ Fr n0 L ∧ Keep h0 h [b1] ∧ Fld Z h b1 "java/lang/String" "coder" "B" (.int (0 : Int32)) ∧ Fld Z h b1 "java/lang/String" "value" "[B" (.ref t) ∧ Arv Z h t kt .byte (0 : Int32) [] (.int (0 : Int32))) := by
  refine DoesH.intro (plainFor_of_name pn_java_lang_String) (ef_rmSI4 b1 b2 (0 : Int32) (0 : Int32)) ?_
  intro p e s m below meth c s₁ hx hby hml hown hnm hret hlk hZ e0 hS RR X0
  have hkS : 0 ≤ h0.size := Nat.zero_le _
  show Go p e below _ s₁ (mkF m 0 #[.val (.ref b1), .val (.ref b2), .val (.int (0 : Int32)), .val (.int (0 : Int32)), .val .null, .unset] [])
  have N0 := Fr.nil n0
  have QQ := own_safeN (EL := consts_1) hZ.alike E1 F_v
  refine Go.st (fun _ h => XS.aloadN X0.here hx rfl (hb hby d_jdk_42_method_149_code_0) rfl rfl h) ?_
  show Go p e below _ s₁ (mkF m 1 #[.val (.ref b1), .val (.ref b2), .val (.int (0 : Int32)), .val (.int (0 : Int32)), .val .null, .unset] [(.ref b1)])
  obtain ⟨T1, X1, e1, st1⟩ := initO X0 hx hZ hown (hw _ (List.mem_of_getElem? (i := 21) rfl)) (hw _ (List.mem_of_getElem? (i := 22) rfl)) (hw _ (List.mem_of_getElem? (i := 23) rfl)) e0 (g := (mkF m 1 #[.val (.ref b1), .val (.ref b2), .val (.int (0 : Int32)), .val (.int (0 : Int32)), .val .null, .unset] [(.ref b1)])) rfl (by rw [hml]; rfl) rfl (hb hby d_jdk_42_method_149_code_1) (by decide) (W := 0) (by show 2 * 0 + _ ≤ _; exact Nat.le_of_eq rfl) (by decide)
  refine Go.st st1 ?_
  show Go p e below _ T1 (mkF m 4 #[.val (.ref b1), .val (.ref b2), .val (.int (0 : Int32)), .val (.int (0 : Int32)), .val .null, .unset] [])
  refine Go.st (fun _ h => XS.iloadN X1.here hx rfl (hb hby d_jdk_42_method_149_code_4) rfl h) ?_
  show Go p e below _ T1 (mkF m 5 #[.val (.ref b1), .val (.ref b2), .val (.int (0 : Int32)), .val (.int (0 : Int32)), .val .null, .unset] [(.int (0 : Int32))])
  refine Go.st (fun _ h => XS.ifNo X1.here hx rfl (hb hby d_jdk_42_method_149_code_5) rfl (by decide) h) ?_
  show Go p e below _ T1 (mkF m 8 #[.val (.ref b1), .val (.ref b2), .val (.int (0 : Int32)), .val (.int (0 : Int32)), .val .null, .unset] [])
  refine Go.st (fun _ h => XS.aloadN X1.here hx rfl (hb hby d_jdk_42_method_149_code_8) rfl rfl h) ?_
  show Go p e below _ T1 (mkF m 9 #[.val (.ref b1), .val (.ref b2), .val (.int (0 : Int32)), .val (.int (0 : Int32)), .val .null, .unset] [(.ref b1)])
  obtain ⟨c2, T2, h2, k2, t2, q2, X2, e2, E2, hS, hkS2, hZ, hown, A2, C2, V2, B2, lt2, lu2, CC2, -, nc2, st2⟩ := ldcCH (s := s) X1 hx hZ hown (hw _ (List.mem_of_getElem? (i := 45) rfl)) wS e1 hS hkS hEL (List.mem_of_getElem? (i := 3) rfl) RR.1 (vs := []) (z := (0 : Int32)) ⟨by decide, by decide⟩ (by decide) (by decide) (g := (mkF m 9 #[.val (.ref b1), .val (.ref b2), .val (.int (0 : Int32)), .val (.int (0 : Int32)), .val .null, .unset] [(.ref b1)])) rfl (hb hby d_jdk_42_method_149_code_9) (n := 0) (by decide) (by decide) (by decide) (by decide)
  have E2_0 := E1.ext E2
  have F2_1 := F_c.ext E2
  have F2_2 := F_v.ext E2
  have Q2_3 := CC2.safe E1.lt QQ
  have K2 := (Keep.refl _ [b1]).ext E2
  have RR2 := RR.trans CC2
  have nc_b1_2 := nc2 _ Q2_3
  refine Go.st st2 ?_
  show Go p e below _ T2 (mkF m 11 #[.val (.ref b1), .val (.ref b2), .val (.int (0 : Int32)), .val (.int (0 : Int32)), .val .null, .unset] [(.ref c2), (.ref b1)])
  obtain ⟨T3, X3, e3, st3⟩ := getF X2 hx hZ hown (host := "") (Or.inl (hw _ (List.mem_of_getElem? (i := 38) rfl))) Via.refl e2 V2 (g := (mkF m 11 #[.val (.ref b1), .val (.ref b2), .val (.int (0 : Int32)), .val (.int (0 : Int32)), .val .null, .unset] [(.ref c2), (.ref b1)])) rfl rfl (hb hby d_jdk_42_method_149_code_11)
  refine Go.st st3 ?_
  show Go p e below _ T3 (mkF m 14 #[.val (.ref b1), .val (.ref b2), .val (.int (0 : Int32)), .val (.int (0 : Int32)), .val .null, .unset] [(.ref t2), (.ref b1)])
  obtain ⟨T4, h4, X4, e4, W4, st4⟩ := putF X3 hx hZ hown (host := "") (Or.inl (hw _ (List.mem_of_getElem? (i := 38) rfl))) Via.refl e3 F2_2 E2_0 (Or.inr ⟨(hw _ (List.mem_of_getElem? (i := 39) rfl)), rfl, hnm⟩) (hw _ (List.mem_of_getElem? (i := 11) rfl)) (ty := (.array .byte)) (by decide) rfl rfl (g := (mkF m 14 #[.val (.ref b1), .val (.ref b2), .val (.int (0 : Int32)), .val (.int (0 : Int32)), .val .null, .unset] [(.ref t2), (.ref b1)])) rfl rfl (hb hby d_jdk_42_method_149_code_14)
  have N4 := Fr.snoc X4 N0 g_b1
  have E4_0 := E2_0.wr W4
  have E4_1 := A2.wr W4
  have F4_2 := F2_1.other W4 (Or.inr (slot_ne (Or.inr (hw _ (List.mem_of_getElem? (i := 37) rfl))) (Or.inr (hw _ (List.mem_of_getElem? (i := 39) rfl))) (by decide) (t := .byte) (by decide) (t' := (.array .byte)) (by decide)))
  have F4_3 := F2_2.same W4
  have F4_4 := C2.other W4 (Or.inl (Ne.symm nc_b1_2.1))
  have F4_5 := V2.other W4 (Or.inl (Ne.symm nc_b1_2.1))
  have Q4_6 := Safe.wr W4 Q2_3 RR2.1 Q2_3
  have V4_7 := B2.other W4 (Ne.symm nc_b1_2.2)
  have K4 := K2.wr W4 (Or.inl (List.mem_of_getElem? (i := 0) rfl))
  have RR4 := RR2.trans (CHr.wr W4 Q2_3 RR2.1)
  have hkS4 := Nat.le_trans hkS2 (Nat.le_of_eq W4.size.symm)
  refine Go.st st4 ?_
  show Go p e below _ T4 (mkF m 17 #[.val (.ref b1), .val (.ref b2), .val (.int (0 : Int32)), .val (.int (0 : Int32)), .val .null, .unset] [])
  refine Go.st (fun _ h => XS.aloadN X4.here hx rfl (hb hby d_jdk_42_method_149_code_17) rfl rfl h) ?_
  show Go p e below _ T4 (mkF m 18 #[.val (.ref b1), .val (.ref b2), .val (.int (0 : Int32)), .val (.int (0 : Int32)), .val .null, .unset] [(.ref b1)])
  obtain ⟨c5, T5, h5, k5, t5, q5, X5, e5, E5, hS, hkS5, hZ, hown, A5, C5, V5, B5, lt5, lu5, CC5, -, nc5, st5⟩ := ldcCH (s := s) X4 hx hZ hown (hw _ (List.mem_of_getElem? (i := 45) rfl)) wS e4 hS hkS4 hEL (List.mem_of_getElem? (i := 3) rfl) RR4.1 (vs := []) (z := (0 : Int32)) ⟨by decide, by decide⟩ (by decide) (by decide) (g := (mkF m 18 #[.val (.ref b1), .val (.ref b2), .val (.int (0 : Int32)), .val (.int (0 : Int32)), .val .null, .unset] [(.ref b1)])) rfl (hb hby d_jdk_42_method_149_code_18) (n := 0) (by decide) (by decide) (by decide) (by decide)
  have E5_0 := E4_0.ext E5
  have E5_1 := E4_1.ext E5
  have F5_2 := F4_2.ext E5
  have F5_3 := F4_3.ext E5
  have F5_4 := F4_4.ext E5
  have F5_5 := F4_5.ext E5
  have Q5_6 := CC5.safe E4_0.lt Q4_6
  have V5_7 := V4_7.ext E5
  have K5 := K4.ext E5
  have RR5 := RR4.trans CC5
  have nc_b1_5 := nc5 _ Q5_6
  refine Go.st st5 ?_
  show Go p e below _ T5 (mkF m 20 #[.val (.ref b1), .val (.ref b2), .val (.int (0 : Int32)), .val (.int (0 : Int32)), .val .null, .unset] [(.ref c5), (.ref b1)])
  obtain ⟨T6, X6, e6, st6⟩ := getF X5 hx hZ hown (host := "") (Or.inl (hw _ (List.mem_of_getElem? (i := 36) rfl))) Via.refl e5 C5 (g := (mkF m 20 #[.val (.ref b1), .val (.ref b2), .val (.int (0 : Int32)), .val (.int (0 : Int32)), .val .null, .unset] [(.ref c5), (.ref b1)])) rfl rfl (hb hby d_jdk_42_method_149_code_20)
  refine Go.st st6 ?_
  show Go p e below _ T6 (mkF m 23 #[.val (.ref b1), .val (.ref b2), .val (.int (0 : Int32)), .val (.int (0 : Int32)), .val .null, .unset] [(.int (0 : Int32)), (.ref b1)])
  obtain ⟨T7, h7, X7, e7, W7, st7⟩ := putF X6 hx hZ hown (host := "") (Or.inl (hw _ (List.mem_of_getElem? (i := 36) rfl))) Via.refl e6 F5_2 E5_0 (Or.inr ⟨(hw _ (List.mem_of_getElem? (i := 37) rfl)), rfl, hnm⟩) (hw _ (List.mem_of_getElem? (i := 11) rfl)) (ty := .byte) (by decide) rfl rfl (g := (mkF m 23 #[.val (.ref b1), .val (.ref b2), .val (.int (0 : Int32)), .val (.int (0 : Int32)), .val .null, .unset] [(.int (0 : Int32)), (.ref b1)])) rfl rfl (hb hby d_jdk_42_method_149_code_23)
  have N7 := Fr.snoc X7 N4 g_b1
  have E7_0 := E5_0.wr W7
  have E7_1 := E5_1.wr W7
  have E7_2 := A5.wr W7
  have F7_3 := F5_2.same W7
  have F7_4 := F5_3.other W7 (Or.inr (slot_ne (Or.inr (hw _ (List.mem_of_getElem? (i := 39) rfl))) (Or.inr (hw _ (List.mem_of_getElem? (i := 37) rfl))) (by decide) (t := (.array .byte)) (by decide) (t' := .byte) (by decide)))
  have F7_5 := F5_4.other W7 (Or.inl (Ne.symm nc_b1_2.1))
  have F7_6 := F5_5.other W7 (Or.inl (Ne.symm nc_b1_2.1))
  have F7_7 := C5.other W7 (Or.inl (Ne.symm nc_b1_5.1))
  have F7_8 := V5.other W7 (Or.inl (Ne.symm nc_b1_5.1))
  have Q7_9 := Safe.wr W7 Q5_6 RR5.1 Q5_6
  have V7_10 := V5_7.other W7 (Ne.symm nc_b1_2.2)
  have V7_11 := B5.other W7 (Ne.symm nc_b1_5.2)
  have K7 := K5.wr W7 (Or.inl (List.mem_of_getElem? (i := 0) rfl))
  have RR7 := RR5.trans (CHr.wr W7 Q5_6 RR5.1)
  have hkS7 := Nat.le_trans hkS5 (Nat.le_of_eq W7.size.symm)
  refine Go.st st7 ?_
  show Go p e below _ T7 (mkF m 26 #[.val (.ref b1), .val (.ref b2), .val (.int (0 : Int32)), .val (.int (0 : Int32)), .val .null, .unset] [])
  refine Go.retHV X7 hx hlk hZ hEL RR7 e7 hS hkS7 hret (hb hby d_jdk_42_method_149_code_26) (by decide) (by decide) ?_
  rw [e7]
  exact ⟨t2, q2, rfl, N7, K7, F7_3, F7_4, V7_10⟩
theorem ef_rmSI1 (x0 : Addr) (x1 : Addr) (m : MethodId) : entryFrame m #[(.ref x0), (.ref x1)] 2 = mkF m 0 #[.val (.ref x0), .val (.ref x1)] [] := by first | (simp [entryFrame, mkF, argsToLocals, Value.category]; done) | rfl
set_option maxRecDepth 65536 in
set_option maxHeartbeats 40000000 in
theorem rmSI1 (l : Launch) (Z : State) (a0 : Array Value) (hw : ∀ d ∈ tables_1, d.before a0 Z = true) (hEL : EW Z a0 consts_1) (wS : ∀ a ∈ Bundle.stringAtoms, a.before a0 Z = true) (b1 b2 : Addr) (k2 : ClassId) (h0 : Heap) (n0 : Nat) (Z0 : n0 ≤ h0.size) (B_2 : Arv Z h0 b2 k2 .char (0 : Int32) [] (.int (0 : Int32))) (E1 : Exa Z h0 b1 "java/lang/String") (F_v : Fld Z h0 b1 "java/lang/String" "value" "[B" .null) (F_c : Fld Z h0 b1 "java/lang/String" "coder" "B" (.int (0 : Int32))) (g_b1 : n0 ≤ b1) :
    DoesH l Z consts_1 (⟨"java/lang/String", "<init>", "([C)V"⟩ : MethodName) jdk_42_method_3_code 2 none [] ({ frames := 2, cells := 4, slots := 8, locals := 31 } : Room) #[(.ref b1), (.ref b2)] h0 (fun v h L => ∃ t kt, v = none ∧ Fr n0 L ∧ Keep h0 h [b1] ∧ Fld Z h b1 "java/lang/String" "coder" "B" (.int (0 : Int32)) ∧ Fld Z h b1 "java/lang/String" "value" "[B" (.ref t) ∧ Arv Z h t kt .byte (0 : Int32) [] (.int (0 : Int32))) := by
  refine DoesH.intro (plainFor_of_name pn_java_lang_String) (ef_rmSI1 b1 b2) ?_
  intro p e s m below meth c s₁ hx hby hml hown hnm hret hlk hZ e0 hS RR X0
  have hkS : 0 ≤ h0.size := Nat.zero_le _
  show Go p e below _ s₁ (mkF m 0 #[.val (.ref b1), .val (.ref b2)] [])
  have N0 := Fr.nil n0
  have QQ := own_safeN (EL := consts_1) hZ.alike E1 F_v
  refine Go.st (fun _ h => XS.aloadN X0.here hx rfl (hb hby d_jdk_42_method_3_code_0) rfl rfl h) ?_
  show Go p e below _ s₁ (mkF m 1 #[.val (.ref b1), .val (.ref b2)] [(.ref b1)])
  refine Go.st (fun _ h => XS.aloadN X0.here hx rfl (hb hby d_jdk_42_method_3_code_1) rfl rfl h) ?_
  show Go p e below _ s₁ (mkF m 2 #[.val (.ref b1), .val (.ref b2)] [(.ref b2), (.ref b1)])
  refine Go.st (fun _ h => XT.iconstV X0.here hx rfl (0 : Int32) (hb hby d_jdk_42_method_3_code_2) (by decide) h) ?_
  show Go p e below _ s₁ (mkF m 3 #[.val (.ref b1), .val (.ref b2)] [(.int (0 : Int32)), (.ref b2), (.ref b1)])
  refine Go.st (fun _ h => XS.aloadN X0.here hx rfl (hb hby d_jdk_42_method_3_code_3) rfl rfl h) ?_
  show Go p e below _ s₁ (mkF m 4 #[.val (.ref b1), .val (.ref b2)] [(.ref b2), (.int (0 : Int32)), (.ref b2), (.ref b1)])
  refine Go.st (own_len X0 hx hZ e0 B_2 rfl rfl (hb hby d_jdk_42_method_3_code_4)) ?_
  show Go p e below _ s₁ (mkF m 5 #[.val (.ref b1), .val (.ref b2)] [(.int (0 : Int32)), (.int (0 : Int32)), (.ref b2), (.ref b1)])
  refine Go.st (fun _ h => XS.aconstNull X0.here hx rfl (hb hby d_jdk_42_method_3_code_5) h) ?_
  show Go p e below _ s₁ (mkF m 6 #[.val (.ref b1), .val (.ref b2)] [.null, (.int (0 : Int32)), (.int (0 : Int32)), (.ref b2), (.ref b1)])
  obtain ⟨_, T1, L1, X1, hZ, hown, hS, RR1, ⟨tv1, kv1, rfl, Nc1, Kc1, Cc1, Vc1, Bc1⟩, st1⟩ := DoesH.special (s := s) (y := (⟨"java/lang/String", "<init>", "([CIILjava/lang/Void;)V"⟩ : MethodName)) (g := (mkF m 6 #[.val (.ref b1), .val (.ref b2)] [.null, (.int (0 : Int32)), (.int (0 : Int32)), (.ref b2), (.ref b1)])) (a := b1) (rmSI4 l Z a0 hw hEL wS b1 b2 h0 n0 Z0 E1 F_v F_c g_b1) X0 hx hZ hown e0 hEL RR hS hkS rfl (hw _ (List.mem_of_getElem? (i := 17) rfl)) (hw _ (List.mem_of_getElem? (i := 18) rfl)) (hw _ (List.mem_of_getElem? (i := 12) rfl)) (hw _ (List.mem_of_getElem? (i := 20) rfl)) (by decide) rfl (by rw [hml]; rfl) (argsL := [(.ref b2), (.int (0 : Int32)), (.int (0 : Int32)), .null]) (rest := []) (lenOf pd_285bCIILjava2flang2fVoid3b29V rfl) rfl (hb hby d_jdk_42_method_3_code_6) (W := 0) (by show 2 * 0 + _ ≤ _; exact Nat.le_of_eq rfl) (by decide) (by decide) (by decide) (by decide)
  have E1_0 := E1.keep Kc1
  have K1 := (Keep.refl _ [b1]).trans Kc1 (allS (Or.inl (List.mem_of_getElem? (i := 0) rfl)) all0)
  have N1 := Fr.app N0 Nc1
  refine Go.st st1 ?_
  show Go p e below _ T1 (mkF m 9 #[.val (.ref b1), .val (.ref b2)] [])
  refine Go.retHV X1 hx hlk hZ hEL RR1 rfl hS (Nat.le_refl _) hret (hb hby d_jdk_42_method_3_code_9) (by decide) (by decide) ?_
  exact ⟨tv1, kv1, rfl, N1, K1, Cc1, Vc1, Bc1⟩
theorem ef_rmMk (x0 : Int32) (m : MethodId) : entryFrame m #[(.int x0)] 4 = mkF m 0 #[.val (.int x0), .unset, .unset, .unset] [] := by first | (simp [entryFrame, mkF, argsToLocals, Value.category]; done) | rfl
set_option maxRecDepth 65536 in
set_option maxHeartbeats 40000000 in
theorem rmMk (l : Launch) (Z : State) (a0 : Array Value) (hw : ∀ d ∈ tables_1, d.before a0 Z = true) (hEL : EW Z a0 consts_1) (wS : ∀ a ∈ Bundle.stringAtoms, a.before a0 Z = true) (p1 : Int32) (h0 : Heap) (n0 : Nat) (Z0 : n0 ≤ h0.size) (zc : Int32) (S_CS : Sta Z h0 "java/lang/String" "COMPACT_STRINGS" "Z" (.int zc)) (hzc : ¬ zc = (0 : Int32)) :
    DoesH l Z consts_1 (⟨"com/example/tenon/tenon/core/XmlElementDeclaredPinLaw", "mk", "(I)Ljava/lang/String;"⟩ : MethodName) method_5_code 4 (some (.object "java/lang/String")) [] ({ frames := 4, cells := 6, slots := 12, locals := 66 } : Room) #[(.int p1)] h0 (fun v h L => ∃ r t kt, v = some (.ref r) ∧ Fr n0 L ∧ Keep h0 h [] ∧ h0.size ≤ r ∧ Exa Z h r "java/lang/String" ∧ Fld Z h r "java/lang/String" "coder" "B" (.int (0 : Int32)) ∧ Fld Z h r "java/lang/String" "value" "[B" (.ref t) ∧ Arv Z h t kt .byte (Int32.ofNat (own_str p1).length) ((own_str p1).map Value.int) (.int (0 : Int32))) := by
  refine DoesH.intro (plainFor_of_name pn_com_example_tenon_tenon_core_XmlElementDeclaredPinLaw) (ef_rmMk p1) ?_
  intro p e s m below meth c s₁ hx hby hml hown hnm hret hlk hZ e0 hS RR X0
  have hkS : 0 ≤ h0.size := Nat.zero_le _
  show Go p e below _ s₁ (mkF m 0 #[.val (.int p1), .unset, .unset, .unset] [])
  have N0 := Fr.nil n0
  have hws : ∀ d ∈ StrChars.Road.words, d.before a0 Z = true := fun d hd => hw d ((by decide +kernel : ∀ d ∈ StrChars.Road.words, d ∈ tables_1) d hd)
  refine Go.st (fun _ h => XS.iloadN X0.here hx rfl (hb hby d_method_5_code_0) rfl h) ?_
  show Go p e below _ s₁ (mkF m 1 #[.val (.int p1), .unset, .unset, .unset] [(.int p1)])
  obtain ⟨T1, X1, e1, st1⟩ := own_still rfl rfl (Does.static (y := (⟨"com/example/tenon/tenon/core/XmlElementDeclaredPinLaw", "len", "(I)I"⟩ : MethodName)) (g := (mkF m 1 #[.val (.int p1), .unset, .unset, .unset] [(.int p1)])) (rmLen l Z a0 hw p1 h0) X0 hx hZ hown e0 (hw _ (List.mem_of_getElem? (i := 4) rfl)) (hw _ (List.mem_of_getElem? (i := 5) rfl)) (hw _ (List.mem_of_getElem? (i := 2) rfl)) (hw _ (List.mem_of_getElem? (i := 6) rfl)) (by decide) rfl (by rw [hml]; rfl) (argsL := [(.int p1)]) (rest := []) (lenOf pd_28I29I rfl) rfl (hb hby d_method_5_code_1) (W := 0) (by show 2 * 0 + _ ≤ _; exact Nat.le_of_eq rfl) (by decide) (by decide) (by decide) (by decide))
  refine Go.st st1 ?_
  show Go p e below _ T1 (mkF m 4 #[.val (.int p1), .unset, .unset, .unset] [(.int (own_len_ p1))])
  refine Go.st (fun _ h => XS.istoreN X1.here hx rfl (hb hby d_method_5_code_4) rfl (l' := #[.val (.int p1), .val (.int (own_len_ p1)), .unset, .unset]) rfl h) ?_
  show Go p e below _ T1 (mkF m 5 #[.val (.int p1), .val (.int (own_len_ p1)), .unset, .unset] [])
  refine Go.st (fun _ h => XS.iloadN X1.here hx rfl (hb hby d_method_5_code_5) rfl h) ?_
  show Go p e below _ T1 (mkF m 6 #[.val (.int p1), .val (.int (own_len_ p1)), .unset, .unset] [(.int p1)])
  refine Go.st (fun _ h => XT.iconstV X1.here hx rfl (2 : Int32) (hb hby d_method_5_code_6) (by decide) h) ?_
  show Go p e below _ T1 (mkF m 7 #[.val (.int p1), .val (.int (own_len_ p1)), .unset, .unset] [(.int (2 : Int32)), (.int p1)])
  refine Go.st (fun _ h => XT.iushr X1.here hx rfl (hb hby d_method_5_code_7) rfl h) ?_
  show Go p e below _ T1 (mkF m 8 #[.val (.int p1), .val (.int (own_len_ p1)), .unset, .unset] [(.int (XT.ushr p1 (2 : Int32)))])
  refine Go.st (fun _ h => XT.sipushV X1.here hx rfl (255 : Int32) (hb hby d_method_5_code_8) (by decide) h) ?_
  show Go p e below _ T1 (mkF m 11 #[.val (.int p1), .val (.int (own_len_ p1)), .unset, .unset] [(.int (255 : Int32)), (.int (XT.ushr p1 (2 : Int32)))])
  refine Go.st (fun _ h => XS.iand X1.here hx rfl (hb hby d_method_5_code_11) rfl h) ?_
  show Go p e below _ T1 (mkF m 12 #[.val (.int p1), .val (.int (own_len_ p1)), .unset, .unset] [(.int ((XT.ushr p1 (2 : Int32)) &&& (255 : Int32)))])
  refine Go.st (fun _ h => XT.i2c X1.here hx rfl (hb hby d_method_5_code_12) rfl h) ?_
  show Go p e below _ T1 (mkF m 13 #[.val (.int p1), .val (.int (own_len_ p1)), .unset, .unset] [(.int (((XT.ushr p1 (2 : Int32)) &&& (255 : Int32)).toUInt32.toUInt16.toUInt32.toInt32))])
  rw [i2c_mask]
  show Go p e below _ T1 (mkF m 13 #[.val (.int p1), .val (.int (own_len_ p1)), .unset, .unset] [(.int ((XT.ushr p1 (2 : Int32)) &&& (255 : Int32)))])
  refine Go.st (fun _ h => XS.istoreN X1.here hx rfl (hb hby d_method_5_code_13) rfl (l' := #[.val (.int p1), .val (.int (own_len_ p1)), .val (.int ((XT.ushr p1 (2 : Int32)) &&& (255 : Int32))), .unset]) rfl h) ?_
  show Go p e below _ T1 (mkF m 14 #[.val (.int p1), .val (.int (own_len_ p1)), .val (.int ((XT.ushr p1 (2 : Int32)) &&& (255 : Int32))), .unset] [])
  refine Go.st (fun _ h => XS.iloadN X1.here hx rfl (hb hby d_method_5_code_14) rfl h) ?_
  show Go p e below _ T1 (mkF m 15 #[.val (.int p1), .val (.int (own_len_ p1)), .val (.int ((XT.ushr p1 (2 : Int32)) &&& (255 : Int32))), .unset] [(.int p1)])
  refine Go.st (fun _ h => XT.bipushV X1.here hx rfl (10 : Int32) (hb hby d_method_5_code_15) (by decide) h) ?_
  show Go p e below _ T1 (mkF m 17 #[.val (.int p1), .val (.int (own_len_ p1)), .val (.int ((XT.ushr p1 (2 : Int32)) &&& (255 : Int32))), .unset] [(.int (10 : Int32)), (.int p1)])
  refine Go.st (fun _ h => XT.iushr X1.here hx rfl (hb hby d_method_5_code_17) rfl h) ?_
  show Go p e below _ T1 (mkF m 18 #[.val (.int p1), .val (.int (own_len_ p1)), .val (.int ((XT.ushr p1 (2 : Int32)) &&& (255 : Int32))), .unset] [(.int (XT.ushr p1 (10 : Int32)))])
  refine Go.st (fun _ h => XT.sipushV X1.here hx rfl (255 : Int32) (hb hby d_method_5_code_18) (by decide) h) ?_
  show Go p e below _ T1 (mkF m 21 #[.val (.int p1), .val (.int (own_len_ p1)), .val (.int ((XT.ushr p1 (2 : Int32)) &&& (255 : Int32))), .unset] [(.int (255 : Int32)), (.int (XT.ushr p1 (10 : Int32)))])
  refine Go.st (fun _ h => XS.iand X1.here hx rfl (hb hby d_method_5_code_21) rfl h) ?_
  show Go p e below _ T1 (mkF m 22 #[.val (.int p1), .val (.int (own_len_ p1)), .val (.int ((XT.ushr p1 (2 : Int32)) &&& (255 : Int32))), .unset] [(.int ((XT.ushr p1 (10 : Int32)) &&& (255 : Int32)))])
  refine Go.st (fun _ h => XT.i2c X1.here hx rfl (hb hby d_method_5_code_22) rfl h) ?_
  show Go p e below _ T1 (mkF m 23 #[.val (.int p1), .val (.int (own_len_ p1)), .val (.int ((XT.ushr p1 (2 : Int32)) &&& (255 : Int32))), .unset] [(.int (((XT.ushr p1 (10 : Int32)) &&& (255 : Int32)).toUInt32.toUInt16.toUInt32.toInt32))])
  rw [i2c_mask]
  show Go p e below _ T1 (mkF m 23 #[.val (.int p1), .val (.int (own_len_ p1)), .val (.int ((XT.ushr p1 (2 : Int32)) &&& (255 : Int32))), .unset] [(.int ((XT.ushr p1 (10 : Int32)) &&& (255 : Int32)))])
  refine Go.st (fun _ h => XS.istoreN X1.here hx rfl (hb hby d_method_5_code_23) rfl (l' := #[.val (.int p1), .val (.int (own_len_ p1)), .val (.int ((XT.ushr p1 (2 : Int32)) &&& (255 : Int32))), .val (.int ((XT.ushr p1 (10 : Int32)) &&& (255 : Int32)))]) rfl h) ?_
  show Go p e below _ T1 (mkF m 24 #[.val (.int p1), .val (.int (own_len_ p1)), .val (.int ((XT.ushr p1 (2 : Int32)) &&& (255 : Int32))), .val (.int ((XT.ushr p1 (10 : Int32)) &&& (255 : Int32)))] [])
  refine Go.st (fun _ h => XS.iloadN X1.here hx rfl (hb hby d_method_5_code_24) rfl h) ?_
  show Go p e below _ T1 (mkF m 25 #[.val (.int p1), .val (.int (own_len_ p1)), .val (.int ((XT.ushr p1 (2 : Int32)) &&& (255 : Int32))), .val (.int ((XT.ushr p1 (10 : Int32)) &&& (255 : Int32)))] [(.int (own_len_ p1))])
  by_cases hc2 : (own_len_ p1) = (0 : Int32)
  · refine Go.st (fun _ h => XS.ifNo X1.here hx rfl (hb hby d_method_5_code_25) rfl ((if0 _ _).trans (teq hc2).2) h) ?_
    show Go p e below _ T1 (mkF m 28 #[.val (.int p1), .val (.int (own_len_ p1)), .val (.int ((XT.ushr p1 (2 : Int32)) &&& (255 : Int32))), .val (.int ((XT.ushr p1 (10 : Int32)) &&& (255 : Int32)))] [])
    obtain ⟨T3, h3, X3, e3, E3, A3, D3, -, st3⟩ := newO X1 hx hZ hown (hw _ (List.mem_of_getElem? (i := 10) rfl)) (hw _ (List.mem_of_getElem? (i := 11) rfl)) (hw _ (List.mem_of_getElem? (i := 12) rfl)) e1 (g := (mkF m 28 #[.val (.int p1), .val (.int (own_len_ p1)), .val (.int ((XT.ushr p1 (2 : Int32)) &&& (255 : Int32))), .val (.int ((XT.ushr p1 (10 : Int32)) &&& (255 : Int32)))] [])) rfl (hb hby d_method_5_code_28) (by decide) (by decide)
    obtain ⟨o3, g3⟩ : ∃ z, z = h0.size := ⟨_, rfl⟩
    rw [← g3] at A3 D3 st3
    have le_o3 : h0.size ≤ o3 := by rw [g3]; exact (Keep.refl _ []).1
    have Q3_ : Safe Z consts_1 _ h0 o3 := Safe.new (vm := s.vm) (by rw [g3]; exact Nat.le_refl _)
    have Q3_0 := Safe.ext E3 RR.1 Q3_
    have K3 := (Keep.refl _ []).ext E3
    have RR3 := RR.trans (CHr.ext E3 RR.1)
    have hkS3 := Nat.le_trans hkS E3.1
    have F3_coder : Fld Z h3 o3 "java/lang/String" "coder" "B" (.int (0 : Int32)) := D3 (Or.inr (hw _ (List.mem_of_getElem? (i := 37) rfl))) (ty := .byte) (by decide)
    have F3_value : Fld Z h3 o3 "java/lang/String" "value" "[B" .null := D3 (Or.inr (hw _ (List.mem_of_getElem? (i := 39) rfl))) (ty := (.array .byte)) (by decide)
    refine Go.st st3 ?_
    show Go p e below _ T3 (mkF m 31 #[.val (.int p1), .val (.int (own_len_ p1)), .val (.int ((XT.ushr p1 (2 : Int32)) &&& (255 : Int32))), .val (.int ((XT.ushr p1 (10 : Int32)) &&& (255 : Int32)))] [(.ref o3)])
    refine Go.st (fun _ h => XS.dup X3.here hx rfl (hb hby d_method_5_code_31) rfl rfl h) ?_
    show Go p e below _ T3 (mkF m 32 #[.val (.int p1), .val (.int (own_len_ p1)), .val (.int ((XT.ushr p1 (2 : Int32)) &&& (255 : Int32))), .val (.int ((XT.ushr p1 (10 : Int32)) &&& (255 : Int32)))] [(.ref o3), (.ref o3)])
    refine Go.st (fun _ h => XT.iconstV X3.here hx rfl (0 : Int32) (hb hby d_method_5_code_32) (by decide) h) ?_
    show Go p e below _ T3 (mkF m 33 #[.val (.int p1), .val (.int (own_len_ p1)), .val (.int ((XT.ushr p1 (2 : Int32)) &&& (255 : Int32))), .val (.int ((XT.ushr p1 (10 : Int32)) &&& (255 : Int32)))] [(.int (0 : Int32)), (.ref o3), (.ref o3)])
    obtain ⟨T4, h4, k4, X4, e4, E4, A4, st4⟩ := newP X3 hx hZ (hw _ (List.mem_of_getElem? (i := 13) rfl)) e3 (g := (mkF m 33 #[.val (.int p1), .val (.int (own_len_ p1)), .val (.int ((XT.ushr p1 (2 : Int32)) &&& (255 : Int32))), .val (.int ((XT.ushr p1 (10 : Int32)) &&& (255 : Int32)))] [(.int (0 : Int32)), (.ref o3), (.ref o3)])) rfl (hb hby d_method_5_code_33) rfl (by decide) (cap := 0) (by decide) (by decide) (by decide) (by decide)
    obtain ⟨o4, g4⟩ : ∃ z, z = h3.size := ⟨_, rfl⟩
    rw [← g4] at A4 st4
    have ne_o3_o4 : o3 ≠ o4 := by rw [g4]; exact Nat.ne_of_lt A3.lt
    have le_o4 : h0.size ≤ o4 := by rw [g4]; exact K3.1
    have Q4_ : Safe Z consts_1 _ h3 o4 := Safe.new (vm := s.vm) (by rw [g4]; exact Nat.le_refl _)
    have E4_0 := A3.ext E4
    have F4_1 := F3_coder.ext E4
    have F4_2 := F3_value.ext E4
    have Q4_3 := Safe.ext E4 RR3.1 Q3_0
    have Q4_4 := Safe.ext E4 RR3.1 Q4_
    have K4 := K3.ext E4
    have RR4 := RR3.trans (CHr.ext E4 RR3.1)
    have hkS4 := Nat.le_trans hkS3 E4.1
    have V4 : Arv Z h4 o4 k4 .char (0 : Int32) [] (.int (0 : Int32)) := (Arv.new A4 (by decide)).pad (pad_rep [] (.int (0 : Int32)) 0)
    refine Go.st st4 ?_
    show Go p e below _ T4 (mkF m 35 #[.val (.int p1), .val (.int (own_len_ p1)), .val (.int ((XT.ushr p1 (2 : Int32)) &&& (255 : Int32))), .val (.int ((XT.ushr p1 (10 : Int32)) &&& (255 : Int32)))] [(.ref o4), (.ref o3), (.ref o3)])
    obtain ⟨_, T5, L5, X5, hZ, hown, hS, RR5, ⟨tv5, kv5, rfl, Nc5, Kc5, Cc5, Vc5, Bc5⟩, st5⟩ := DoesH.special (s := s) (y := (⟨"java/lang/String", "<init>", "([C)V"⟩ : MethodName)) (g := (mkF m 35 #[.val (.int p1), .val (.int (own_len_ p1)), .val (.int ((XT.ushr p1 (2 : Int32)) &&& (255 : Int32))), .val (.int ((XT.ushr p1 (10 : Int32)) &&& (255 : Int32)))] [(.ref o4), (.ref o3), (.ref o3)])) (a := o3) (rmSI1 l Z a0 hw hEL wS o3 o4 k4 h4 n0 (Nat.le_trans Z0 K4.1) V4 E4_0 F4_2 F4_1 (Nat.le_trans Z0 le_o3)) X4 hx hZ hown e4 hEL RR4 hS hkS4 rfl (hw _ (List.mem_of_getElem? (i := 14) rfl)) (hw _ (List.mem_of_getElem? (i := 15) rfl)) (hw _ (List.mem_of_getElem? (i := 12) rfl)) (hw _ (List.mem_of_getElem? (i := 16) rfl)) (by decide) rfl (by rw [hml]; rfl) (argsL := [(.ref o4)]) (rest := [(.ref o3)]) (lenOf pd_285bC29V rfl) rfl (hb hby d_method_5_code_35) (W := 1) (by show 2 * 0 + _ ≤ _; exact Nat.le_of_eq rfl) (by decide) (by decide) (by decide) (by decide)
    have E5_0 := E4_0.keep Kc5
    have V5_5 := V4.keep Kc5 (ninS (Ne.symm ne_o3_o4) nin0)
    have K5 := K4.trans Kc5 (allS (Or.inr le_o3) all0)
    have N5 := Fr.app N0 Nc5
    refine Go.st st5 ?_
    show Go p e below _ T5 (mkF m 38 #[.val (.int p1), .val (.int (own_len_ p1)), .val (.int ((XT.ushr p1 (2 : Int32)) &&& (255 : Int32))), .val (.int ((XT.ushr p1 (10 : Int32)) &&& (255 : Int32)))] [(.ref o3)])
    refine Go.retH X5 hx hlk hZ hEL RR5 rfl hS (Nat.le_refl _) hret rfl (Or.inr (Or.inr (Or.inr (Or.inr ⟨rfl, rfl, rfl⟩)))) (hb hby d_method_5_code_38) (by decide) (by decide) ?_
    refine ⟨o3, tv5, kv5, rfl, N5, K5, le_o3, E5_0, Cc5, Vc5, ?_⟩
    rw [own_str, if_pos hc2]
    exact Bc5
  · refine Go.st (fun _ h => XS.ifYes X1.here hx rfl (pc0 := 25) (pc' := 39) rfl (hb hby d_method_5_code_25) rfl ((if0 _ _).trans (feq hc2).2) (by decide) (by decide) h) ?_
    show Go p e below _ T1 (mkF m 39 #[.val (.int p1), .val (.int (own_len_ p1)), .val (.int ((XT.ushr p1 (2 : Int32)) &&& (255 : Int32))), .val (.int ((XT.ushr p1 (10 : Int32)) &&& (255 : Int32)))] [])
    refine Go.st (fun _ h => XS.iloadN X1.here hx rfl (hb hby d_method_5_code_39) rfl h) ?_
    show Go p e below _ T1 (mkF m 40 #[.val (.int p1), .val (.int (own_len_ p1)), .val (.int ((XT.ushr p1 (2 : Int32)) &&& (255 : Int32))), .val (.int ((XT.ushr p1 (10 : Int32)) &&& (255 : Int32)))] [(.int (own_len_ p1))])
    refine Go.st (fun _ h => XT.iconstV X1.here hx rfl (1 : Int32) (hb hby d_method_5_code_40) (by decide) h) ?_
    show Go p e below _ T1 (mkF m 41 #[.val (.int p1), .val (.int (own_len_ p1)), .val (.int ((XT.ushr p1 (2 : Int32)) &&& (255 : Int32))), .val (.int ((XT.ushr p1 (10 : Int32)) &&& (255 : Int32)))] [(.int (1 : Int32)), (.int (own_len_ p1))])
    by_cases hc6 : (own_len_ p1) = (1 : Int32)
    · refine Go.st (fun _ h => XS.icmpNo X1.here hx rfl (hb hby d_method_5_code_41) rfl ((teq hc6).2) h) ?_
      show Go p e below _ T1 (mkF m 44 #[.val (.int p1), .val (.int (own_len_ p1)), .val (.int ((XT.ushr p1 (2 : Int32)) &&& (255 : Int32))), .val (.int ((XT.ushr p1 (10 : Int32)) &&& (255 : Int32)))] [])
      obtain ⟨T7, h7, X7, e7, E7, A7, D7, -, st7⟩ := newO X1 hx hZ hown (hw _ (List.mem_of_getElem? (i := 10) rfl)) (hw _ (List.mem_of_getElem? (i := 11) rfl)) (hw _ (List.mem_of_getElem? (i := 12) rfl)) e1 (g := (mkF m 44 #[.val (.int p1), .val (.int (own_len_ p1)), .val (.int ((XT.ushr p1 (2 : Int32)) &&& (255 : Int32))), .val (.int ((XT.ushr p1 (10 : Int32)) &&& (255 : Int32)))] [])) rfl (hb hby d_method_5_code_44) (by decide) (by decide)
      obtain ⟨o7, g7⟩ : ∃ z, z = h0.size := ⟨_, rfl⟩
      rw [← g7] at A7 D7 st7
      have le_o7 : h0.size ≤ o7 := by rw [g7]; exact (Keep.refl _ []).1
      have Q7_ : Safe Z consts_1 _ h0 o7 := Safe.new (vm := s.vm) (by rw [g7]; exact Nat.le_refl _)
      have Q7_0 := Safe.ext E7 RR.1 Q7_
      have K7 := (Keep.refl _ []).ext E7
      have RR7 := RR.trans (CHr.ext E7 RR.1)
      have hkS7 := Nat.le_trans hkS E7.1
      have F7_coder : Fld Z h7 o7 "java/lang/String" "coder" "B" (.int (0 : Int32)) := D7 (Or.inr (hw _ (List.mem_of_getElem? (i := 37) rfl))) (ty := .byte) (by decide)
      have F7_value : Fld Z h7 o7 "java/lang/String" "value" "[B" .null := D7 (Or.inr (hw _ (List.mem_of_getElem? (i := 39) rfl))) (ty := (.array .byte)) (by decide)
      refine Go.st st7 ?_
      show Go p e below _ T7 (mkF m 47 #[.val (.int p1), .val (.int (own_len_ p1)), .val (.int ((XT.ushr p1 (2 : Int32)) &&& (255 : Int32))), .val (.int ((XT.ushr p1 (10 : Int32)) &&& (255 : Int32)))] [(.ref o7)])
      refine Go.st (fun _ h => XS.dup X7.here hx rfl (hb hby d_method_5_code_47) rfl rfl h) ?_
      show Go p e below _ T7 (mkF m 48 #[.val (.int p1), .val (.int (own_len_ p1)), .val (.int ((XT.ushr p1 (2 : Int32)) &&& (255 : Int32))), .val (.int ((XT.ushr p1 (10 : Int32)) &&& (255 : Int32)))] [(.ref o7), (.ref o7)])
      refine Go.st (fun _ h => XT.iconstV X7.here hx rfl (1 : Int32) (hb hby d_method_5_code_48) (by decide) h) ?_
      show Go p e below _ T7 (mkF m 49 #[.val (.int p1), .val (.int (own_len_ p1)), .val (.int ((XT.ushr p1 (2 : Int32)) &&& (255 : Int32))), .val (.int ((XT.ushr p1 (10 : Int32)) &&& (255 : Int32)))] [(.int (1 : Int32)), (.ref o7), (.ref o7)])
      obtain ⟨T8, h8, k8, X8, e8, E8, A8, st8⟩ := newP X7 hx hZ (hw _ (List.mem_of_getElem? (i := 13) rfl)) e7 (g := (mkF m 49 #[.val (.int p1), .val (.int (own_len_ p1)), .val (.int ((XT.ushr p1 (2 : Int32)) &&& (255 : Int32))), .val (.int ((XT.ushr p1 (10 : Int32)) &&& (255 : Int32)))] [(.int (1 : Int32)), (.ref o7), (.ref o7)])) rfl (hb hby d_method_5_code_49) rfl (by decide) (cap := 1) (by decide) (by decide) (by decide) (by decide)
      obtain ⟨o8, g8⟩ : ∃ z, z = h7.size := ⟨_, rfl⟩
      rw [← g8] at A8 st8
      have ne_o7_o8 : o7 ≠ o8 := by rw [g8]; exact Nat.ne_of_lt A7.lt
      have le_o8 : h0.size ≤ o8 := by rw [g8]; exact K7.1
      have Q8_ : Safe Z consts_1 _ h7 o8 := Safe.new (vm := s.vm) (by rw [g8]; exact Nat.le_refl _)
      have E8_0 := A7.ext E8
      have F8_1 := F7_coder.ext E8
      have F8_2 := F7_value.ext E8
      have Q8_3 := Safe.ext E8 RR7.1 Q7_0
      have Q8_4 := Safe.ext E8 RR7.1 Q8_
      have K8 := K7.ext E8
      have RR8 := RR7.trans (CHr.ext E8 RR7.1)
      have hkS8 := Nat.le_trans hkS7 E8.1
      have V8 : Arv Z h8 o8 k8 .char (1 : Int32) [(.int (0 : Int32))] (.int (0 : Int32)) := (Arv.new A8 (by decide)).pad (pad_rep [] (.int (0 : Int32)) 1)
      refine Go.st st8 ?_
      show Go p e below _ T8 (mkF m 51 #[.val (.int p1), .val (.int (own_len_ p1)), .val (.int ((XT.ushr p1 (2 : Int32)) &&& (255 : Int32))), .val (.int ((XT.ushr p1 (10 : Int32)) &&& (255 : Int32)))] [(.ref o8), (.ref o7), (.ref o7)])
      refine Go.st (fun _ h => XS.dup X8.here hx rfl (hb hby d_method_5_code_51) rfl rfl h) ?_
      show Go p e below _ T8 (mkF m 52 #[.val (.int p1), .val (.int (own_len_ p1)), .val (.int ((XT.ushr p1 (2 : Int32)) &&& (255 : Int32))), .val (.int ((XT.ushr p1 (10 : Int32)) &&& (255 : Int32)))] [(.ref o8), (.ref o8), (.ref o7), (.ref o7)])
      refine Go.st (fun _ h => XT.iconstV X8.here hx rfl (0 : Int32) (hb hby d_method_5_code_52) (by decide) h) ?_
      show Go p e below _ T8 (mkF m 53 #[.val (.int p1), .val (.int (own_len_ p1)), .val (.int ((XT.ushr p1 (2 : Int32)) &&& (255 : Int32))), .val (.int ((XT.ushr p1 (10 : Int32)) &&& (255 : Int32)))] [(.int (0 : Int32)), (.ref o8), (.ref o8), (.ref o7), (.ref o7)])
      refine Go.st (fun _ h => XS.iloadN X8.here hx rfl (hb hby d_method_5_code_53) rfl h) ?_
      show Go p e below _ T8 (mkF m 54 #[.val (.int p1), .val (.int (own_len_ p1)), .val (.int ((XT.ushr p1 (2 : Int32)) &&& (255 : Int32))), .val (.int ((XT.ushr p1 (10 : Int32)) &&& (255 : Int32)))] [(.int ((XT.ushr p1 (2 : Int32)) &&& (255 : Int32))), (.int (0 : Int32)), (.ref o8), (.ref o8), (.ref o7), (.ref o7)])
      obtain ⟨T9, h9, X9, e9, W9, V9, st9⟩ := own_stC X8 hx hZ e8 (j := (0 : Int32)) V8 (by decide) (by decide) 0 (by decide) (by simp) (g := (mkF m 54 #[.val (.int p1), .val (.int (own_len_ p1)), .val (.int ((XT.ushr p1 (2 : Int32)) &&& (255 : Int32))), .val (.int ((XT.ushr p1 (10 : Int32)) &&& (255 : Int32)))] [(.int ((XT.ushr p1 (2 : Int32)) &&& (255 : Int32))), (.int (0 : Int32)), (.ref o8), (.ref o8), (.ref o7), (.ref o7)])) rfl rfl (hb hby d_method_5_code_54)
      have N9 := Fr.snoc X9 N0 (Nat.le_trans Z0 le_o8)
      have E9_0 := E8_0.wr W9
      have F9_1 := F8_1.other W9 (Or.inl ne_o7_o8)
      have F9_2 := F8_2.other W9 (Or.inl ne_o7_o8)
      have Q9_3 := Safe.wr W9 Q8_4 RR8.1 Q8_3
      have Q9_4 := Safe.wr W9 Q8_4 RR8.1 Q8_4
      have K9 := K8.wr W9 (Or.inr le_o8)
      have RR9 := RR8.trans (CHr.wr W9 Q8_4 RR8.1)
      have hkS9 := Nat.le_trans hkS8 (Nat.le_of_eq W9.size.symm)
      have V9' : Arv Z h9 o8 k8 .char (1 : Int32) [(.int (nar .char ((XT.ushr p1 (2 : Int32)) &&& (255 : Int32))))] (.int (0 : Int32)) := V9
      refine Go.st st9 ?_
      show Go p e below _ T9 (mkF m 55 #[.val (.int p1), .val (.int (own_len_ p1)), .val (.int ((XT.ushr p1 (2 : Int32)) &&& (255 : Int32))), .val (.int ((XT.ushr p1 (10 : Int32)) &&& (255 : Int32)))] [(.ref o8), (.ref o7), (.ref o7)])
      have hlat10 : ∀ c ∈ ([(nar .char ((XT.ushr p1 (2 : Int32)) &&& (255 : Int32)))] : List Int32), ¬ c < 0 ∧ ¬ (255 : Int32) < c := by
        intro c hc
        simp only [List.mem_cons, List.not_mem_nil, or_false] at hc
        rcases hc with rfl
        · exact own_nar255 _
      obtain ⟨_, _, ⟨T10, L10, k10, n10⟩, -, X10, ⟨Lc10, hQ10, l10, y10, z10⟩, st10⟩ := X9.specialBack hx (y := (⟨"java/lang/String", "<init>", "([C)V"⟩ : MethodName)) rfl hown (mvT (s := s.setVm s.vm) hZ (hw _ (List.mem_of_getElem? (i := 14) rfl))) (mvT (s := s.setVm s.vm) hZ (hw _ (List.mem_of_getElem? (i := 15) rfl))) (mvT (s := s.setVm s.vm) hZ (hw _ (List.mem_of_getElem? (i := 16) rfl))) (by decide) (StrChars.Road.backV (s := s.setVm s.vm) (W := 1) hZ hws (kI := 4) (hw _ (List.mem_of_getElem? (i := 11) rfl)) (cs := [(nar .char ((XT.ushr p1 (2 : Int32)) &&& (255 : Int32)))]) (bs := [((nar .char ((XT.ushr p1 (2 : Int32)) &&& (255 : Int32)))).toInt8.toInt32]) (n := 1) (Nat.le_trans Z0 le_o7) (Nat.le_trans Z0 K9.1) E9_0 F9_2 F9_1 V9' (S_CS.ext (own_ext K9)) hzc rfl rfl (by decide) (by decide) hlat10 rfl (by decide) (by decide)) (g := (mkF m 55 #[.val (.int p1), .val (.int (own_len_ p1)), .val (.int ((XT.ushr p1 (2 : Int32)) &&& (255 : Int32))), .val (.int ((XT.ushr p1 (10 : Int32)) &&& (255 : Int32)))] [(.ref o8), (.ref o7), (.ref o7)])) rfl (by rw [hml]; rfl) (Steps.refl _) (a := o7) (argsL := [(.ref o8)]) (rest := [(.ref o7)]) (lenOf pd_285bC29V rfl) rfl (by show 2 * 0 + _ ≤ _; exact Nat.le_of_eq rfl) (hb hby d_method_5_code_55) (fun _ _ => ⟨rfl, e9, (by decide : 2 + 1 ≤ _), (by decide : 5 + 1 ≤ _)⟩)
      dsimp only [Pt.U, Pt.locs, Pt.cells, Pt.slots] at X10 l10 y10 z10 st10 hQ10
      subst l10 y10 z10
      obtain ⟨rfl, Nc10, Kc10, Ec10, Cc10, t10, kb10, ga10, gb10, gc10, Vc10, Ac10⟩ := hQ10
      have E10_0 := E9_0.keep Kc10
      have Q10_3 := Safe.keep Kc10 (sfS Q9_3 sf0) RR9.1 Q9_3
      have Q10_4 := Safe.keep Kc10 (sfS Q9_3 sf0) RR9.1 Q9_4
      have V10_5 := V9'.keep Kc10 (ninS (Ne.symm ne_o7_o8) nin0)
      have K10 := K9.trans Kc10 (allS (Or.inr le_o7) all0)
      have RR10 := RR9.trans (CHr.keep Kc10 (sfS Q9_3 sf0) RR9.1)
      have hkS10 := Nat.le_trans hkS9 Kc10.1
      have N10 := Fr.app N9 Nc10
      refine Go.st (fun _ k => st10.trans k) ?_
      show Go p e below _ T10 (mkF m 58 #[.val (.int p1), .val (.int (own_len_ p1)), .val (.int ((XT.ushr p1 (2 : Int32)) &&& (255 : Int32))), .val (.int ((XT.ushr p1 (10 : Int32)) &&& (255 : Int32)))] [(.ref o7)])
      refine Go.retH X10 hx hlk hZ hEL RR10 rfl hS hkS10 hret rfl (Or.inr (Or.inr (Or.inr (Or.inr ⟨rfl, rfl, rfl⟩)))) (hb hby d_method_5_code_58) (by decide) (by decide) ?_
      refine ⟨o7, t10, kb10, rfl, N10, K10, le_o7, E10_0, Cc10, Vc10, ?_⟩
      rw [own_str, if_neg hc2, if_pos hc6]
      exact Ac10
    · refine Go.st (fun _ h => XS.icmpYes X1.here hx rfl (pc0 := 41) (pc' := 59) rfl (hb hby d_method_5_code_41) rfl ((feq hc6).2) (by decide) (by decide) h) ?_
      show Go p e below _ T1 (mkF m 59 #[.val (.int p1), .val (.int (own_len_ p1)), .val (.int ((XT.ushr p1 (2 : Int32)) &&& (255 : Int32))), .val (.int ((XT.ushr p1 (10 : Int32)) &&& (255 : Int32)))] [])
      obtain ⟨T11, h11, X11, e11, E11, A11, D11, -, st11⟩ := newO X1 hx hZ hown (hw _ (List.mem_of_getElem? (i := 10) rfl)) (hw _ (List.mem_of_getElem? (i := 11) rfl)) (hw _ (List.mem_of_getElem? (i := 12) rfl)) e1 (g := (mkF m 59 #[.val (.int p1), .val (.int (own_len_ p1)), .val (.int ((XT.ushr p1 (2 : Int32)) &&& (255 : Int32))), .val (.int ((XT.ushr p1 (10 : Int32)) &&& (255 : Int32)))] [])) rfl (hb hby d_method_5_code_59) (by decide) (by decide)
      obtain ⟨o11, g11⟩ : ∃ z, z = h0.size := ⟨_, rfl⟩
      rw [← g11] at A11 D11 st11
      have le_o11 : h0.size ≤ o11 := by rw [g11]; exact (Keep.refl _ []).1
      have Q11_ : Safe Z consts_1 _ h0 o11 := Safe.new (vm := s.vm) (by rw [g11]; exact Nat.le_refl _)
      have Q11_0 := Safe.ext E11 RR.1 Q11_
      have K11 := (Keep.refl _ []).ext E11
      have RR11 := RR.trans (CHr.ext E11 RR.1)
      have hkS11 := Nat.le_trans hkS E11.1
      have F11_coder : Fld Z h11 o11 "java/lang/String" "coder" "B" (.int (0 : Int32)) := D11 (Or.inr (hw _ (List.mem_of_getElem? (i := 37) rfl))) (ty := .byte) (by decide)
      have F11_value : Fld Z h11 o11 "java/lang/String" "value" "[B" .null := D11 (Or.inr (hw _ (List.mem_of_getElem? (i := 39) rfl))) (ty := (.array .byte)) (by decide)
      refine Go.st st11 ?_
      show Go p e below _ T11 (mkF m 62 #[.val (.int p1), .val (.int (own_len_ p1)), .val (.int ((XT.ushr p1 (2 : Int32)) &&& (255 : Int32))), .val (.int ((XT.ushr p1 (10 : Int32)) &&& (255 : Int32)))] [(.ref o11)])
      refine Go.st (fun _ h => XS.dup X11.here hx rfl (hb hby d_method_5_code_62) rfl rfl h) ?_
      show Go p e below _ T11 (mkF m 63 #[.val (.int p1), .val (.int (own_len_ p1)), .val (.int ((XT.ushr p1 (2 : Int32)) &&& (255 : Int32))), .val (.int ((XT.ushr p1 (10 : Int32)) &&& (255 : Int32)))] [(.ref o11), (.ref o11)])
      refine Go.st (fun _ h => XT.iconstV X11.here hx rfl (2 : Int32) (hb hby d_method_5_code_63) (by decide) h) ?_
      show Go p e below _ T11 (mkF m 64 #[.val (.int p1), .val (.int (own_len_ p1)), .val (.int ((XT.ushr p1 (2 : Int32)) &&& (255 : Int32))), .val (.int ((XT.ushr p1 (10 : Int32)) &&& (255 : Int32)))] [(.int (2 : Int32)), (.ref o11), (.ref o11)])
      obtain ⟨T12, h12, k12, X12, e12, E12, A12, st12⟩ := newP X11 hx hZ (hw _ (List.mem_of_getElem? (i := 13) rfl)) e11 (g := (mkF m 64 #[.val (.int p1), .val (.int (own_len_ p1)), .val (.int ((XT.ushr p1 (2 : Int32)) &&& (255 : Int32))), .val (.int ((XT.ushr p1 (10 : Int32)) &&& (255 : Int32)))] [(.int (2 : Int32)), (.ref o11), (.ref o11)])) rfl (hb hby d_method_5_code_64) rfl (by decide) (cap := 2) (by decide) (by decide) (by decide) (by decide)
      obtain ⟨o12, g12⟩ : ∃ z, z = h11.size := ⟨_, rfl⟩
      rw [← g12] at A12 st12
      have ne_o11_o12 : o11 ≠ o12 := by rw [g12]; exact Nat.ne_of_lt A11.lt
      have le_o12 : h0.size ≤ o12 := by rw [g12]; exact K11.1
      have Q12_ : Safe Z consts_1 _ h11 o12 := Safe.new (vm := s.vm) (by rw [g12]; exact Nat.le_refl _)
      have E12_0 := A11.ext E12
      have F12_1 := F11_coder.ext E12
      have F12_2 := F11_value.ext E12
      have Q12_3 := Safe.ext E12 RR11.1 Q11_0
      have Q12_4 := Safe.ext E12 RR11.1 Q12_
      have K12 := K11.ext E12
      have RR12 := RR11.trans (CHr.ext E12 RR11.1)
      have hkS12 := Nat.le_trans hkS11 E12.1
      have V12 : Arv Z h12 o12 k12 .char (2 : Int32) [(.int (0 : Int32)), (.int (0 : Int32))] (.int (0 : Int32)) := (Arv.new A12 (by decide)).pad (pad_rep [] (.int (0 : Int32)) 2)
      refine Go.st st12 ?_
      show Go p e below _ T12 (mkF m 66 #[.val (.int p1), .val (.int (own_len_ p1)), .val (.int ((XT.ushr p1 (2 : Int32)) &&& (255 : Int32))), .val (.int ((XT.ushr p1 (10 : Int32)) &&& (255 : Int32)))] [(.ref o12), (.ref o11), (.ref o11)])
      refine Go.st (fun _ h => XS.dup X12.here hx rfl (hb hby d_method_5_code_66) rfl rfl h) ?_
      show Go p e below _ T12 (mkF m 67 #[.val (.int p1), .val (.int (own_len_ p1)), .val (.int ((XT.ushr p1 (2 : Int32)) &&& (255 : Int32))), .val (.int ((XT.ushr p1 (10 : Int32)) &&& (255 : Int32)))] [(.ref o12), (.ref o12), (.ref o11), (.ref o11)])
      refine Go.st (fun _ h => XT.iconstV X12.here hx rfl (0 : Int32) (hb hby d_method_5_code_67) (by decide) h) ?_
      show Go p e below _ T12 (mkF m 68 #[.val (.int p1), .val (.int (own_len_ p1)), .val (.int ((XT.ushr p1 (2 : Int32)) &&& (255 : Int32))), .val (.int ((XT.ushr p1 (10 : Int32)) &&& (255 : Int32)))] [(.int (0 : Int32)), (.ref o12), (.ref o12), (.ref o11), (.ref o11)])
      refine Go.st (fun _ h => XS.iloadN X12.here hx rfl (hb hby d_method_5_code_68) rfl h) ?_
      show Go p e below _ T12 (mkF m 69 #[.val (.int p1), .val (.int (own_len_ p1)), .val (.int ((XT.ushr p1 (2 : Int32)) &&& (255 : Int32))), .val (.int ((XT.ushr p1 (10 : Int32)) &&& (255 : Int32)))] [(.int ((XT.ushr p1 (2 : Int32)) &&& (255 : Int32))), (.int (0 : Int32)), (.ref o12), (.ref o12), (.ref o11), (.ref o11)])
      obtain ⟨T13, h13, X13, e13, W13, V13, st13⟩ := own_stC X12 hx hZ e12 (j := (0 : Int32)) V12 (by decide) (by decide) 0 (by decide) (by simp) (g := (mkF m 69 #[.val (.int p1), .val (.int (own_len_ p1)), .val (.int ((XT.ushr p1 (2 : Int32)) &&& (255 : Int32))), .val (.int ((XT.ushr p1 (10 : Int32)) &&& (255 : Int32)))] [(.int ((XT.ushr p1 (2 : Int32)) &&& (255 : Int32))), (.int (0 : Int32)), (.ref o12), (.ref o12), (.ref o11), (.ref o11)])) rfl rfl (hb hby d_method_5_code_69)
      have N13 := Fr.snoc X13 N0 (Nat.le_trans Z0 le_o12)
      have E13_0 := E12_0.wr W13
      have F13_1 := F12_1.other W13 (Or.inl ne_o11_o12)
      have F13_2 := F12_2.other W13 (Or.inl ne_o11_o12)
      have Q13_3 := Safe.wr W13 Q12_4 RR12.1 Q12_3
      have Q13_4 := Safe.wr W13 Q12_4 RR12.1 Q12_4
      have K13 := K12.wr W13 (Or.inr le_o12)
      have RR13 := RR12.trans (CHr.wr W13 Q12_4 RR12.1)
      have hkS13 := Nat.le_trans hkS12 (Nat.le_of_eq W13.size.symm)
      have V13' : Arv Z h13 o12 k12 .char (2 : Int32) [(.int (nar .char ((XT.ushr p1 (2 : Int32)) &&& (255 : Int32)))), (.int (0 : Int32))] (.int (0 : Int32)) := V13
      refine Go.st st13 ?_
      show Go p e below _ T13 (mkF m 70 #[.val (.int p1), .val (.int (own_len_ p1)), .val (.int ((XT.ushr p1 (2 : Int32)) &&& (255 : Int32))), .val (.int ((XT.ushr p1 (10 : Int32)) &&& (255 : Int32)))] [(.ref o12), (.ref o11), (.ref o11)])
      refine Go.st (fun _ h => XS.dup X13.here hx rfl (hb hby d_method_5_code_70) rfl rfl h) ?_
      show Go p e below _ T13 (mkF m 71 #[.val (.int p1), .val (.int (own_len_ p1)), .val (.int ((XT.ushr p1 (2 : Int32)) &&& (255 : Int32))), .val (.int ((XT.ushr p1 (10 : Int32)) &&& (255 : Int32)))] [(.ref o12), (.ref o12), (.ref o11), (.ref o11)])
      refine Go.st (fun _ h => XT.iconstV X13.here hx rfl (1 : Int32) (hb hby d_method_5_code_71) (by decide) h) ?_
      show Go p e below _ T13 (mkF m 72 #[.val (.int p1), .val (.int (own_len_ p1)), .val (.int ((XT.ushr p1 (2 : Int32)) &&& (255 : Int32))), .val (.int ((XT.ushr p1 (10 : Int32)) &&& (255 : Int32)))] [(.int (1 : Int32)), (.ref o12), (.ref o12), (.ref o11), (.ref o11)])
      refine Go.st (fun _ h => XS.iloadN X13.here hx rfl (hb hby d_method_5_code_72) rfl h) ?_
      show Go p e below _ T13 (mkF m 73 #[.val (.int p1), .val (.int (own_len_ p1)), .val (.int ((XT.ushr p1 (2 : Int32)) &&& (255 : Int32))), .val (.int ((XT.ushr p1 (10 : Int32)) &&& (255 : Int32)))] [(.int ((XT.ushr p1 (10 : Int32)) &&& (255 : Int32))), (.int (1 : Int32)), (.ref o12), (.ref o12), (.ref o11), (.ref o11)])
      obtain ⟨T14, h14, X14, e14, W14, V14, st14⟩ := own_stC X13 hx hZ e13 (j := (1 : Int32)) V13' (by decide) (by decide) 1 (by decide) (by simp) (g := (mkF m 73 #[.val (.int p1), .val (.int (own_len_ p1)), .val (.int ((XT.ushr p1 (2 : Int32)) &&& (255 : Int32))), .val (.int ((XT.ushr p1 (10 : Int32)) &&& (255 : Int32)))] [(.int ((XT.ushr p1 (10 : Int32)) &&& (255 : Int32))), (.int (1 : Int32)), (.ref o12), (.ref o12), (.ref o11), (.ref o11)])) rfl rfl (hb hby d_method_5_code_73)
      have N14 := Fr.snoc X14 N13 (Nat.le_trans Z0 le_o12)
      have E14_0 := E13_0.wr W14
      have F14_1 := F13_1.other W14 (Or.inl ne_o11_o12)
      have F14_2 := F13_2.other W14 (Or.inl ne_o11_o12)
      have Q14_3 := Safe.wr W14 Q13_4 RR13.1 Q13_3
      have Q14_4 := Safe.wr W14 Q13_4 RR13.1 Q13_4
      have K14 := K13.wr W14 (Or.inr le_o12)
      have RR14 := RR13.trans (CHr.wr W14 Q13_4 RR13.1)
      have hkS14 := Nat.le_trans hkS13 (Nat.le_of_eq W14.size.symm)
      have V14' : Arv Z h14 o12 k12 .char (2 : Int32) [(.int (nar .char ((XT.ushr p1 (2 : Int32)) &&& (255 : Int32)))), (.int (nar .char ((XT.ushr p1 (10 : Int32)) &&& (255 : Int32))))] (.int (0 : Int32)) := V14
      refine Go.st st14 ?_
      show Go p e below _ T14 (mkF m 74 #[.val (.int p1), .val (.int (own_len_ p1)), .val (.int ((XT.ushr p1 (2 : Int32)) &&& (255 : Int32))), .val (.int ((XT.ushr p1 (10 : Int32)) &&& (255 : Int32)))] [(.ref o12), (.ref o11), (.ref o11)])
      have hlat15 : ∀ c ∈ ([(nar .char ((XT.ushr p1 (2 : Int32)) &&& (255 : Int32))), (nar .char ((XT.ushr p1 (10 : Int32)) &&& (255 : Int32)))] : List Int32), ¬ c < 0 ∧ ¬ (255 : Int32) < c := by
        intro c hc
        simp only [List.mem_cons, List.not_mem_nil, or_false] at hc
        rcases hc with rfl | rfl
        · exact own_nar255 _
        · exact own_nar255 _
      obtain ⟨_, _, ⟨T15, L15, k15, n15⟩, -, X15, ⟨Lc15, hQ15, l15, y15, z15⟩, st15⟩ := X14.specialBack hx (y := (⟨"java/lang/String", "<init>", "([C)V"⟩ : MethodName)) rfl hown (mvT (s := s.setVm s.vm) hZ (hw _ (List.mem_of_getElem? (i := 14) rfl))) (mvT (s := s.setVm s.vm) hZ (hw _ (List.mem_of_getElem? (i := 15) rfl))) (mvT (s := s.setVm s.vm) hZ (hw _ (List.mem_of_getElem? (i := 16) rfl))) (by decide) (StrChars.Road.backV (s := s.setVm s.vm) (W := 1) hZ hws (kI := 4) (hw _ (List.mem_of_getElem? (i := 11) rfl)) (cs := [(nar .char ((XT.ushr p1 (2 : Int32)) &&& (255 : Int32))), (nar .char ((XT.ushr p1 (10 : Int32)) &&& (255 : Int32)))]) (bs := [((nar .char ((XT.ushr p1 (2 : Int32)) &&& (255 : Int32)))).toInt8.toInt32, ((nar .char ((XT.ushr p1 (10 : Int32)) &&& (255 : Int32)))).toInt8.toInt32]) (n := 2) (Nat.le_trans Z0 le_o11) (Nat.le_trans Z0 K14.1) E14_0 F14_2 F14_1 V14' (S_CS.ext (own_ext K14)) hzc rfl rfl (by decide) (by decide) hlat15 rfl (by decide) (by decide)) (g := (mkF m 74 #[.val (.int p1), .val (.int (own_len_ p1)), .val (.int ((XT.ushr p1 (2 : Int32)) &&& (255 : Int32))), .val (.int ((XT.ushr p1 (10 : Int32)) &&& (255 : Int32)))] [(.ref o12), (.ref o11), (.ref o11)])) rfl (by rw [hml]; rfl) (Steps.refl _) (a := o11) (argsL := [(.ref o12)]) (rest := [(.ref o11)]) (lenOf pd_285bC29V rfl) rfl (by show 2 * 0 + _ ≤ _; exact Nat.le_of_eq rfl) (hb hby d_method_5_code_74) (fun _ _ => ⟨rfl, e14, (by decide : 2 + 1 ≤ _), (by decide : 6 + 2 ≤ _)⟩)
      dsimp only [Pt.U, Pt.locs, Pt.cells, Pt.slots] at X15 l15 y15 z15 st15 hQ15
      subst l15 y15 z15
      obtain ⟨rfl, Nc15, Kc15, Ec15, Cc15, t15, kb15, ga15, gb15, gc15, Vc15, Ac15⟩ := hQ15
      have E15_0 := E14_0.keep Kc15
      have Q15_3 := Safe.keep Kc15 (sfS Q14_3 sf0) RR14.1 Q14_3
      have Q15_4 := Safe.keep Kc15 (sfS Q14_3 sf0) RR14.1 Q14_4
      have V15_5 := V14'.keep Kc15 (ninS (Ne.symm ne_o11_o12) nin0)
      have K15 := K14.trans Kc15 (allS (Or.inr le_o11) all0)
      have RR15 := RR14.trans (CHr.keep Kc15 (sfS Q14_3 sf0) RR14.1)
      have hkS15 := Nat.le_trans hkS14 Kc15.1
      have N15 := Fr.app N14 Nc15
      refine Go.st (fun _ k => st15.trans k) ?_
      show Go p e below _ T15 (mkF m 77 #[.val (.int p1), .val (.int (own_len_ p1)), .val (.int ((XT.ushr p1 (2 : Int32)) &&& (255 : Int32))), .val (.int ((XT.ushr p1 (10 : Int32)) &&& (255 : Int32)))] [(.ref o11)])
      refine Go.retH X15 hx hlk hZ hEL RR15 rfl hS hkS15 hret rfl (Or.inr (Or.inr (Or.inr (Or.inr ⟨rfl, rfl, rfl⟩)))) (hb hby d_method_5_code_77) (by decide) (by decide) ?_
      refine ⟨o11, t15, kb15, rfl, N15, K15, le_o11, E15_0, Cc15, Vc15, ?_⟩
      rw [own_str, if_neg hc2, if_neg hc6]
      exact Ac15
theorem ef_rmLaw (x0 : Int32) (x1 : Int32) (x2 : Int32) (x3 : Int32) (x4 : Int32) (m : MethodId) : entryFrame m #[(.int x0), (.int x1), (.int x2), (.int x3), (.int x4)] maxLocals = mkF m 0 #[.val (.int x0), .val (.int x1), .val (.int x2), .val (.int x3), .val (.int x4), .unset, .unset, .unset, .unset, .unset, .unset, .unset, .unset, .unset, .unset, .unset, .unset, .unset, .unset] [] := by first | (simp [entryFrame, mkF, argsToLocals, Value.category, maxLocals]; done) | rfl
set_option maxRecDepth 65536 in
set_option maxHeartbeats 40000000 in
theorem rmLaw (l : Launch) (Z : State) (a0 : Array Value) (hw : ∀ d ∈ tables_1, d.before a0 Z = true) (hEL : EW Z a0 consts_1) (wS : ∀ a ∈ Bundle.stringAtoms, a.before a0 Z = true) (p1 p2 p3 p4 p5 : Int32) (h0 : Heap) (n0 : Nat) (Z0 : n0 ≤ h0.size) (zc : Int32) (S_CS : Sta Z h0 "java/lang/String" "COMPACT_STRINGS" "Z" (.int zc)) (hzc : ¬ zc = (0 : Int32)) :
    DoesH l Z consts_1 x code maxLocals ret tables_1 room_1 #[(.int p1), (.int p2), (.int p3), (.int p4), (.int p5)] h0 (fun v h L => v = some (.int 1) ∧ Fr n0 L) := by
  refine DoesH.intro (plainFor_of_name pn_com_example_tenon_tenon_core_XmlElementDeclaredPinLaw) (ef_rmLaw p1 p2 p3 p4 p5) ?_
  intro p e s m below meth c s₁ hx hby hml hown hnm hret hlk hZ e0 hS RR X0
  have hkS : 0 ≤ h0.size := Nat.zero_le _
  show Go p e below _ s₁ (mkF m 0 #[.val (.int p1), .val (.int p2), .val (.int p3), .val (.int p4), .val (.int p5), .unset, .unset, .unset, .unset, .unset, .unset, .unset, .unset, .unset, .unset, .unset, .unset, .unset, .unset] [])
  have N0 := Fr.nil n0
  refine Go.st (fun _ h => XS.iloadN X0.here hx rfl (hb hby at_0) rfl h) ?_
  show Go p e below _ s₁ (mkF m 1 #[.val (.int p1), .val (.int p2), .val (.int p3), .val (.int p4), .val (.int p5), .unset, .unset, .unset, .unset, .unset, .unset, .unset, .unset, .unset, .unset, .unset, .unset, .unset, .unset] [(.int p1)])
  refine Go.st (fun _ h => XT.iconstV X0.here hx rfl (3 : Int32) (hb hby at_1) (by decide) h) ?_
  show Go p e below _ s₁ (mkF m 2 #[.val (.int p1), .val (.int p2), .val (.int p3), .val (.int p4), .val (.int p5), .unset, .unset, .unset, .unset, .unset, .unset, .unset, .unset, .unset, .unset, .unset, .unset, .unset, .unset] [(.int (3 : Int32)), (.int p1)])
  refine Go.st (fun _ h => XS.iand X0.here hx rfl (hb hby at_2) rfl h) ?_
  show Go p e below _ s₁ (mkF m 3 #[.val (.int p1), .val (.int p2), .val (.int p3), .val (.int p4), .val (.int p5), .unset, .unset, .unset, .unset, .unset, .unset, .unset, .unset, .unset, .unset, .unset, .unset, .unset, .unset] [(.int (p1 &&& (3 : Int32)))])
  refine Go.st (fun _ h => XS.istore X0.here hx rfl (hb hby at_3) rfl (l' := #[.val (.int p1), .val (.int p2), .val (.int p3), .val (.int p4), .val (.int p5), .val (.int (p1 &&& (3 : Int32))), .unset, .unset, .unset, .unset, .unset, .unset, .unset, .unset, .unset, .unset, .unset, .unset, .unset]) rfl h) ?_
  show Go p e below _ s₁ (mkF m 5 #[.val (.int p1), .val (.int p2), .val (.int p3), .val (.int p4), .val (.int p5), .val (.int (p1 &&& (3 : Int32))), .unset, .unset, .unset, .unset, .unset, .unset, .unset, .unset, .unset, .unset, .unset, .unset, .unset] [])
  obtain ⟨kk, h_kk⟩ : ∃ z : Int32, z = (p1 &&& (3 : Int32)) := ⟨_, rfl⟩
  rw [← h_kk]
  show Go p e below _ s₁ (mkF m 5 #[.val (.int p1), .val (.int p2), .val (.int p3), .val (.int p4), .val (.int p5), .val (.int kk), .unset, .unset, .unset, .unset, .unset, .unset, .unset, .unset, .unset, .unset, .unset, .unset, .unset] [])
  have hkk := own_4 kk (by rw [h_kk]; exact own_and3 p1)
  rcases hkk with rfl | rfl | rfl | rfl
  ·
    show Go p e below _ s₁ (mkF m 5 #[.val (.int p1), .val (.int p2), .val (.int p3), .val (.int p4), .val (.int p5), .val (.int (0 : Int32)), .unset, .unset, .unset, .unset, .unset, .unset, .unset, .unset, .unset, .unset, .unset, .unset, .unset] [])
    refine Go.st (fun _ h => XS.iloadN X0.here hx rfl (hb hby at_5) rfl h) ?_
    show Go p e below _ s₁ (mkF m 6 #[.val (.int p1), .val (.int p2), .val (.int p3), .val (.int p4), .val (.int p5), .val (.int (0 : Int32)), .unset, .unset, .unset, .unset, .unset, .unset, .unset, .unset, .unset, .unset, .unset, .unset, .unset] [(.int p2)])
    obtain ⟨T1, X1, e1, st1⟩ := own_still rfl rfl (Does.static (y := (⟨"com/example/tenon/tenon/core/XmlElementDeclaredPinLaw", "key", "(I)I"⟩ : MethodName)) (g := (mkF m 6 #[.val (.int p1), .val (.int p2), .val (.int p3), .val (.int p4), .val (.int p5), .val (.int (0 : Int32)), .unset, .unset, .unset, .unset, .unset, .unset, .unset, .unset, .unset, .unset, .unset, .unset, .unset] [(.int p2)])) (rmKey l Z a0 hw p2 h0) X0 hx hZ hown e0 (hw _ (List.mem_of_getElem? (i := 0) rfl)) (hw _ (List.mem_of_getElem? (i := 1) rfl)) (hw _ (List.mem_of_getElem? (i := 2) rfl)) (hw _ (List.mem_of_getElem? (i := 3) rfl)) (by decide) rfl (by rw [hml]; rfl) (argsL := [(.int p2)]) (rest := []) (lenOf pd_28I29I rfl) rfl (hb hby at_6) (W := 0) (by show 2 * 0 + _ ≤ _; exact Nat.le_of_eq rfl) (by decide) (by decide) (by decide) (by decide))
    refine Go.st st1 ?_
    show Go p e below _ T1 (mkF m 9 #[.val (.int p1), .val (.int p2), .val (.int p3), .val (.int p4), .val (.int p5), .val (.int (0 : Int32)), .unset, .unset, .unset, .unset, .unset, .unset, .unset, .unset, .unset, .unset, .unset, .unset, .unset] [(.int (own_key p2))])
    refine Go.st (fun _ h => XS.istore X1.here hx rfl (hb hby at_9) rfl (l' := #[.val (.int p1), .val (.int p2), .val (.int p3), .val (.int p4), .val (.int p5), .val (.int (0 : Int32)), .val (.int (own_key p2)), .unset, .unset, .unset, .unset, .unset, .unset, .unset, .unset, .unset, .unset, .unset, .unset]) rfl h) ?_
    show Go p e below _ T1 (mkF m 11 #[.val (.int p1), .val (.int p2), .val (.int p3), .val (.int p4), .val (.int p5), .val (.int (0 : Int32)), .val (.int (own_key p2)), .unset, .unset, .unset, .unset, .unset, .unset, .unset, .unset, .unset, .unset, .unset, .unset] [])
    refine Go.st (fun _ h => XS.iloadN X1.here hx rfl (hb hby at_11) rfl h) ?_
    show Go p e below _ T1 (mkF m 12 #[.val (.int p1), .val (.int p2), .val (.int p3), .val (.int p4), .val (.int p5), .val (.int (0 : Int32)), .val (.int (own_key p2)), .unset, .unset, .unset, .unset, .unset, .unset, .unset, .unset, .unset, .unset, .unset, .unset] [(.int p3)])
    obtain ⟨T2, X2, e2, st2⟩ := own_still rfl rfl (Does.static (y := (⟨"com/example/tenon/tenon/core/XmlElementDeclaredPinLaw", "key", "(I)I"⟩ : MethodName)) (g := (mkF m 12 #[.val (.int p1), .val (.int p2), .val (.int p3), .val (.int p4), .val (.int p5), .val (.int (0 : Int32)), .val (.int (own_key p2)), .unset, .unset, .unset, .unset, .unset, .unset, .unset, .unset, .unset, .unset, .unset, .unset] [(.int p3)])) (rmKey l Z a0 hw p3 h0) X1 hx hZ hown e1 (hw _ (List.mem_of_getElem? (i := 0) rfl)) (hw _ (List.mem_of_getElem? (i := 1) rfl)) (hw _ (List.mem_of_getElem? (i := 2) rfl)) (hw _ (List.mem_of_getElem? (i := 3) rfl)) (by decide) rfl (by rw [hml]; rfl) (argsL := [(.int p3)]) (rest := []) (lenOf pd_28I29I rfl) rfl (hb hby at_12) (W := 0) (by show 2 * 0 + _ ≤ _; exact Nat.le_of_eq rfl) (by decide) (by decide) (by decide) (by decide))
    refine Go.st st2 ?_
    show Go p e below _ T2 (mkF m 15 #[.val (.int p1), .val (.int p2), .val (.int p3), .val (.int p4), .val (.int p5), .val (.int (0 : Int32)), .val (.int (own_key p2)), .unset, .unset, .unset, .unset, .unset, .unset, .unset, .unset, .unset, .unset, .unset, .unset] [(.int (own_key p3))])
    refine Go.st (fun _ h => XS.istore X2.here hx rfl (hb hby at_15) rfl (l' := #[.val (.int p1), .val (.int p2), .val (.int p3), .val (.int p4), .val (.int p5), .val (.int (0 : Int32)), .val (.int (own_key p2)), .val (.int (own_key p3)), .unset, .unset, .unset, .unset, .unset, .unset, .unset, .unset, .unset, .unset, .unset]) rfl h) ?_
    show Go p e below _ T2 (mkF m 17 #[.val (.int p1), .val (.int p2), .val (.int p3), .val (.int p4), .val (.int p5), .val (.int (0 : Int32)), .val (.int (own_key p2)), .val (.int (own_key p3)), .unset, .unset, .unset, .unset, .unset, .unset, .unset, .unset, .unset, .unset, .unset] [])
    refine Go.st (fun _ h => XS.iloadN X2.here hx rfl (hb hby at_17) rfl h) ?_
    show Go p e below _ T2 (mkF m 18 #[.val (.int p1), .val (.int p2), .val (.int p3), .val (.int p4), .val (.int p5), .val (.int (0 : Int32)), .val (.int (own_key p2)), .val (.int (own_key p3)), .unset, .unset, .unset, .unset, .unset, .unset, .unset, .unset, .unset, .unset, .unset] [(.int p4)])
    obtain ⟨T3, X3, e3, st3⟩ := own_still rfl rfl (Does.static (y := (⟨"com/example/tenon/tenon/core/XmlElementDeclaredPinLaw", "key", "(I)I"⟩ : MethodName)) (g := (mkF m 18 #[.val (.int p1), .val (.int p2), .val (.int p3), .val (.int p4), .val (.int p5), .val (.int (0 : Int32)), .val (.int (own_key p2)), .val (.int (own_key p3)), .unset, .unset, .unset, .unset, .unset, .unset, .unset, .unset, .unset, .unset, .unset] [(.int p4)])) (rmKey l Z a0 hw p4 h0) X2 hx hZ hown e2 (hw _ (List.mem_of_getElem? (i := 0) rfl)) (hw _ (List.mem_of_getElem? (i := 1) rfl)) (hw _ (List.mem_of_getElem? (i := 2) rfl)) (hw _ (List.mem_of_getElem? (i := 3) rfl)) (by decide) rfl (by rw [hml]; rfl) (argsL := [(.int p4)]) (rest := []) (lenOf pd_28I29I rfl) rfl (hb hby at_18) (W := 0) (by show 2 * 0 + _ ≤ _; exact Nat.le_of_eq rfl) (by decide) (by decide) (by decide) (by decide))
    refine Go.st st3 ?_
    show Go p e below _ T3 (mkF m 21 #[.val (.int p1), .val (.int p2), .val (.int p3), .val (.int p4), .val (.int p5), .val (.int (0 : Int32)), .val (.int (own_key p2)), .val (.int (own_key p3)), .unset, .unset, .unset, .unset, .unset, .unset, .unset, .unset, .unset, .unset, .unset] [(.int (own_key p4))])
    refine Go.st (fun _ h => XS.istore X3.here hx rfl (hb hby at_21) rfl (l' := #[.val (.int p1), .val (.int p2), .val (.int p3), .val (.int p4), .val (.int p5), .val (.int (0 : Int32)), .val (.int (own_key p2)), .val (.int (own_key p3)), .val (.int (own_key p4)), .unset, .unset, .unset, .unset, .unset, .unset, .unset, .unset, .unset, .unset]) rfl h) ?_
    show Go p e below _ T3 (mkF m 23 #[.val (.int p1), .val (.int p2), .val (.int p3), .val (.int p4), .val (.int p5), .val (.int (0 : Int32)), .val (.int (own_key p2)), .val (.int (own_key p3)), .val (.int (own_key p4)), .unset, .unset, .unset, .unset, .unset, .unset, .unset, .unset, .unset, .unset] [])
    refine Go.st (fun _ h => XS.iload X3.here hx rfl (hb hby at_23) rfl h) ?_
    show Go p e below _ T3 (mkF m 25 #[.val (.int p1), .val (.int p2), .val (.int p3), .val (.int p4), .val (.int p5), .val (.int (0 : Int32)), .val (.int (own_key p2)), .val (.int (own_key p3)), .val (.int (own_key p4)), .unset, .unset, .unset, .unset, .unset, .unset, .unset, .unset, .unset, .unset] [(.int (0 : Int32))])
    refine Go.st (fun _ h => XT.iconstV X3.here hx rfl (2 : Int32) (hb hby at_25) (by decide) h) ?_
    show Go p e below _ T3 (mkF m 26 #[.val (.int p1), .val (.int p2), .val (.int p3), .val (.int p4), .val (.int p5), .val (.int (0 : Int32)), .val (.int (own_key p2)), .val (.int (own_key p3)), .val (.int (own_key p4)), .unset, .unset, .unset, .unset, .unset, .unset, .unset, .unset, .unset, .unset] [(.int (2 : Int32)), (.int (0 : Int32))])
    refine Go.st (fun _ h => XS.icmpYes X3.here hx rfl (pc0 := 26) (pc' := 38) rfl (hb hby at_26) rfl (by decide) (by decide) (by decide) h) ?_
    show Go p e below _ T3 (mkF m 38 #[.val (.int p1), .val (.int p2), .val (.int p3), .val (.int p4), .val (.int p5), .val (.int (0 : Int32)), .val (.int (own_key p2)), .val (.int (own_key p3)), .val (.int (own_key p4)), .unset, .unset, .unset, .unset, .unset, .unset, .unset, .unset, .unset, .unset] [])
    refine Go.st (fun _ h => XS.iload X3.here hx rfl (hb hby at_38) rfl h) ?_
    show Go p e below _ T3 (mkF m 40 #[.val (.int p1), .val (.int p2), .val (.int p3), .val (.int p4), .val (.int p5), .val (.int (0 : Int32)), .val (.int (own_key p2)), .val (.int (own_key p3)), .val (.int (own_key p4)), .unset, .unset, .unset, .unset, .unset, .unset, .unset, .unset, .unset, .unset] [(.int (0 : Int32))])
    refine Go.st (fun _ h => XT.iconstV X3.here hx rfl (3 : Int32) (hb hby at_40) (by decide) h) ?_
    show Go p e below _ T3 (mkF m 41 #[.val (.int p1), .val (.int p2), .val (.int p3), .val (.int p4), .val (.int p5), .val (.int (0 : Int32)), .val (.int (own_key p2)), .val (.int (own_key p3)), .val (.int (own_key p4)), .unset, .unset, .unset, .unset, .unset, .unset, .unset, .unset, .unset, .unset] [(.int (3 : Int32)), (.int (0 : Int32))])
    refine Go.st (fun _ h => XS.icmpYes X3.here hx rfl (pc0 := 41) (pc' := 60) rfl (hb hby at_41) rfl (by decide) (by decide) (by decide) h) ?_
    show Go p e below _ T3 (mkF m 60 #[.val (.int p1), .val (.int p2), .val (.int p3), .val (.int p4), .val (.int p5), .val (.int (0 : Int32)), .val (.int (own_key p2)), .val (.int (own_key p3)), .val (.int (own_key p4)), .unset, .unset, .unset, .unset, .unset, .unset, .unset, .unset, .unset, .unset] [])
    refine Go.st (fun _ h => XS.iloadN X3.here hx rfl (hb hby at_60) rfl h) ?_
    show Go p e below _ T3 (mkF m 61 #[.val (.int p1), .val (.int p2), .val (.int p3), .val (.int p4), .val (.int p5), .val (.int (0 : Int32)), .val (.int (own_key p2)), .val (.int (own_key p3)), .val (.int (own_key p4)), .unset, .unset, .unset, .unset, .unset, .unset, .unset, .unset, .unset, .unset] [(.int p2)])
    obtain ⟨_, T4, L4, X4, hZ, hown, hS, RR4, ⟨s4, tv4, kv4, rfl, Nc4, Kc4, lec4, Ec4, Cc4, Vc4, Bc4⟩, st4⟩ := DoesH.static (s := s) (y := (⟨"com/example/tenon/tenon/core/XmlElementDeclaredPinLaw", "mk", "(I)Ljava/lang/String;"⟩ : MethodName)) (g := (mkF m 61 #[.val (.int p1), .val (.int p2), .val (.int p3), .val (.int p4), .val (.int p5), .val (.int (0 : Int32)), .val (.int (own_key p2)), .val (.int (own_key p3)), .val (.int (own_key p4)), .unset, .unset, .unset, .unset, .unset, .unset, .unset, .unset, .unset, .unset] [(.int p2)])) (rmMk l Z a0 hw hEL wS p2 h0 n0 Z0 zc S_CS hzc) X3 hx hZ hown e3 hEL RR hS hkS (hw _ (List.mem_of_getElem? (i := 7) rfl)) (hw _ (List.mem_of_getElem? (i := 8) rfl)) (hw _ (List.mem_of_getElem? (i := 2) rfl)) (hw _ (List.mem_of_getElem? (i := 9) rfl)) (by decide) rfl (by rw [hml]; rfl) (argsL := [(.int p2)]) (rest := []) (lenOf pd_28I29Ljava2flang2fString3b rfl) rfl (hb hby at_61) (W := 0) (by show 2 * 0 + _ ≤ _; exact Nat.le_of_eq rfl) (by decide) (by decide) (by decide) (by decide)
    have K4 := (Keep.refl _ []).trans Kc4 all0
    have N4 := Fr.app N0 Nc4
    refine Go.st st4 ?_
    show Go p e below _ T4 (mkF m 64 #[.val (.int p1), .val (.int p2), .val (.int p3), .val (.int p4), .val (.int p5), .val (.int (0 : Int32)), .val (.int (own_key p2)), .val (.int (own_key p3)), .val (.int (own_key p4)), .unset, .unset, .unset, .unset, .unset, .unset, .unset, .unset, .unset, .unset] [(.ref s4)])
    refine Go.st (fun _ h => XS.astore X4.here hx rfl (hb hby at_64) rfl rfl (l' := #[.val (.int p1), .val (.int p2), .val (.int p3), .val (.int p4), .val (.int p5), .val (.int (0 : Int32)), .val (.int (own_key p2)), .val (.int (own_key p3)), .val (.int (own_key p4)), .val (.ref s4), .unset, .unset, .unset, .unset, .unset, .unset, .unset, .unset, .unset]) rfl h) ?_
    show Go p e below _ T4 (mkF m 66 #[.val (.int p1), .val (.int p2), .val (.int p3), .val (.int p4), .val (.int p5), .val (.int (0 : Int32)), .val (.int (own_key p2)), .val (.int (own_key p3)), .val (.int (own_key p4)), .val (.ref s4), .unset, .unset, .unset, .unset, .unset, .unset, .unset, .unset, .unset] [])
    refine Go.st (fun _ h => XS.iloadN X4.here hx rfl (hb hby at_66) rfl h) ?_
    show Go p e below _ T4 (mkF m 67 #[.val (.int p1), .val (.int p2), .val (.int p3), .val (.int p4), .val (.int p5), .val (.int (0 : Int32)), .val (.int (own_key p2)), .val (.int (own_key p3)), .val (.int (own_key p4)), .val (.ref s4), .unset, .unset, .unset, .unset, .unset, .unset, .unset, .unset, .unset] [(.int p3)])
    obtain ⟨_, T5, L5, X5, hZ, hown, hS, RR5, ⟨s5, tv5, kv5, rfl, Nc5, Kc5, lec5, Ec5, Cc5, Vc5, Bc5⟩, st5⟩ := DoesH.static (s := s) (y := (⟨"com/example/tenon/tenon/core/XmlElementDeclaredPinLaw", "mk", "(I)Ljava/lang/String;"⟩ : MethodName)) (g := (mkF m 67 #[.val (.int p1), .val (.int p2), .val (.int p3), .val (.int p4), .val (.int p5), .val (.int (0 : Int32)), .val (.int (own_key p2)), .val (.int (own_key p3)), .val (.int (own_key p4)), .val (.ref s4), .unset, .unset, .unset, .unset, .unset, .unset, .unset, .unset, .unset] [(.int p3)])) (rmMk l Z a0 hw hEL wS p3 T4.heap n0 (Nat.le_trans Z0 K4.1) zc (S_CS.ext (own_ext K4)) hzc) X4 hx hZ hown rfl hEL RR4 hS (Nat.le_refl _) (hw _ (List.mem_of_getElem? (i := 7) rfl)) (hw _ (List.mem_of_getElem? (i := 8) rfl)) (hw _ (List.mem_of_getElem? (i := 2) rfl)) (hw _ (List.mem_of_getElem? (i := 9) rfl)) (by decide) rfl (by rw [hml]; rfl) (argsL := [(.int p3)]) (rest := []) (lenOf pd_28I29Ljava2flang2fString3b rfl) rfl (hb hby at_67) (W := 0) (by show 2 * 0 + _ ≤ _; exact Nat.le_of_eq rfl) (by decide) (by decide) (by decide) (by decide)
    have E5_0 := Ec4.keep Kc5
    have F5_1 := Cc4.keep Kc5 nin0
    have F5_2 := Vc4.keep Kc5 nin0
    have V5_3 := Bc4.keep Kc5 nin0
    have K5 := K4.trans Kc5 all0
    have N5 := Fr.app N4 Nc5
    have ne_s4_s5 : s4 ≠ s5 := Nat.ne_of_lt (Nat.lt_of_lt_of_le Ec4.lt lec5)
    have ne_tv4_s5 : tv4 ≠ s5 := Nat.ne_of_lt (Nat.lt_of_lt_of_le Bc4.lt lec5)
    refine Go.st st5 ?_
    show Go p e below _ T5 (mkF m 70 #[.val (.int p1), .val (.int p2), .val (.int p3), .val (.int p4), .val (.int p5), .val (.int (0 : Int32)), .val (.int (own_key p2)), .val (.int (own_key p3)), .val (.int (own_key p4)), .val (.ref s4), .unset, .unset, .unset, .unset, .unset, .unset, .unset, .unset, .unset] [(.ref s5)])
    refine Go.st (fun _ h => XS.astore X5.here hx rfl (hb hby at_70) rfl rfl (l' := #[.val (.int p1), .val (.int p2), .val (.int p3), .val (.int p4), .val (.int p5), .val (.int (0 : Int32)), .val (.int (own_key p2)), .val (.int (own_key p3)), .val (.int (own_key p4)), .val (.ref s4), .val (.ref s5), .unset, .unset, .unset, .unset, .unset, .unset, .unset, .unset]) rfl h) ?_
    show Go p e below _ T5 (mkF m 72 #[.val (.int p1), .val (.int p2), .val (.int p3), .val (.int p4), .val (.int p5), .val (.int (0 : Int32)), .val (.int (own_key p2)), .val (.int (own_key p3)), .val (.int (own_key p4)), .val (.ref s4), .val (.ref s5), .unset, .unset, .unset, .unset, .unset, .unset, .unset, .unset] [])
    refine Go.st (fun _ h => XS.iloadN X5.here hx rfl (hb hby at_72) rfl h) ?_
    show Go p e below _ T5 (mkF m 73 #[.val (.int p1), .val (.int p2), .val (.int p3), .val (.int p4), .val (.int p5), .val (.int (0 : Int32)), .val (.int (own_key p2)), .val (.int (own_key p3)), .val (.int (own_key p4)), .val (.ref s4), .val (.ref s5), .unset, .unset, .unset, .unset, .unset, .unset, .unset, .unset] [(.int p4)])
    obtain ⟨_, T6, L6, X6, hZ, hown, hS, RR6, ⟨s6, tv6, kv6, rfl, Nc6, Kc6, lec6, Ec6, Cc6, Vc6, Bc6⟩, st6⟩ := DoesH.static (s := s) (y := (⟨"com/example/tenon/tenon/core/XmlElementDeclaredPinLaw", "mk", "(I)Ljava/lang/String;"⟩ : MethodName)) (g := (mkF m 73 #[.val (.int p1), .val (.int p2), .val (.int p3), .val (.int p4), .val (.int p5), .val (.int (0 : Int32)), .val (.int (own_key p2)), .val (.int (own_key p3)), .val (.int (own_key p4)), .val (.ref s4), .val (.ref s5), .unset, .unset, .unset, .unset, .unset, .unset, .unset, .unset] [(.int p4)])) (rmMk l Z a0 hw hEL wS p4 T5.heap n0 (Nat.le_trans Z0 K5.1) zc (S_CS.ext (own_ext K5)) hzc) X5 hx hZ hown rfl hEL RR5 hS (Nat.le_refl _) (hw _ (List.mem_of_getElem? (i := 7) rfl)) (hw _ (List.mem_of_getElem? (i := 8) rfl)) (hw _ (List.mem_of_getElem? (i := 2) rfl)) (hw _ (List.mem_of_getElem? (i := 9) rfl)) (by decide) rfl (by rw [hml]; rfl) (argsL := [(.int p4)]) (rest := []) (lenOf pd_28I29Ljava2flang2fString3b rfl) rfl (hb hby at_73) (W := 0) (by show 2 * 0 + _ ≤ _; exact Nat.le_of_eq rfl) (by decide) (by decide) (by decide) (by decide)
    have E6_0 := E5_0.keep Kc6
    have E6_1 := Ec5.keep Kc6
    have F6_2 := F5_1.keep Kc6 nin0
    have F6_3 := F5_2.keep Kc6 nin0
    have F6_4 := Cc5.keep Kc6 nin0
    have F6_5 := Vc5.keep Kc6 nin0
    have V6_6 := V5_3.keep Kc6 nin0
    have V6_7 := Bc5.keep Kc6 nin0
    have K6 := K5.trans Kc6 all0
    have N6 := Fr.app N5 Nc6
    have ne_s4_s6 : s4 ≠ s6 := Nat.ne_of_lt (Nat.lt_of_lt_of_le E5_0.lt lec6)
    have ne_tv4_s6 : tv4 ≠ s6 := Nat.ne_of_lt (Nat.lt_of_lt_of_le V5_3.lt lec6)
    have ne_s5_s6 : s5 ≠ s6 := Nat.ne_of_lt (Nat.lt_of_lt_of_le Ec5.lt lec6)
    have ne_tv5_s6 : tv5 ≠ s6 := Nat.ne_of_lt (Nat.lt_of_lt_of_le Bc5.lt lec6)
    refine Go.st st6 ?_
    show Go p e below _ T6 (mkF m 76 #[.val (.int p1), .val (.int p2), .val (.int p3), .val (.int p4), .val (.int p5), .val (.int (0 : Int32)), .val (.int (own_key p2)), .val (.int (own_key p3)), .val (.int (own_key p4)), .val (.ref s4), .val (.ref s5), .unset, .unset, .unset, .unset, .unset, .unset, .unset, .unset] [(.ref s6)])
    refine Go.st (fun _ h => XS.astore X6.here hx rfl (hb hby at_76) rfl rfl (l' := #[.val (.int p1), .val (.int p2), .val (.int p3), .val (.int p4), .val (.int p5), .val (.int (0 : Int32)), .val (.int (own_key p2)), .val (.int (own_key p3)), .val (.int (own_key p4)), .val (.ref s4), .val (.ref s5), .val (.ref s6), .unset, .unset, .unset, .unset, .unset, .unset, .unset]) rfl h) ?_
    show Go p e below _ T6 (mkF m 78 #[.val (.int p1), .val (.int p2), .val (.int p3), .val (.int p4), .val (.int p5), .val (.int (0 : Int32)), .val (.int (own_key p2)), .val (.int (own_key p3)), .val (.int (own_key p4)), .val (.ref s4), .val (.ref s5), .val (.ref s6), .unset, .unset, .unset, .unset, .unset, .unset, .unset] [])
    refine Go.st (fun _ h => XS.iload X6.here hx rfl (hb hby at_78) rfl h) ?_
    show Go p e below _ T6 (mkF m 80 #[.val (.int p1), .val (.int p2), .val (.int p3), .val (.int p4), .val (.int p5), .val (.int (0 : Int32)), .val (.int (own_key p2)), .val (.int (own_key p3)), .val (.int (own_key p4)), .val (.ref s4), .val (.ref s5), .val (.ref s6), .unset, .unset, .unset, .unset, .unset, .unset, .unset] [(.int (0 : Int32))])
    refine Go.st (fun _ h => XS.ifNo X6.here hx rfl (hb hby at_80) rfl (by decide) h) ?_
    show Go p e below _ T6 (mkF m 83 #[.val (.int p1), .val (.int p2), .val (.int p3), .val (.int p4), .val (.int p5), .val (.int (0 : Int32)), .val (.int (own_key p2)), .val (.int (own_key p3)), .val (.int (own_key p4)), .val (.ref s4), .val (.ref s5), .val (.ref s6), .unset, .unset, .unset, .unset, .unset, .unset, .unset] [])
    refine Go.st (fun _ h => XT.iconstV X6.here hx rfl (0 : Int32) (hb hby at_83) (by decide) h) ?_
    show Go p e below _ T6 (mkF m 84 #[.val (.int p1), .val (.int p2), .val (.int p3), .val (.int p4), .val (.int p5), .val (.int (0 : Int32)), .val (.int (own_key p2)), .val (.int (own_key p3)), .val (.int (own_key p4)), .val (.ref s4), .val (.ref s5), .val (.ref s6), .unset, .unset, .unset, .unset, .unset, .unset, .unset] [(.int (0 : Int32))])
    obtain ⟨T7, h7, k7, X7, e7, E7, A7, O7, st7⟩ := newR X6 hx hZ hown (hw _ (List.mem_of_getElem? (i := 10) rfl)) (hw _ (List.mem_of_getElem? (i := 40) rfl)) rfl (g := (mkF m 84 #[.val (.int p1), .val (.int p2), .val (.int p3), .val (.int p4), .val (.int p5), .val (.int (0 : Int32)), .val (.int (own_key p2)), .val (.int (own_key p3)), .val (.int (own_key p4)), .val (.ref s4), .val (.ref s5), .val (.ref s6), .unset, .unset, .unset, .unset, .unset, .unset, .unset] [(.int (0 : Int32))])) rfl (hb hby at_84) rfl (by decide) (cap := 0) (by decide) (by decide) (by decide) (by decide)
    obtain ⟨o7, g7⟩ : ∃ z, z = T6.heap.size := ⟨_, rfl⟩
    rw [← g7] at A7 st7
    have ne_s4_o7 : s4 ≠ o7 := by rw [g7]; exact Nat.ne_of_lt E6_0.lt
    have ne_s5_o7 : s5 ≠ o7 := by rw [g7]; exact Nat.ne_of_lt E6_1.lt
    have ne_s6_o7 : s6 ≠ o7 := by rw [g7]; exact Nat.ne_of_lt Ec6.lt
    have ne_tv4_o7 : tv4 ≠ o7 := by rw [g7]; exact Nat.ne_of_lt V6_6.lt
    have ne_tv5_o7 : tv5 ≠ o7 := by rw [g7]; exact Nat.ne_of_lt V6_7.lt
    have ne_tv6_o7 : tv6 ≠ o7 := by rw [g7]; exact Nat.ne_of_lt Bc6.lt
    have le_o7 : h0.size ≤ o7 := by rw [g7]; exact K6.1
    have Q7_ : Safe Z consts_1 _ T6.heap o7 := Safe.new (vm := T6.vm) (by rw [g7]; exact Nat.le_refl _)
    have E7_0 := E6_0.ext E7
    have E7_1 := E6_1.ext E7
    have E7_2 := Ec6.ext E7
    have F7_3 := F6_2.ext E7
    have F7_4 := F6_3.ext E7
    have F7_5 := F6_4.ext E7
    have F7_6 := F6_5.ext E7
    have F7_7 := Cc6.ext E7
    have F7_8 := Vc6.ext E7
    have Q7_9 := Safe.ext E7 RR6.1 Q7_
    have V7_10 := V6_6.ext E7
    have V7_11 := V6_7.ext E7
    have V7_12 := Bc6.ext E7
    have K7 := K6.ext E7
    have RR7 := RR6.trans (CHr.ext E7 RR6.1)
    have hkS7 := Nat.le_trans (Nat.le_refl _) E7.1
    have V7 : Arv Z h7 o7 k7 (.object "java/lang/String") (0 : Int32) [] .null := (Arv.new A7 (by decide)).pad (pad_rep [] .null 0)
    refine Go.st st7 ?_
    show Go p e below _ T7 (mkF m 87 #[.val (.int p1), .val (.int p2), .val (.int p3), .val (.int p4), .val (.int p5), .val (.int (0 : Int32)), .val (.int (own_key p2)), .val (.int (own_key p3)), .val (.int (own_key p4)), .val (.ref s4), .val (.ref s5), .val (.ref s6), .unset, .unset, .unset, .unset, .unset, .unset, .unset] [(.ref o7)])
    refine Go.st (fun _ h => XS.astore X7.here hx rfl (hb hby at_87) rfl rfl (l' := #[.val (.int p1), .val (.int p2), .val (.int p3), .val (.int p4), .val (.int p5), .val (.int (0 : Int32)), .val (.int (own_key p2)), .val (.int (own_key p3)), .val (.int (own_key p4)), .val (.ref s4), .val (.ref s5), .val (.ref s6), .val (.ref o7), .unset, .unset, .unset, .unset, .unset, .unset]) rfl h) ?_
    show Go p e below _ T7 (mkF m 89 #[.val (.int p1), .val (.int p2), .val (.int p3), .val (.int p4), .val (.int p5), .val (.int (0 : Int32)), .val (.int (own_key p2)), .val (.int (own_key p3)), .val (.int (own_key p4)), .val (.ref s4), .val (.ref s5), .val (.ref s6), .val (.ref o7), .unset, .unset, .unset, .unset, .unset, .unset] [])
    refine Go.st (fun _ h => XS.goto X7.here hx rfl (pc0 := 89) (pc' := 189) rfl (hb hby at_89) (by decide) (by decide) h) ?_
    show Go p e below _ T7 (mkF m 189 #[.val (.int p1), .val (.int p2), .val (.int p3), .val (.int p4), .val (.int p5), .val (.int (0 : Int32)), .val (.int (own_key p2)), .val (.int (own_key p3)), .val (.int (own_key p4)), .val (.ref s4), .val (.ref s5), .val (.ref s6), .val (.ref o7), .unset, .unset, .unset, .unset, .unset, .unset] [])
    refine Go.st (fun _ h => XS.iload X7.here hx rfl (hb hby at_189) rfl h) ?_
    show Go p e below _ T7 (mkF m 191 #[.val (.int p1), .val (.int p2), .val (.int p3), .val (.int p4), .val (.int p5), .val (.int (0 : Int32)), .val (.int (own_key p2)), .val (.int (own_key p3)), .val (.int (own_key p4)), .val (.ref s4), .val (.ref s5), .val (.ref s6), .val (.ref o7), .unset, .unset, .unset, .unset, .unset, .unset] [(.int p5)])
    refine Go.st (fun _ h => XT.iconstV X7.here hx rfl (3 : Int32) (hb hby at_191) (by decide) h) ?_
    show Go p e below _ T7 (mkF m 192 #[.val (.int p1), .val (.int p2), .val (.int p3), .val (.int p4), .val (.int p5), .val (.int (0 : Int32)), .val (.int (own_key p2)), .val (.int (own_key p3)), .val (.int (own_key p4)), .val (.ref s4), .val (.ref s5), .val (.ref s6), .val (.ref o7), .unset, .unset, .unset, .unset, .unset, .unset] [(.int (3 : Int32)), (.int p5)])
    refine Go.st (fun _ h => XS.iand X7.here hx rfl (hb hby at_192) rfl h) ?_
    show Go p e below _ T7 (mkF m 193 #[.val (.int p1), .val (.int p2), .val (.int p3), .val (.int p4), .val (.int p5), .val (.int (0 : Int32)), .val (.int (own_key p2)), .val (.int (own_key p3)), .val (.int (own_key p4)), .val (.ref s4), .val (.ref s5), .val (.ref s6), .val (.ref o7), .unset, .unset, .unset, .unset, .unset, .unset] [(.int (p5 &&& (3 : Int32)))])
    refine Go.st (fun _ h => XS.istore X7.here hx rfl (hb hby at_193) rfl (l' := #[.val (.int p1), .val (.int p2), .val (.int p3), .val (.int p4), .val (.int p5), .val (.int (0 : Int32)), .val (.int (own_key p2)), .val (.int (own_key p3)), .val (.int (own_key p4)), .val (.ref s4), .val (.ref s5), .val (.ref s6), .val (.ref o7), .val (.int (p5 &&& (3 : Int32))), .unset, .unset, .unset, .unset, .unset]) rfl h) ?_
    show Go p e below _ T7 (mkF m 195 #[.val (.int p1), .val (.int p2), .val (.int p3), .val (.int p4), .val (.int p5), .val (.int (0 : Int32)), .val (.int (own_key p2)), .val (.int (own_key p3)), .val (.int (own_key p4)), .val (.ref s4), .val (.ref s5), .val (.ref s6), .val (.ref o7), .val (.int (p5 &&& (3 : Int32))), .unset, .unset, .unset, .unset, .unset] [])
    have KK : ∀ z : Int32, Go p e below (EndsH Z consts_1 s room_1.cells room_1.slots (fun v h L => v = some (.int 1) ∧ Fr n0 L)) T7 (mkF m 236 #[.val (.int p1), .val (.int p2), .val (.int p3), .val (.int p4), .val (.int p5), .val (.int (0 : Int32)), .val (.int (own_key p2)), .val (.int (own_key p3)), .val (.int (own_key p4)), .val (.ref s4), .val (.ref s5), .val (.ref s6), .val (.ref o7), .val (.int (p5 &&& (3 : Int32))), .val (.int z), .unset, .unset, .unset, .unset] []) := by
      intro z
      refine Go.st (fun _ h => XS.iload X7.here hx rfl (hb hby at_236) rfl h) ?_
      show Go p e below _ T7 (mkF m 238 #[.val (.int p1), .val (.int p2), .val (.int p3), .val (.int p4), .val (.int p5), .val (.int (0 : Int32)), .val (.int (own_key p2)), .val (.int (own_key p3)), .val (.int (own_key p4)), .val (.ref s4), .val (.ref s5), .val (.ref s6), .val (.ref o7), .val (.int (p5 &&& (3 : Int32))), .val (.int z), .unset, .unset, .unset, .unset] [(.int z)])
      obtain ⟨_, T8, L8, X8, hZ, hown, hS, RR8, ⟨s8, tv8, kv8, rfl, Nc8, Kc8, lec8, Ec8, Cc8, Vc8, Bc8⟩, st8⟩ := DoesH.static (s := s) (y := (⟨"com/example/tenon/tenon/core/XmlElementDeclaredPinLaw", "mk", "(I)Ljava/lang/String;"⟩ : MethodName)) (g := (mkF m 238 #[.val (.int p1), .val (.int p2), .val (.int p3), .val (.int p4), .val (.int p5), .val (.int (0 : Int32)), .val (.int (own_key p2)), .val (.int (own_key p3)), .val (.int (own_key p4)), .val (.ref s4), .val (.ref s5), .val (.ref s6), .val (.ref o7), .val (.int (p5 &&& (3 : Int32))), .val (.int z), .unset, .unset, .unset, .unset] [(.int z)])) (rmMk l Z a0 hw hEL wS z h7 n0 (Nat.le_trans Z0 K7.1) zc (S_CS.ext (own_ext K7)) hzc) X7 hx hZ hown e7 hEL RR7 hS hkS7 (hw _ (List.mem_of_getElem? (i := 7) rfl)) (hw _ (List.mem_of_getElem? (i := 8) rfl)) (hw _ (List.mem_of_getElem? (i := 2) rfl)) (hw _ (List.mem_of_getElem? (i := 9) rfl)) (by decide) rfl (by rw [hml]; rfl) (argsL := [(.int z)]) (rest := []) (lenOf pd_28I29Ljava2flang2fString3b rfl) rfl (hb hby at_238) (W := 0) (by show 2 * 0 + _ ≤ _; exact Nat.le_of_eq rfl) (by decide) (by decide) (by decide) (by decide)
      have E8_0 := E7_0.keep Kc8
      have E8_1 := E7_1.keep Kc8
      have E8_2 := E7_2.keep Kc8
      have F8_3 := F7_3.keep Kc8 nin0
      have F8_4 := F7_4.keep Kc8 nin0
      have F8_5 := F7_5.keep Kc8 nin0
      have F8_6 := F7_6.keep Kc8 nin0
      have F8_7 := F7_7.keep Kc8 nin0
      have F8_8 := F7_8.keep Kc8 nin0
      have V8_10 := V7.keep Kc8 nin0
      have V8_11 := V7_10.keep Kc8 nin0
      have V8_12 := V7_11.keep Kc8 nin0
      have V8_13 := V7_12.keep Kc8 nin0
      have K8 := K7.trans Kc8 all0
      have N8 := Fr.app N6 Nc8
      have ne_s4_s8 : s4 ≠ s8 := Nat.ne_of_lt (Nat.lt_of_lt_of_le E7_0.lt lec8)
      have ne_s5_s8 : s5 ≠ s8 := Nat.ne_of_lt (Nat.lt_of_lt_of_le E7_1.lt lec8)
      have ne_s6_s8 : s6 ≠ s8 := Nat.ne_of_lt (Nat.lt_of_lt_of_le E7_2.lt lec8)
      have ne_tv4_s8 : tv4 ≠ s8 := Nat.ne_of_lt (Nat.lt_of_lt_of_le V7_10.lt lec8)
      have ne_tv5_s8 : tv5 ≠ s8 := Nat.ne_of_lt (Nat.lt_of_lt_of_le V7_11.lt lec8)
      have ne_tv6_s8 : tv6 ≠ s8 := Nat.ne_of_lt (Nat.lt_of_lt_of_le V7_12.lt lec8)
      have ne_o7_s8 : o7 ≠ s8 := Nat.ne_of_lt (Nat.lt_of_lt_of_le V7.lt lec8)
      refine Go.st st8 ?_
      show Go p e below _ T8 (mkF m 241 #[.val (.int p1), .val (.int p2), .val (.int p3), .val (.int p4), .val (.int p5), .val (.int (0 : Int32)), .val (.int (own_key p2)), .val (.int (own_key p3)), .val (.int (own_key p4)), .val (.ref s4), .val (.ref s5), .val (.ref s6), .val (.ref o7), .val (.int (p5 &&& (3 : Int32))), .val (.int z), .unset, .unset, .unset, .unset] [(.ref s8)])
      refine Go.st (fun _ h => XS.astore X8.here hx rfl (hb hby at_241) rfl rfl (l' := #[.val (.int p1), .val (.int p2), .val (.int p3), .val (.int p4), .val (.int p5), .val (.int (0 : Int32)), .val (.int (own_key p2)), .val (.int (own_key p3)), .val (.int (own_key p4)), .val (.ref s4), .val (.ref s5), .val (.ref s6), .val (.ref o7), .val (.int (p5 &&& (3 : Int32))), .val (.int z), .val (.ref s8), .unset, .unset, .unset]) rfl h) ?_
      show Go p e below _ T8 (mkF m 243 #[.val (.int p1), .val (.int p2), .val (.int p3), .val (.int p4), .val (.int p5), .val (.int (0 : Int32)), .val (.int (own_key p2)), .val (.int (own_key p3)), .val (.int (own_key p4)), .val (.ref s4), .val (.ref s5), .val (.ref s6), .val (.ref o7), .val (.int (p5 &&& (3 : Int32))), .val (.int z), .val (.ref s8), .unset, .unset, .unset] [])
      refine Go.st (fun _ h => XS.iload X8.here hx rfl (hb hby at_243) rfl h) ?_
      show Go p e below _ T8 (mkF m 245 #[.val (.int p1), .val (.int p2), .val (.int p3), .val (.int p4), .val (.int p5), .val (.int (0 : Int32)), .val (.int (own_key p2)), .val (.int (own_key p3)), .val (.int (own_key p4)), .val (.ref s4), .val (.ref s5), .val (.ref s6), .val (.ref o7), .val (.int (p5 &&& (3 : Int32))), .val (.int z), .val (.ref s8), .unset, .unset, .unset] [(.int z)])
      obtain ⟨T9, X9, e9, st9⟩ := own_still rfl rfl (Does.static (y := (⟨"com/example/tenon/tenon/core/XmlElementDeclaredPinLaw", "key", "(I)I"⟩ : MethodName)) (g := (mkF m 245 #[.val (.int p1), .val (.int p2), .val (.int p3), .val (.int p4), .val (.int p5), .val (.int (0 : Int32)), .val (.int (own_key p2)), .val (.int (own_key p3)), .val (.int (own_key p4)), .val (.ref s4), .val (.ref s5), .val (.ref s6), .val (.ref o7), .val (.int (p5 &&& (3 : Int32))), .val (.int z), .val (.ref s8), .unset, .unset, .unset] [(.int z)])) (rmKey l Z a0 hw z T8.heap) X8 hx hZ hown rfl (hw _ (List.mem_of_getElem? (i := 0) rfl)) (hw _ (List.mem_of_getElem? (i := 1) rfl)) (hw _ (List.mem_of_getElem? (i := 2) rfl)) (hw _ (List.mem_of_getElem? (i := 3) rfl)) (by decide) rfl (by rw [hml]; rfl) (argsL := [(.int z)]) (rest := []) (lenOf pd_28I29I rfl) rfl (hb hby at_245) (W := 0) (by show 2 * 0 + _ ≤ _; exact Nat.le_of_eq rfl) (by decide) (by decide) (by decide) (by decide))
      refine Go.st st9 ?_
      show Go p e below _ T9 (mkF m 248 #[.val (.int p1), .val (.int p2), .val (.int p3), .val (.int p4), .val (.int p5), .val (.int (0 : Int32)), .val (.int (own_key p2)), .val (.int (own_key p3)), .val (.int (own_key p4)), .val (.ref s4), .val (.ref s5), .val (.ref s6), .val (.ref o7), .val (.int (p5 &&& (3 : Int32))), .val (.int z), .val (.ref s8), .unset, .unset, .unset] [(.int (own_key z))])
      refine Go.st (fun _ h => XS.istore X9.here hx rfl (hb hby at_248) rfl (l' := #[.val (.int p1), .val (.int p2), .val (.int p3), .val (.int p4), .val (.int p5), .val (.int (0 : Int32)), .val (.int (own_key p2)), .val (.int (own_key p3)), .val (.int (own_key p4)), .val (.ref s4), .val (.ref s5), .val (.ref s6), .val (.ref o7), .val (.int (p5 &&& (3 : Int32))), .val (.int z), .val (.ref s8), .val (.int (own_key z)), .unset, .unset]) rfl h) ?_
      show Go p e below _ T9 (mkF m 250 #[.val (.int p1), .val (.int p2), .val (.int p3), .val (.int p4), .val (.int p5), .val (.int (0 : Int32)), .val (.int (own_key p2)), .val (.int (own_key p3)), .val (.int (own_key p4)), .val (.ref s4), .val (.ref s5), .val (.ref s6), .val (.ref o7), .val (.int (p5 &&& (3 : Int32))), .val (.int z), .val (.ref s8), .val (.int (own_key z)), .unset, .unset] [])
      refine Go.st (fun _ h => XS.aconstNull X9.here hx rfl (hb hby at_250) h) ?_
      show Go p e below _ T9 (mkF m 251 #[.val (.int p1), .val (.int p2), .val (.int p3), .val (.int p4), .val (.int p5), .val (.int (0 : Int32)), .val (.int (own_key p2)), .val (.int (own_key p3)), .val (.int (own_key p4)), .val (.ref s4), .val (.ref s5), .val (.ref s6), .val (.ref o7), .val (.int (p5 &&& (3 : Int32))), .val (.int z), .val (.ref s8), .val (.int (own_key z)), .unset, .unset] [.null])
      refine Go.st (fun _ h => XS.astore X9.here hx rfl (hb hby at_251) rfl rfl (l' := #[.val (.int p1), .val (.int p2), .val (.int p3), .val (.int p4), .val (.int p5), .val (.int (0 : Int32)), .val (.int (own_key p2)), .val (.int (own_key p3)), .val (.int (own_key p4)), .val (.ref s4), .val (.ref s5), .val (.ref s6), .val (.ref o7), .val (.int (p5 &&& (3 : Int32))), .val (.int z), .val (.ref s8), .val (.int (own_key z)), .val .null, .unset]) rfl h) ?_
      show Go p e below _ T9 (mkF m 253 #[.val (.int p1), .val (.int p2), .val (.int p3), .val (.int p4), .val (.int p5), .val (.int (0 : Int32)), .val (.int (own_key p2)), .val (.int (own_key p3)), .val (.int (own_key p4)), .val (.ref s4), .val (.ref s5), .val (.ref s6), .val (.ref o7), .val (.int (p5 &&& (3 : Int32))), .val (.int z), .val (.ref s8), .val (.int (own_key z)), .val .null, .unset] [])
      refine Go.st (fun _ h => XS.iload X9.here hx rfl (hb hby at_253) rfl h) ?_
      show Go p e below _ T9 (mkF m 255 #[.val (.int p1), .val (.int p2), .val (.int p3), .val (.int p4), .val (.int p5), .val (.int (0 : Int32)), .val (.int (own_key p2)), .val (.int (own_key p3)), .val (.int (own_key p4)), .val (.ref s4), .val (.ref s5), .val (.ref s6), .val (.ref o7), .val (.int (p5 &&& (3 : Int32))), .val (.int z), .val (.ref s8), .val (.int (own_key z)), .val .null, .unset] [(.int (0 : Int32))])
      refine Go.st (fun _ h => XT.iconstV X9.here hx rfl (1 : Int32) (hb hby at_255) (by decide) h) ?_
      show Go p e below _ T9 (mkF m 256 #[.val (.int p1), .val (.int p2), .val (.int p3), .val (.int p4), .val (.int p5), .val (.int (0 : Int32)), .val (.int (own_key p2)), .val (.int (own_key p3)), .val (.int (own_key p4)), .val (.ref s4), .val (.ref s5), .val (.ref s6), .val (.ref o7), .val (.int (p5 &&& (3 : Int32))), .val (.int z), .val (.ref s8), .val (.int (own_key z)), .val .null, .unset] [(.int (1 : Int32)), (.int (0 : Int32))])
      refine Go.st (fun _ h => XS.icmpYes X9.here hx rfl (pc0 := 256) (pc' := 273) rfl (hb hby at_256) rfl (by decide) (by decide) (by decide) h) ?_
      show Go p e below _ T9 (mkF m 273 #[.val (.int p1), .val (.int p2), .val (.int p3), .val (.int p4), .val (.int p5), .val (.int (0 : Int32)), .val (.int (own_key p2)), .val (.int (own_key p3)), .val (.int (own_key p4)), .val (.ref s4), .val (.ref s5), .val (.ref s6), .val (.ref o7), .val (.int (p5 &&& (3 : Int32))), .val (.int z), .val (.ref s8), .val (.int (own_key z)), .val .null, .unset] [])
      refine Go.st (fun _ h => XS.iload X9.here hx rfl (hb hby at_273) rfl h) ?_
      show Go p e below _ T9 (mkF m 275 #[.val (.int p1), .val (.int p2), .val (.int p3), .val (.int p4), .val (.int p5), .val (.int (0 : Int32)), .val (.int (own_key p2)), .val (.int (own_key p3)), .val (.int (own_key p4)), .val (.ref s4), .val (.ref s5), .val (.ref s6), .val (.ref o7), .val (.int (p5 &&& (3 : Int32))), .val (.int z), .val (.ref s8), .val (.int (own_key z)), .val .null, .unset] [(.int (0 : Int32))])
      refine Go.st (fun _ h => XT.iconstV X9.here hx rfl (2 : Int32) (hb hby at_275) (by decide) h) ?_
      show Go p e below _ T9 (mkF m 276 #[.val (.int p1), .val (.int p2), .val (.int p3), .val (.int p4), .val (.int p5), .val (.int (0 : Int32)), .val (.int (own_key p2)), .val (.int (own_key p3)), .val (.int (own_key p4)), .val (.ref s4), .val (.ref s5), .val (.ref s6), .val (.ref o7), .val (.int (p5 &&& (3 : Int32))), .val (.int z), .val (.ref s8), .val (.int (own_key z)), .val .null, .unset] [(.int (2 : Int32)), (.int (0 : Int32))])
      refine Go.st (fun _ h => XS.icmpYes X9.here hx rfl (pc0 := 276) (pc' := 293) rfl (hb hby at_276) rfl (by decide) (by decide) (by decide) h) ?_
      show Go p e below _ T9 (mkF m 293 #[.val (.int p1), .val (.int p2), .val (.int p3), .val (.int p4), .val (.int p5), .val (.int (0 : Int32)), .val (.int (own_key p2)), .val (.int (own_key p3)), .val (.int (own_key p4)), .val (.ref s4), .val (.ref s5), .val (.ref s6), .val (.ref o7), .val (.int (p5 &&& (3 : Int32))), .val (.int z), .val (.ref s8), .val (.int (own_key z)), .val .null, .unset] [])
      refine Go.st (fun _ h => XS.iload X9.here hx rfl (hb hby at_293) rfl h) ?_
      show Go p e below _ T9 (mkF m 295 #[.val (.int p1), .val (.int p2), .val (.int p3), .val (.int p4), .val (.int p5), .val (.int (0 : Int32)), .val (.int (own_key p2)), .val (.int (own_key p3)), .val (.int (own_key p4)), .val (.ref s4), .val (.ref s5), .val (.ref s6), .val (.ref o7), .val (.int (p5 &&& (3 : Int32))), .val (.int z), .val (.ref s8), .val (.int (own_key z)), .val .null, .unset] [(.int (0 : Int32))])
      refine Go.st (fun _ h => XT.iconstV X9.here hx rfl (3 : Int32) (hb hby at_295) (by decide) h) ?_
      show Go p e below _ T9 (mkF m 296 #[.val (.int p1), .val (.int p2), .val (.int p3), .val (.int p4), .val (.int p5), .val (.int (0 : Int32)), .val (.int (own_key p2)), .val (.int (own_key p3)), .val (.int (own_key p4)), .val (.ref s4), .val (.ref s5), .val (.ref s6), .val (.ref o7), .val (.int (p5 &&& (3 : Int32))), .val (.int z), .val (.ref s8), .val (.int (own_key z)), .val .null, .unset] [(.int (3 : Int32)), (.int (0 : Int32))])
      refine Go.st (fun _ h => XS.icmpYes X9.here hx rfl (pc0 := 296) (pc' := 310) rfl (hb hby at_296) rfl (by decide) (by decide) (by decide) h) ?_
      show Go p e below _ T9 (mkF m 310 #[.val (.int p1), .val (.int p2), .val (.int p3), .val (.int p4), .val (.int p5), .val (.int (0 : Int32)), .val (.int (own_key p2)), .val (.int (own_key p3)), .val (.int (own_key p4)), .val (.ref s4), .val (.ref s5), .val (.ref s6), .val (.ref o7), .val (.int (p5 &&& (3 : Int32))), .val (.int z), .val (.ref s8), .val (.int (own_key z)), .val .null, .unset] [])
      refine Go.st (fun _ h => XS.aload X9.here hx rfl (hb hby at_310) rfl rfl h) ?_
      show Go p e below _ T9 (mkF m 312 #[.val (.int p1), .val (.int p2), .val (.int p3), .val (.int p4), .val (.int p5), .val (.int (0 : Int32)), .val (.int (own_key p2)), .val (.int (own_key p3)), .val (.int (own_key p4)), .val (.ref s4), .val (.ref s5), .val (.ref s6), .val (.ref o7), .val (.int (p5 &&& (3 : Int32))), .val (.int z), .val (.ref s8), .val (.int (own_key z)), .val .null, .unset] [(.ref o7)])
      refine Go.st (fun _ h => XS.aload X9.here hx rfl (hb hby at_312) rfl rfl h) ?_
      show Go p e below _ T9 (mkF m 314 #[.val (.int p1), .val (.int p2), .val (.int p3), .val (.int p4), .val (.int p5), .val (.int (0 : Int32)), .val (.int (own_key p2)), .val (.int (own_key p3)), .val (.int (own_key p4)), .val (.ref s4), .val (.ref s5), .val (.ref s6), .val (.ref o7), .val (.int (p5 &&& (3 : Int32))), .val (.int z), .val (.ref s8), .val (.int (own_key z)), .val .null, .unset] [(.ref s8), (.ref o7)])
      obtain ⟨T10, X10, e10, st10⟩ := own_still rfl rfl (Does.static (y := (⟨"com/example/tenon/tenon/core/XmlElement", "declared", "([Ljava/lang/String;Ljava/lang/String;)Ljava/lang/String;"⟩ : MethodName)) (g := (mkF m 314 #[.val (.int p1), .val (.int p2), .val (.int p3), .val (.int p4), .val (.int p5), .val (.int (0 : Int32)), .val (.int (own_key p2)), .val (.int (own_key p3)), .val (.int (own_key p4)), .val (.ref s4), .val (.ref s5), .val (.ref s6), .val (.ref o7), .val (.int (p5 &&& (3 : Int32))), .val (.int z), .val (.ref s8), .val (.int (own_key z)), .val .null, .unset] [(.ref s8), (.ref o7)])) (rmDecl0_n l Z a0 hw o7 s8 tv8 k7 kv8 (own_str z) (own_str2 _)  T8.heap Ec8 Cc8 Vc8 Bc8  V8_10 zc (S_CS.ext (own_ext K8)) hzc ) X9 hx hZ hown e9 (hw _ (List.mem_of_getElem? (i := 41) rfl)) (hw _ (List.mem_of_getElem? (i := 42) rfl)) (hw _ (List.mem_of_getElem? (i := 43) rfl)) (hw _ (List.mem_of_getElem? (i := 44) rfl)) (by decide) rfl (by rw [hml]; rfl) (argsL := [(.ref o7), (.ref s8)]) (rest := []) (lenOf pd_285bLjava2flang2fString3bLjava2flang2fString3b29Ljava2flang2fString3b rfl) rfl (hb hby at_314) (W := 0) (by show 2 * 0 + _ ≤ _; exact Nat.le_of_eq rfl) (by decide) (by decide) (by decide) (by decide))
      refine Go.st st10 ?_
      show Go p e below _ T10 (mkF m 317 #[.val (.int p1), .val (.int p2), .val (.int p3), .val (.int p4), .val (.int p5), .val (.int (0 : Int32)), .val (.int (own_key p2)), .val (.int (own_key p3)), .val (.int (own_key p4)), .val (.ref s4), .val (.ref s5), .val (.ref s6), .val (.ref o7), .val (.int (p5 &&& (3 : Int32))), .val (.int z), .val (.ref s8), .val (.int (own_key z)), .val .null, .unset] [.null])
      refine Go.st (fun _ h => XS.astore X10.here hx rfl (hb hby at_317) rfl rfl (l' := #[.val (.int p1), .val (.int p2), .val (.int p3), .val (.int p4), .val (.int p5), .val (.int (0 : Int32)), .val (.int (own_key p2)), .val (.int (own_key p3)), .val (.int (own_key p4)), .val (.ref s4), .val (.ref s5), .val (.ref s6), .val (.ref o7), .val (.int (p5 &&& (3 : Int32))), .val (.int z), .val (.ref s8), .val (.int (own_key z)), .val .null, .val .null]) rfl h) ?_
      show Go p e below _ T10 (mkF m 319 #[.val (.int p1), .val (.int p2), .val (.int p3), .val (.int p4), .val (.int p5), .val (.int (0 : Int32)), .val (.int (own_key p2)), .val (.int (own_key p3)), .val (.int (own_key p4)), .val (.ref s4), .val (.ref s5), .val (.ref s6), .val (.ref o7), .val (.int (p5 &&& (3 : Int32))), .val (.int z), .val (.ref s8), .val (.int (own_key z)), .val .null, .val .null] [])
      refine Go.st (fun _ h => XS.aload X10.here hx rfl (hb hby at_319) rfl rfl h) ?_
      show Go p e below _ T10 (mkF m 321 #[.val (.int p1), .val (.int p2), .val (.int p3), .val (.int p4), .val (.int p5), .val (.int (0 : Int32)), .val (.int (own_key p2)), .val (.int (own_key p3)), .val (.int (own_key p4)), .val (.ref s4), .val (.ref s5), .val (.ref s6), .val (.ref o7), .val (.int (p5 &&& (3 : Int32))), .val (.int z), .val (.ref s8), .val (.int (own_key z)), .val .null, .val .null] [.null])
      refine Go.st (fun _ h => XT.ifnonnullNo X10.here hx rfl (hb hby at_321) rfl h) ?_
      show Go p e below _ T10 (mkF m 324 #[.val (.int p1), .val (.int p2), .val (.int p3), .val (.int p4), .val (.int p5), .val (.int (0 : Int32)), .val (.int (own_key p2)), .val (.int (own_key p3)), .val (.int (own_key p4)), .val (.ref s4), .val (.ref s5), .val (.ref s6), .val (.ref o7), .val (.int (p5 &&& (3 : Int32))), .val (.int z), .val (.ref s8), .val (.int (own_key z)), .val .null, .val .null] [])
      refine Go.st (fun _ h => XS.aload X10.here hx rfl (hb hby at_324) rfl rfl h) ?_
      show Go p e below _ T10 (mkF m 326 #[.val (.int p1), .val (.int p2), .val (.int p3), .val (.int p4), .val (.int p5), .val (.int (0 : Int32)), .val (.int (own_key p2)), .val (.int (own_key p3)), .val (.int (own_key p4)), .val (.ref s4), .val (.ref s5), .val (.ref s6), .val (.ref o7), .val (.int (p5 &&& (3 : Int32))), .val (.int z), .val (.ref s8), .val (.int (own_key z)), .val .null, .val .null] [.null])
      refine Go.st (fun _ h => XT.ifnonnullNo X10.here hx rfl (hb hby at_326) rfl h) ?_
      show Go p e below _ T10 (mkF m 329 #[.val (.int p1), .val (.int p2), .val (.int p3), .val (.int p4), .val (.int p5), .val (.int (0 : Int32)), .val (.int (own_key p2)), .val (.int (own_key p3)), .val (.int (own_key p4)), .val (.ref s4), .val (.ref s5), .val (.ref s6), .val (.ref o7), .val (.int (p5 &&& (3 : Int32))), .val (.int z), .val (.ref s8), .val (.int (own_key z)), .val .null, .val .null] [])
      refine Go.st (fun _ h => XT.iconstV X10.here hx rfl (1 : Int32) (hb hby at_329) (by decide) h) ?_
      show Go p e below _ T10 (mkF m 330 #[.val (.int p1), .val (.int p2), .val (.int p3), .val (.int p4), .val (.int p5), .val (.int (0 : Int32)), .val (.int (own_key p2)), .val (.int (own_key p3)), .val (.int (own_key p4)), .val (.ref s4), .val (.ref s5), .val (.ref s6), .val (.ref o7), .val (.int (p5 &&& (3 : Int32))), .val (.int z), .val (.ref s8), .val (.int (own_key z)), .val .null, .val .null] [(.int (1 : Int32))])
      refine Go.st (fun _ h => XS.goto X10.here hx rfl (pc0 := 330) (pc' := 334) rfl (hb hby at_330) (by decide) (by decide) h) ?_
      show Go p e below _ T10 (mkF m 334 #[.val (.int p1), .val (.int p2), .val (.int p3), .val (.int p4), .val (.int p5), .val (.int (0 : Int32)), .val (.int (own_key p2)), .val (.int (own_key p3)), .val (.int (own_key p4)), .val (.ref s4), .val (.ref s5), .val (.ref s6), .val (.ref o7), .val (.int (p5 &&& (3 : Int32))), .val (.int z), .val (.ref s8), .val (.int (own_key z)), .val .null, .val .null] [(.int (1 : Int32))])
      refine Go.retH X10 hx hlk hZ hEL RR8 e10 hS (Nat.le_refl _) hret rfl (Or.inl ⟨rfl, Or.inr (Or.inl rfl), _, rfl⟩) (hb hby at_334) (by decide) (by decide) ?_
      exact ⟨rfl, N8⟩
    refine Go.st (fun _ h => XS.iload X7.here hx rfl (hb hby at_195) rfl h) ?_
    show Go p e below _ T7 (mkF m 197 #[.val (.int p1), .val (.int p2), .val (.int p3), .val (.int p4), .val (.int p5), .val (.int (0 : Int32)), .val (.int (own_key p2)), .val (.int (own_key p3)), .val (.int (own_key p4)), .val (.ref s4), .val (.ref s5), .val (.ref s6), .val (.ref o7), .val (.int (p5 &&& (3 : Int32))), .unset, .unset, .unset, .unset, .unset] [(.int (p5 &&& (3 : Int32)))])
    by_cases hc11 : (p5 &&& (3 : Int32)) = (0 : Int32)
    · refine Go.st (fun _ h => XS.ifNo X7.here hx rfl (hb hby at_197) rfl ((if0 _ _).trans (teq hc11).2) h) ?_
      show Go p e below _ T7 (mkF m 200 #[.val (.int p1), .val (.int p2), .val (.int p3), .val (.int p4), .val (.int p5), .val (.int (0 : Int32)), .val (.int (own_key p2)), .val (.int (own_key p3)), .val (.int (own_key p4)), .val (.ref s4), .val (.ref s5), .val (.ref s6), .val (.ref o7), .val (.int (p5 &&& (3 : Int32))), .unset, .unset, .unset, .unset, .unset] [])
      refine Go.st (fun _ h => XS.iloadN X7.here hx rfl (hb hby at_200) rfl h) ?_
      show Go p e below _ T7 (mkF m 201 #[.val (.int p1), .val (.int p2), .val (.int p3), .val (.int p4), .val (.int p5), .val (.int (0 : Int32)), .val (.int (own_key p2)), .val (.int (own_key p3)), .val (.int (own_key p4)), .val (.ref s4), .val (.ref s5), .val (.ref s6), .val (.ref o7), .val (.int (p5 &&& (3 : Int32))), .unset, .unset, .unset, .unset, .unset] [(.int p2)])
      refine Go.st (fun _ h => XS.istore X7.here hx rfl (hb hby at_201) rfl (l' := #[.val (.int p1), .val (.int p2), .val (.int p3), .val (.int p4), .val (.int p5), .val (.int (0 : Int32)), .val (.int (own_key p2)), .val (.int (own_key p3)), .val (.int (own_key p4)), .val (.ref s4), .val (.ref s5), .val (.ref s6), .val (.ref o7), .val (.int (p5 &&& (3 : Int32))), .val (.int p2), .unset, .unset, .unset, .unset]) rfl h) ?_
      show Go p e below _ T7 (mkF m 203 #[.val (.int p1), .val (.int p2), .val (.int p3), .val (.int p4), .val (.int p5), .val (.int (0 : Int32)), .val (.int (own_key p2)), .val (.int (own_key p3)), .val (.int (own_key p4)), .val (.ref s4), .val (.ref s5), .val (.ref s6), .val (.ref o7), .val (.int (p5 &&& (3 : Int32))), .val (.int p2), .unset, .unset, .unset, .unset] [])
      refine Go.st (fun _ h => XS.goto X7.here hx rfl (pc0 := 203) (pc' := 236) rfl (hb hby at_203) (by decide) (by decide) h) ?_
      show Go p e below _ T7 (mkF m 236 #[.val (.int p1), .val (.int p2), .val (.int p3), .val (.int p4), .val (.int p5), .val (.int (0 : Int32)), .val (.int (own_key p2)), .val (.int (own_key p3)), .val (.int (own_key p4)), .val (.ref s4), .val (.ref s5), .val (.ref s6), .val (.ref o7), .val (.int (p5 &&& (3 : Int32))), .val (.int p2), .unset, .unset, .unset, .unset] [])
      exact KK _
    · refine Go.st (fun _ h => XS.ifYes X7.here hx rfl (pc0 := 197) (pc' := 206) rfl (hb hby at_197) rfl ((if0 _ _).trans (feq hc11).2) (by decide) (by decide) h) ?_
      show Go p e below _ T7 (mkF m 206 #[.val (.int p1), .val (.int p2), .val (.int p3), .val (.int p4), .val (.int p5), .val (.int (0 : Int32)), .val (.int (own_key p2)), .val (.int (own_key p3)), .val (.int (own_key p4)), .val (.ref s4), .val (.ref s5), .val (.ref s6), .val (.ref o7), .val (.int (p5 &&& (3 : Int32))), .unset, .unset, .unset, .unset, .unset] [])
      refine Go.st (fun _ h => XS.iload X7.here hx rfl (hb hby at_206) rfl h) ?_
      show Go p e below _ T7 (mkF m 208 #[.val (.int p1), .val (.int p2), .val (.int p3), .val (.int p4), .val (.int p5), .val (.int (0 : Int32)), .val (.int (own_key p2)), .val (.int (own_key p3)), .val (.int (own_key p4)), .val (.ref s4), .val (.ref s5), .val (.ref s6), .val (.ref o7), .val (.int (p5 &&& (3 : Int32))), .unset, .unset, .unset, .unset, .unset] [(.int (p5 &&& (3 : Int32)))])
      refine Go.st (fun _ h => XT.iconstV X7.here hx rfl (1 : Int32) (hb hby at_208) (by decide) h) ?_
      show Go p e below _ T7 (mkF m 209 #[.val (.int p1), .val (.int p2), .val (.int p3), .val (.int p4), .val (.int p5), .val (.int (0 : Int32)), .val (.int (own_key p2)), .val (.int (own_key p3)), .val (.int (own_key p4)), .val (.ref s4), .val (.ref s5), .val (.ref s6), .val (.ref o7), .val (.int (p5 &&& (3 : Int32))), .unset, .unset, .unset, .unset, .unset] [(.int (1 : Int32)), (.int (p5 &&& (3 : Int32)))])
      by_cases hc12 : (p5 &&& (3 : Int32)) = (1 : Int32)
      · refine Go.st (fun _ h => XS.icmpNo X7.here hx rfl (hb hby at_209) rfl ((teq hc12).2) h) ?_
        show Go p e below _ T7 (mkF m 212 #[.val (.int p1), .val (.int p2), .val (.int p3), .val (.int p4), .val (.int p5), .val (.int (0 : Int32)), .val (.int (own_key p2)), .val (.int (own_key p3)), .val (.int (own_key p4)), .val (.ref s4), .val (.ref s5), .val (.ref s6), .val (.ref o7), .val (.int (p5 &&& (3 : Int32))), .unset, .unset, .unset, .unset, .unset] [])
        refine Go.st (fun _ h => XS.iloadN X7.here hx rfl (hb hby at_212) rfl h) ?_
        show Go p e below _ T7 (mkF m 213 #[.val (.int p1), .val (.int p2), .val (.int p3), .val (.int p4), .val (.int p5), .val (.int (0 : Int32)), .val (.int (own_key p2)), .val (.int (own_key p3)), .val (.int (own_key p4)), .val (.ref s4), .val (.ref s5), .val (.ref s6), .val (.ref o7), .val (.int (p5 &&& (3 : Int32))), .unset, .unset, .unset, .unset, .unset] [(.int p3)])
        refine Go.st (fun _ h => XS.istore X7.here hx rfl (hb hby at_213) rfl (l' := #[.val (.int p1), .val (.int p2), .val (.int p3), .val (.int p4), .val (.int p5), .val (.int (0 : Int32)), .val (.int (own_key p2)), .val (.int (own_key p3)), .val (.int (own_key p4)), .val (.ref s4), .val (.ref s5), .val (.ref s6), .val (.ref o7), .val (.int (p5 &&& (3 : Int32))), .val (.int p3), .unset, .unset, .unset, .unset]) rfl h) ?_
        show Go p e below _ T7 (mkF m 215 #[.val (.int p1), .val (.int p2), .val (.int p3), .val (.int p4), .val (.int p5), .val (.int (0 : Int32)), .val (.int (own_key p2)), .val (.int (own_key p3)), .val (.int (own_key p4)), .val (.ref s4), .val (.ref s5), .val (.ref s6), .val (.ref o7), .val (.int (p5 &&& (3 : Int32))), .val (.int p3), .unset, .unset, .unset, .unset] [])
        refine Go.st (fun _ h => XS.goto X7.here hx rfl (pc0 := 215) (pc' := 236) rfl (hb hby at_215) (by decide) (by decide) h) ?_
        show Go p e below _ T7 (mkF m 236 #[.val (.int p1), .val (.int p2), .val (.int p3), .val (.int p4), .val (.int p5), .val (.int (0 : Int32)), .val (.int (own_key p2)), .val (.int (own_key p3)), .val (.int (own_key p4)), .val (.ref s4), .val (.ref s5), .val (.ref s6), .val (.ref o7), .val (.int (p5 &&& (3 : Int32))), .val (.int p3), .unset, .unset, .unset, .unset] [])
        exact KK _
      · refine Go.st (fun _ h => XS.icmpYes X7.here hx rfl (pc0 := 209) (pc' := 218) rfl (hb hby at_209) rfl ((feq hc12).2) (by decide) (by decide) h) ?_
        show Go p e below _ T7 (mkF m 218 #[.val (.int p1), .val (.int p2), .val (.int p3), .val (.int p4), .val (.int p5), .val (.int (0 : Int32)), .val (.int (own_key p2)), .val (.int (own_key p3)), .val (.int (own_key p4)), .val (.ref s4), .val (.ref s5), .val (.ref s6), .val (.ref o7), .val (.int (p5 &&& (3 : Int32))), .unset, .unset, .unset, .unset, .unset] [])
        refine Go.st (fun _ h => XS.iload X7.here hx rfl (hb hby at_218) rfl h) ?_
        show Go p e below _ T7 (mkF m 220 #[.val (.int p1), .val (.int p2), .val (.int p3), .val (.int p4), .val (.int p5), .val (.int (0 : Int32)), .val (.int (own_key p2)), .val (.int (own_key p3)), .val (.int (own_key p4)), .val (.ref s4), .val (.ref s5), .val (.ref s6), .val (.ref o7), .val (.int (p5 &&& (3 : Int32))), .unset, .unset, .unset, .unset, .unset] [(.int (p5 &&& (3 : Int32)))])
        refine Go.st (fun _ h => XT.iconstV X7.here hx rfl (2 : Int32) (hb hby at_220) (by decide) h) ?_
        show Go p e below _ T7 (mkF m 221 #[.val (.int p1), .val (.int p2), .val (.int p3), .val (.int p4), .val (.int p5), .val (.int (0 : Int32)), .val (.int (own_key p2)), .val (.int (own_key p3)), .val (.int (own_key p4)), .val (.ref s4), .val (.ref s5), .val (.ref s6), .val (.ref o7), .val (.int (p5 &&& (3 : Int32))), .unset, .unset, .unset, .unset, .unset] [(.int (2 : Int32)), (.int (p5 &&& (3 : Int32)))])
        by_cases hc13 : (p5 &&& (3 : Int32)) = (2 : Int32)
        · refine Go.st (fun _ h => XS.icmpNo X7.here hx rfl (hb hby at_221) rfl ((teq hc13).2) h) ?_
          show Go p e below _ T7 (mkF m 224 #[.val (.int p1), .val (.int p2), .val (.int p3), .val (.int p4), .val (.int p5), .val (.int (0 : Int32)), .val (.int (own_key p2)), .val (.int (own_key p3)), .val (.int (own_key p4)), .val (.ref s4), .val (.ref s5), .val (.ref s6), .val (.ref o7), .val (.int (p5 &&& (3 : Int32))), .unset, .unset, .unset, .unset, .unset] [])
          refine Go.st (fun _ h => XS.iloadN X7.here hx rfl (hb hby at_224) rfl h) ?_
          show Go p e below _ T7 (mkF m 225 #[.val (.int p1), .val (.int p2), .val (.int p3), .val (.int p4), .val (.int p5), .val (.int (0 : Int32)), .val (.int (own_key p2)), .val (.int (own_key p3)), .val (.int (own_key p4)), .val (.ref s4), .val (.ref s5), .val (.ref s6), .val (.ref o7), .val (.int (p5 &&& (3 : Int32))), .unset, .unset, .unset, .unset, .unset] [(.int p4)])
          refine Go.st (fun _ h => XS.istore X7.here hx rfl (hb hby at_225) rfl (l' := #[.val (.int p1), .val (.int p2), .val (.int p3), .val (.int p4), .val (.int p5), .val (.int (0 : Int32)), .val (.int (own_key p2)), .val (.int (own_key p3)), .val (.int (own_key p4)), .val (.ref s4), .val (.ref s5), .val (.ref s6), .val (.ref o7), .val (.int (p5 &&& (3 : Int32))), .val (.int p4), .unset, .unset, .unset, .unset]) rfl h) ?_
          show Go p e below _ T7 (mkF m 227 #[.val (.int p1), .val (.int p2), .val (.int p3), .val (.int p4), .val (.int p5), .val (.int (0 : Int32)), .val (.int (own_key p2)), .val (.int (own_key p3)), .val (.int (own_key p4)), .val (.ref s4), .val (.ref s5), .val (.ref s6), .val (.ref o7), .val (.int (p5 &&& (3 : Int32))), .val (.int p4), .unset, .unset, .unset, .unset] [])
          refine Go.st (fun _ h => XS.goto X7.here hx rfl (pc0 := 227) (pc' := 236) rfl (hb hby at_227) (by decide) (by decide) h) ?_
          show Go p e below _ T7 (mkF m 236 #[.val (.int p1), .val (.int p2), .val (.int p3), .val (.int p4), .val (.int p5), .val (.int (0 : Int32)), .val (.int (own_key p2)), .val (.int (own_key p3)), .val (.int (own_key p4)), .val (.ref s4), .val (.ref s5), .val (.ref s6), .val (.ref o7), .val (.int (p5 &&& (3 : Int32))), .val (.int p4), .unset, .unset, .unset, .unset] [])
          exact KK _
        · refine Go.st (fun _ h => XS.icmpYes X7.here hx rfl (pc0 := 221) (pc' := 230) rfl (hb hby at_221) rfl ((feq hc13).2) (by decide) (by decide) h) ?_
          show Go p e below _ T7 (mkF m 230 #[.val (.int p1), .val (.int p2), .val (.int p3), .val (.int p4), .val (.int p5), .val (.int (0 : Int32)), .val (.int (own_key p2)), .val (.int (own_key p3)), .val (.int (own_key p4)), .val (.ref s4), .val (.ref s5), .val (.ref s6), .val (.ref o7), .val (.int (p5 &&& (3 : Int32))), .unset, .unset, .unset, .unset, .unset] [])
          refine Go.st (fun _ h => XS.iload X7.here hx rfl (hb hby at_230) rfl h) ?_
          show Go p e below _ T7 (mkF m 232 #[.val (.int p1), .val (.int p2), .val (.int p3), .val (.int p4), .val (.int p5), .val (.int (0 : Int32)), .val (.int (own_key p2)), .val (.int (own_key p3)), .val (.int (own_key p4)), .val (.ref s4), .val (.ref s5), .val (.ref s6), .val (.ref o7), .val (.int (p5 &&& (3 : Int32))), .unset, .unset, .unset, .unset, .unset] [(.int p5)])
          refine Go.st (fun _ h => XT.iconstV X7.here hx rfl (2 : Int32) (hb hby at_232) (by decide) h) ?_
          show Go p e below _ T7 (mkF m 233 #[.val (.int p1), .val (.int p2), .val (.int p3), .val (.int p4), .val (.int p5), .val (.int (0 : Int32)), .val (.int (own_key p2)), .val (.int (own_key p3)), .val (.int (own_key p4)), .val (.ref s4), .val (.ref s5), .val (.ref s6), .val (.ref o7), .val (.int (p5 &&& (3 : Int32))), .unset, .unset, .unset, .unset, .unset] [(.int (2 : Int32)), (.int p5)])
          refine Go.st (fun _ h => XT.iushr X7.here hx rfl (hb hby at_233) rfl h) ?_
          show Go p e below _ T7 (mkF m 234 #[.val (.int p1), .val (.int p2), .val (.int p3), .val (.int p4), .val (.int p5), .val (.int (0 : Int32)), .val (.int (own_key p2)), .val (.int (own_key p3)), .val (.int (own_key p4)), .val (.ref s4), .val (.ref s5), .val (.ref s6), .val (.ref o7), .val (.int (p5 &&& (3 : Int32))), .unset, .unset, .unset, .unset, .unset] [(.int (XT.ushr p5 (2 : Int32)))])
          refine Go.st (fun _ h => XS.istore X7.here hx rfl (hb hby at_234) rfl (l' := #[.val (.int p1), .val (.int p2), .val (.int p3), .val (.int p4), .val (.int p5), .val (.int (0 : Int32)), .val (.int (own_key p2)), .val (.int (own_key p3)), .val (.int (own_key p4)), .val (.ref s4), .val (.ref s5), .val (.ref s6), .val (.ref o7), .val (.int (p5 &&& (3 : Int32))), .val (.int (XT.ushr p5 (2 : Int32))), .unset, .unset, .unset, .unset]) rfl h) ?_
          show Go p e below _ T7 (mkF m 236 #[.val (.int p1), .val (.int p2), .val (.int p3), .val (.int p4), .val (.int p5), .val (.int (0 : Int32)), .val (.int (own_key p2)), .val (.int (own_key p3)), .val (.int (own_key p4)), .val (.ref s4), .val (.ref s5), .val (.ref s6), .val (.ref o7), .val (.int (p5 &&& (3 : Int32))), .val (.int (XT.ushr p5 (2 : Int32))), .unset, .unset, .unset, .unset] [])
          exact KK _
  ·
    show Go p e below _ s₁ (mkF m 5 #[.val (.int p1), .val (.int p2), .val (.int p3), .val (.int p4), .val (.int p5), .val (.int (1 : Int32)), .unset, .unset, .unset, .unset, .unset, .unset, .unset, .unset, .unset, .unset, .unset, .unset, .unset] [])
    refine Go.st (fun _ h => XS.iloadN X0.here hx rfl (hb hby at_5) rfl h) ?_
    show Go p e below _ s₁ (mkF m 6 #[.val (.int p1), .val (.int p2), .val (.int p3), .val (.int p4), .val (.int p5), .val (.int (1 : Int32)), .unset, .unset, .unset, .unset, .unset, .unset, .unset, .unset, .unset, .unset, .unset, .unset, .unset] [(.int p2)])
    obtain ⟨T14, X14, e14, st14⟩ := own_still rfl rfl (Does.static (y := (⟨"com/example/tenon/tenon/core/XmlElementDeclaredPinLaw", "key", "(I)I"⟩ : MethodName)) (g := (mkF m 6 #[.val (.int p1), .val (.int p2), .val (.int p3), .val (.int p4), .val (.int p5), .val (.int (1 : Int32)), .unset, .unset, .unset, .unset, .unset, .unset, .unset, .unset, .unset, .unset, .unset, .unset, .unset] [(.int p2)])) (rmKey l Z a0 hw p2 h0) X0 hx hZ hown e0 (hw _ (List.mem_of_getElem? (i := 0) rfl)) (hw _ (List.mem_of_getElem? (i := 1) rfl)) (hw _ (List.mem_of_getElem? (i := 2) rfl)) (hw _ (List.mem_of_getElem? (i := 3) rfl)) (by decide) rfl (by rw [hml]; rfl) (argsL := [(.int p2)]) (rest := []) (lenOf pd_28I29I rfl) rfl (hb hby at_6) (W := 0) (by show 2 * 0 + _ ≤ _; exact Nat.le_of_eq rfl) (by decide) (by decide) (by decide) (by decide))
    refine Go.st st14 ?_
    show Go p e below _ T14 (mkF m 9 #[.val (.int p1), .val (.int p2), .val (.int p3), .val (.int p4), .val (.int p5), .val (.int (1 : Int32)), .unset, .unset, .unset, .unset, .unset, .unset, .unset, .unset, .unset, .unset, .unset, .unset, .unset] [(.int (own_key p2))])
    refine Go.st (fun _ h => XS.istore X14.here hx rfl (hb hby at_9) rfl (l' := #[.val (.int p1), .val (.int p2), .val (.int p3), .val (.int p4), .val (.int p5), .val (.int (1 : Int32)), .val (.int (own_key p2)), .unset, .unset, .unset, .unset, .unset, .unset, .unset, .unset, .unset, .unset, .unset, .unset]) rfl h) ?_
    show Go p e below _ T14 (mkF m 11 #[.val (.int p1), .val (.int p2), .val (.int p3), .val (.int p4), .val (.int p5), .val (.int (1 : Int32)), .val (.int (own_key p2)), .unset, .unset, .unset, .unset, .unset, .unset, .unset, .unset, .unset, .unset, .unset, .unset] [])
    refine Go.st (fun _ h => XS.iloadN X14.here hx rfl (hb hby at_11) rfl h) ?_
    show Go p e below _ T14 (mkF m 12 #[.val (.int p1), .val (.int p2), .val (.int p3), .val (.int p4), .val (.int p5), .val (.int (1 : Int32)), .val (.int (own_key p2)), .unset, .unset, .unset, .unset, .unset, .unset, .unset, .unset, .unset, .unset, .unset, .unset] [(.int p3)])
    obtain ⟨T15, X15, e15, st15⟩ := own_still rfl rfl (Does.static (y := (⟨"com/example/tenon/tenon/core/XmlElementDeclaredPinLaw", "key", "(I)I"⟩ : MethodName)) (g := (mkF m 12 #[.val (.int p1), .val (.int p2), .val (.int p3), .val (.int p4), .val (.int p5), .val (.int (1 : Int32)), .val (.int (own_key p2)), .unset, .unset, .unset, .unset, .unset, .unset, .unset, .unset, .unset, .unset, .unset, .unset] [(.int p3)])) (rmKey l Z a0 hw p3 h0) X14 hx hZ hown e14 (hw _ (List.mem_of_getElem? (i := 0) rfl)) (hw _ (List.mem_of_getElem? (i := 1) rfl)) (hw _ (List.mem_of_getElem? (i := 2) rfl)) (hw _ (List.mem_of_getElem? (i := 3) rfl)) (by decide) rfl (by rw [hml]; rfl) (argsL := [(.int p3)]) (rest := []) (lenOf pd_28I29I rfl) rfl (hb hby at_12) (W := 0) (by show 2 * 0 + _ ≤ _; exact Nat.le_of_eq rfl) (by decide) (by decide) (by decide) (by decide))
    refine Go.st st15 ?_
    show Go p e below _ T15 (mkF m 15 #[.val (.int p1), .val (.int p2), .val (.int p3), .val (.int p4), .val (.int p5), .val (.int (1 : Int32)), .val (.int (own_key p2)), .unset, .unset, .unset, .unset, .unset, .unset, .unset, .unset, .unset, .unset, .unset, .unset] [(.int (own_key p3))])
    refine Go.st (fun _ h => XS.istore X15.here hx rfl (hb hby at_15) rfl (l' := #[.val (.int p1), .val (.int p2), .val (.int p3), .val (.int p4), .val (.int p5), .val (.int (1 : Int32)), .val (.int (own_key p2)), .val (.int (own_key p3)), .unset, .unset, .unset, .unset, .unset, .unset, .unset, .unset, .unset, .unset, .unset]) rfl h) ?_
    show Go p e below _ T15 (mkF m 17 #[.val (.int p1), .val (.int p2), .val (.int p3), .val (.int p4), .val (.int p5), .val (.int (1 : Int32)), .val (.int (own_key p2)), .val (.int (own_key p3)), .unset, .unset, .unset, .unset, .unset, .unset, .unset, .unset, .unset, .unset, .unset] [])
    refine Go.st (fun _ h => XS.iloadN X15.here hx rfl (hb hby at_17) rfl h) ?_
    show Go p e below _ T15 (mkF m 18 #[.val (.int p1), .val (.int p2), .val (.int p3), .val (.int p4), .val (.int p5), .val (.int (1 : Int32)), .val (.int (own_key p2)), .val (.int (own_key p3)), .unset, .unset, .unset, .unset, .unset, .unset, .unset, .unset, .unset, .unset, .unset] [(.int p4)])
    obtain ⟨T16, X16, e16, st16⟩ := own_still rfl rfl (Does.static (y := (⟨"com/example/tenon/tenon/core/XmlElementDeclaredPinLaw", "key", "(I)I"⟩ : MethodName)) (g := (mkF m 18 #[.val (.int p1), .val (.int p2), .val (.int p3), .val (.int p4), .val (.int p5), .val (.int (1 : Int32)), .val (.int (own_key p2)), .val (.int (own_key p3)), .unset, .unset, .unset, .unset, .unset, .unset, .unset, .unset, .unset, .unset, .unset] [(.int p4)])) (rmKey l Z a0 hw p4 h0) X15 hx hZ hown e15 (hw _ (List.mem_of_getElem? (i := 0) rfl)) (hw _ (List.mem_of_getElem? (i := 1) rfl)) (hw _ (List.mem_of_getElem? (i := 2) rfl)) (hw _ (List.mem_of_getElem? (i := 3) rfl)) (by decide) rfl (by rw [hml]; rfl) (argsL := [(.int p4)]) (rest := []) (lenOf pd_28I29I rfl) rfl (hb hby at_18) (W := 0) (by show 2 * 0 + _ ≤ _; exact Nat.le_of_eq rfl) (by decide) (by decide) (by decide) (by decide))
    refine Go.st st16 ?_
    show Go p e below _ T16 (mkF m 21 #[.val (.int p1), .val (.int p2), .val (.int p3), .val (.int p4), .val (.int p5), .val (.int (1 : Int32)), .val (.int (own_key p2)), .val (.int (own_key p3)), .unset, .unset, .unset, .unset, .unset, .unset, .unset, .unset, .unset, .unset, .unset] [(.int (own_key p4))])
    refine Go.st (fun _ h => XS.istore X16.here hx rfl (hb hby at_21) rfl (l' := #[.val (.int p1), .val (.int p2), .val (.int p3), .val (.int p4), .val (.int p5), .val (.int (1 : Int32)), .val (.int (own_key p2)), .val (.int (own_key p3)), .val (.int (own_key p4)), .unset, .unset, .unset, .unset, .unset, .unset, .unset, .unset, .unset, .unset]) rfl h) ?_
    show Go p e below _ T16 (mkF m 23 #[.val (.int p1), .val (.int p2), .val (.int p3), .val (.int p4), .val (.int p5), .val (.int (1 : Int32)), .val (.int (own_key p2)), .val (.int (own_key p3)), .val (.int (own_key p4)), .unset, .unset, .unset, .unset, .unset, .unset, .unset, .unset, .unset, .unset] [])
    refine Go.st (fun _ h => XS.iload X16.here hx rfl (hb hby at_23) rfl h) ?_
    show Go p e below _ T16 (mkF m 25 #[.val (.int p1), .val (.int p2), .val (.int p3), .val (.int p4), .val (.int p5), .val (.int (1 : Int32)), .val (.int (own_key p2)), .val (.int (own_key p3)), .val (.int (own_key p4)), .unset, .unset, .unset, .unset, .unset, .unset, .unset, .unset, .unset, .unset] [(.int (1 : Int32))])
    refine Go.st (fun _ h => XT.iconstV X16.here hx rfl (2 : Int32) (hb hby at_25) (by decide) h) ?_
    show Go p e below _ T16 (mkF m 26 #[.val (.int p1), .val (.int p2), .val (.int p3), .val (.int p4), .val (.int p5), .val (.int (1 : Int32)), .val (.int (own_key p2)), .val (.int (own_key p3)), .val (.int (own_key p4)), .unset, .unset, .unset, .unset, .unset, .unset, .unset, .unset, .unset, .unset] [(.int (2 : Int32)), (.int (1 : Int32))])
    refine Go.st (fun _ h => XS.icmpYes X16.here hx rfl (pc0 := 26) (pc' := 38) rfl (hb hby at_26) rfl (by decide) (by decide) (by decide) h) ?_
    show Go p e below _ T16 (mkF m 38 #[.val (.int p1), .val (.int p2), .val (.int p3), .val (.int p4), .val (.int p5), .val (.int (1 : Int32)), .val (.int (own_key p2)), .val (.int (own_key p3)), .val (.int (own_key p4)), .unset, .unset, .unset, .unset, .unset, .unset, .unset, .unset, .unset, .unset] [])
    refine Go.st (fun _ h => XS.iload X16.here hx rfl (hb hby at_38) rfl h) ?_
    show Go p e below _ T16 (mkF m 40 #[.val (.int p1), .val (.int p2), .val (.int p3), .val (.int p4), .val (.int p5), .val (.int (1 : Int32)), .val (.int (own_key p2)), .val (.int (own_key p3)), .val (.int (own_key p4)), .unset, .unset, .unset, .unset, .unset, .unset, .unset, .unset, .unset, .unset] [(.int (1 : Int32))])
    refine Go.st (fun _ h => XT.iconstV X16.here hx rfl (3 : Int32) (hb hby at_40) (by decide) h) ?_
    show Go p e below _ T16 (mkF m 41 #[.val (.int p1), .val (.int p2), .val (.int p3), .val (.int p4), .val (.int p5), .val (.int (1 : Int32)), .val (.int (own_key p2)), .val (.int (own_key p3)), .val (.int (own_key p4)), .unset, .unset, .unset, .unset, .unset, .unset, .unset, .unset, .unset, .unset] [(.int (3 : Int32)), (.int (1 : Int32))])
    refine Go.st (fun _ h => XS.icmpYes X16.here hx rfl (pc0 := 41) (pc' := 60) rfl (hb hby at_41) rfl (by decide) (by decide) (by decide) h) ?_
    show Go p e below _ T16 (mkF m 60 #[.val (.int p1), .val (.int p2), .val (.int p3), .val (.int p4), .val (.int p5), .val (.int (1 : Int32)), .val (.int (own_key p2)), .val (.int (own_key p3)), .val (.int (own_key p4)), .unset, .unset, .unset, .unset, .unset, .unset, .unset, .unset, .unset, .unset] [])
    refine Go.st (fun _ h => XS.iloadN X16.here hx rfl (hb hby at_60) rfl h) ?_
    show Go p e below _ T16 (mkF m 61 #[.val (.int p1), .val (.int p2), .val (.int p3), .val (.int p4), .val (.int p5), .val (.int (1 : Int32)), .val (.int (own_key p2)), .val (.int (own_key p3)), .val (.int (own_key p4)), .unset, .unset, .unset, .unset, .unset, .unset, .unset, .unset, .unset, .unset] [(.int p2)])
    obtain ⟨_, T17, L17, X17, hZ, hown, hS, RR17, ⟨s17, tv17, kv17, rfl, Nc17, Kc17, lec17, Ec17, Cc17, Vc17, Bc17⟩, st17⟩ := DoesH.static (s := s) (y := (⟨"com/example/tenon/tenon/core/XmlElementDeclaredPinLaw", "mk", "(I)Ljava/lang/String;"⟩ : MethodName)) (g := (mkF m 61 #[.val (.int p1), .val (.int p2), .val (.int p3), .val (.int p4), .val (.int p5), .val (.int (1 : Int32)), .val (.int (own_key p2)), .val (.int (own_key p3)), .val (.int (own_key p4)), .unset, .unset, .unset, .unset, .unset, .unset, .unset, .unset, .unset, .unset] [(.int p2)])) (rmMk l Z a0 hw hEL wS p2 h0 n0 Z0 zc S_CS hzc) X16 hx hZ hown e16 hEL RR hS hkS (hw _ (List.mem_of_getElem? (i := 7) rfl)) (hw _ (List.mem_of_getElem? (i := 8) rfl)) (hw _ (List.mem_of_getElem? (i := 2) rfl)) (hw _ (List.mem_of_getElem? (i := 9) rfl)) (by decide) rfl (by rw [hml]; rfl) (argsL := [(.int p2)]) (rest := []) (lenOf pd_28I29Ljava2flang2fString3b rfl) rfl (hb hby at_61) (W := 0) (by show 2 * 0 + _ ≤ _; exact Nat.le_of_eq rfl) (by decide) (by decide) (by decide) (by decide)
    have K17 := (Keep.refl _ []).trans Kc17 all0
    have N17 := Fr.app N0 Nc17
    refine Go.st st17 ?_
    show Go p e below _ T17 (mkF m 64 #[.val (.int p1), .val (.int p2), .val (.int p3), .val (.int p4), .val (.int p5), .val (.int (1 : Int32)), .val (.int (own_key p2)), .val (.int (own_key p3)), .val (.int (own_key p4)), .unset, .unset, .unset, .unset, .unset, .unset, .unset, .unset, .unset, .unset] [(.ref s17)])
    refine Go.st (fun _ h => XS.astore X17.here hx rfl (hb hby at_64) rfl rfl (l' := #[.val (.int p1), .val (.int p2), .val (.int p3), .val (.int p4), .val (.int p5), .val (.int (1 : Int32)), .val (.int (own_key p2)), .val (.int (own_key p3)), .val (.int (own_key p4)), .val (.ref s17), .unset, .unset, .unset, .unset, .unset, .unset, .unset, .unset, .unset]) rfl h) ?_
    show Go p e below _ T17 (mkF m 66 #[.val (.int p1), .val (.int p2), .val (.int p3), .val (.int p4), .val (.int p5), .val (.int (1 : Int32)), .val (.int (own_key p2)), .val (.int (own_key p3)), .val (.int (own_key p4)), .val (.ref s17), .unset, .unset, .unset, .unset, .unset, .unset, .unset, .unset, .unset] [])
    refine Go.st (fun _ h => XS.iloadN X17.here hx rfl (hb hby at_66) rfl h) ?_
    show Go p e below _ T17 (mkF m 67 #[.val (.int p1), .val (.int p2), .val (.int p3), .val (.int p4), .val (.int p5), .val (.int (1 : Int32)), .val (.int (own_key p2)), .val (.int (own_key p3)), .val (.int (own_key p4)), .val (.ref s17), .unset, .unset, .unset, .unset, .unset, .unset, .unset, .unset, .unset] [(.int p3)])
    obtain ⟨_, T18, L18, X18, hZ, hown, hS, RR18, ⟨s18, tv18, kv18, rfl, Nc18, Kc18, lec18, Ec18, Cc18, Vc18, Bc18⟩, st18⟩ := DoesH.static (s := s) (y := (⟨"com/example/tenon/tenon/core/XmlElementDeclaredPinLaw", "mk", "(I)Ljava/lang/String;"⟩ : MethodName)) (g := (mkF m 67 #[.val (.int p1), .val (.int p2), .val (.int p3), .val (.int p4), .val (.int p5), .val (.int (1 : Int32)), .val (.int (own_key p2)), .val (.int (own_key p3)), .val (.int (own_key p4)), .val (.ref s17), .unset, .unset, .unset, .unset, .unset, .unset, .unset, .unset, .unset] [(.int p3)])) (rmMk l Z a0 hw hEL wS p3 T17.heap n0 (Nat.le_trans Z0 K17.1) zc (S_CS.ext (own_ext K17)) hzc) X17 hx hZ hown rfl hEL RR17 hS (Nat.le_refl _) (hw _ (List.mem_of_getElem? (i := 7) rfl)) (hw _ (List.mem_of_getElem? (i := 8) rfl)) (hw _ (List.mem_of_getElem? (i := 2) rfl)) (hw _ (List.mem_of_getElem? (i := 9) rfl)) (by decide) rfl (by rw [hml]; rfl) (argsL := [(.int p3)]) (rest := []) (lenOf pd_28I29Ljava2flang2fString3b rfl) rfl (hb hby at_67) (W := 0) (by show 2 * 0 + _ ≤ _; exact Nat.le_of_eq rfl) (by decide) (by decide) (by decide) (by decide)
    have E18_0 := Ec17.keep Kc18
    have F18_1 := Cc17.keep Kc18 nin0
    have F18_2 := Vc17.keep Kc18 nin0
    have V18_3 := Bc17.keep Kc18 nin0
    have K18 := K17.trans Kc18 all0
    have N18 := Fr.app N17 Nc18
    have ne_s17_s18 : s17 ≠ s18 := Nat.ne_of_lt (Nat.lt_of_lt_of_le Ec17.lt lec18)
    have ne_tv17_s18 : tv17 ≠ s18 := Nat.ne_of_lt (Nat.lt_of_lt_of_le Bc17.lt lec18)
    refine Go.st st18 ?_
    show Go p e below _ T18 (mkF m 70 #[.val (.int p1), .val (.int p2), .val (.int p3), .val (.int p4), .val (.int p5), .val (.int (1 : Int32)), .val (.int (own_key p2)), .val (.int (own_key p3)), .val (.int (own_key p4)), .val (.ref s17), .unset, .unset, .unset, .unset, .unset, .unset, .unset, .unset, .unset] [(.ref s18)])
    refine Go.st (fun _ h => XS.astore X18.here hx rfl (hb hby at_70) rfl rfl (l' := #[.val (.int p1), .val (.int p2), .val (.int p3), .val (.int p4), .val (.int p5), .val (.int (1 : Int32)), .val (.int (own_key p2)), .val (.int (own_key p3)), .val (.int (own_key p4)), .val (.ref s17), .val (.ref s18), .unset, .unset, .unset, .unset, .unset, .unset, .unset, .unset]) rfl h) ?_
    show Go p e below _ T18 (mkF m 72 #[.val (.int p1), .val (.int p2), .val (.int p3), .val (.int p4), .val (.int p5), .val (.int (1 : Int32)), .val (.int (own_key p2)), .val (.int (own_key p3)), .val (.int (own_key p4)), .val (.ref s17), .val (.ref s18), .unset, .unset, .unset, .unset, .unset, .unset, .unset, .unset] [])
    refine Go.st (fun _ h => XS.iloadN X18.here hx rfl (hb hby at_72) rfl h) ?_
    show Go p e below _ T18 (mkF m 73 #[.val (.int p1), .val (.int p2), .val (.int p3), .val (.int p4), .val (.int p5), .val (.int (1 : Int32)), .val (.int (own_key p2)), .val (.int (own_key p3)), .val (.int (own_key p4)), .val (.ref s17), .val (.ref s18), .unset, .unset, .unset, .unset, .unset, .unset, .unset, .unset] [(.int p4)])
    obtain ⟨_, T19, L19, X19, hZ, hown, hS, RR19, ⟨s19, tv19, kv19, rfl, Nc19, Kc19, lec19, Ec19, Cc19, Vc19, Bc19⟩, st19⟩ := DoesH.static (s := s) (y := (⟨"com/example/tenon/tenon/core/XmlElementDeclaredPinLaw", "mk", "(I)Ljava/lang/String;"⟩ : MethodName)) (g := (mkF m 73 #[.val (.int p1), .val (.int p2), .val (.int p3), .val (.int p4), .val (.int p5), .val (.int (1 : Int32)), .val (.int (own_key p2)), .val (.int (own_key p3)), .val (.int (own_key p4)), .val (.ref s17), .val (.ref s18), .unset, .unset, .unset, .unset, .unset, .unset, .unset, .unset] [(.int p4)])) (rmMk l Z a0 hw hEL wS p4 T18.heap n0 (Nat.le_trans Z0 K18.1) zc (S_CS.ext (own_ext K18)) hzc) X18 hx hZ hown rfl hEL RR18 hS (Nat.le_refl _) (hw _ (List.mem_of_getElem? (i := 7) rfl)) (hw _ (List.mem_of_getElem? (i := 8) rfl)) (hw _ (List.mem_of_getElem? (i := 2) rfl)) (hw _ (List.mem_of_getElem? (i := 9) rfl)) (by decide) rfl (by rw [hml]; rfl) (argsL := [(.int p4)]) (rest := []) (lenOf pd_28I29Ljava2flang2fString3b rfl) rfl (hb hby at_73) (W := 0) (by show 2 * 0 + _ ≤ _; exact Nat.le_of_eq rfl) (by decide) (by decide) (by decide) (by decide)
    have E19_0 := E18_0.keep Kc19
    have E19_1 := Ec18.keep Kc19
    have F19_2 := F18_1.keep Kc19 nin0
    have F19_3 := F18_2.keep Kc19 nin0
    have F19_4 := Cc18.keep Kc19 nin0
    have F19_5 := Vc18.keep Kc19 nin0
    have V19_6 := V18_3.keep Kc19 nin0
    have V19_7 := Bc18.keep Kc19 nin0
    have K19 := K18.trans Kc19 all0
    have N19 := Fr.app N18 Nc19
    have ne_s17_s19 : s17 ≠ s19 := Nat.ne_of_lt (Nat.lt_of_lt_of_le E18_0.lt lec19)
    have ne_tv17_s19 : tv17 ≠ s19 := Nat.ne_of_lt (Nat.lt_of_lt_of_le V18_3.lt lec19)
    have ne_s18_s19 : s18 ≠ s19 := Nat.ne_of_lt (Nat.lt_of_lt_of_le Ec18.lt lec19)
    have ne_tv18_s19 : tv18 ≠ s19 := Nat.ne_of_lt (Nat.lt_of_lt_of_le Bc18.lt lec19)
    refine Go.st st19 ?_
    show Go p e below _ T19 (mkF m 76 #[.val (.int p1), .val (.int p2), .val (.int p3), .val (.int p4), .val (.int p5), .val (.int (1 : Int32)), .val (.int (own_key p2)), .val (.int (own_key p3)), .val (.int (own_key p4)), .val (.ref s17), .val (.ref s18), .unset, .unset, .unset, .unset, .unset, .unset, .unset, .unset] [(.ref s19)])
    refine Go.st (fun _ h => XS.astore X19.here hx rfl (hb hby at_76) rfl rfl (l' := #[.val (.int p1), .val (.int p2), .val (.int p3), .val (.int p4), .val (.int p5), .val (.int (1 : Int32)), .val (.int (own_key p2)), .val (.int (own_key p3)), .val (.int (own_key p4)), .val (.ref s17), .val (.ref s18), .val (.ref s19), .unset, .unset, .unset, .unset, .unset, .unset, .unset]) rfl h) ?_
    show Go p e below _ T19 (mkF m 78 #[.val (.int p1), .val (.int p2), .val (.int p3), .val (.int p4), .val (.int p5), .val (.int (1 : Int32)), .val (.int (own_key p2)), .val (.int (own_key p3)), .val (.int (own_key p4)), .val (.ref s17), .val (.ref s18), .val (.ref s19), .unset, .unset, .unset, .unset, .unset, .unset, .unset] [])
    refine Go.st (fun _ h => XS.iload X19.here hx rfl (hb hby at_78) rfl h) ?_
    show Go p e below _ T19 (mkF m 80 #[.val (.int p1), .val (.int p2), .val (.int p3), .val (.int p4), .val (.int p5), .val (.int (1 : Int32)), .val (.int (own_key p2)), .val (.int (own_key p3)), .val (.int (own_key p4)), .val (.ref s17), .val (.ref s18), .val (.ref s19), .unset, .unset, .unset, .unset, .unset, .unset, .unset] [(.int (1 : Int32))])
    refine Go.st (fun _ h => XS.ifYes X19.here hx rfl (pc0 := 80) (pc' := 92) rfl (hb hby at_80) rfl (by decide) (by decide) (by decide) h) ?_
    show Go p e below _ T19 (mkF m 92 #[.val (.int p1), .val (.int p2), .val (.int p3), .val (.int p4), .val (.int p5), .val (.int (1 : Int32)), .val (.int (own_key p2)), .val (.int (own_key p3)), .val (.int (own_key p4)), .val (.ref s17), .val (.ref s18), .val (.ref s19), .unset, .unset, .unset, .unset, .unset, .unset, .unset] [])
    refine Go.st (fun _ h => XS.iload X19.here hx rfl (hb hby at_92) rfl h) ?_
    show Go p e below _ T19 (mkF m 94 #[.val (.int p1), .val (.int p2), .val (.int p3), .val (.int p4), .val (.int p5), .val (.int (1 : Int32)), .val (.int (own_key p2)), .val (.int (own_key p3)), .val (.int (own_key p4)), .val (.ref s17), .val (.ref s18), .val (.ref s19), .unset, .unset, .unset, .unset, .unset, .unset, .unset] [(.int (1 : Int32))])
    refine Go.st (fun _ h => XT.iconstV X19.here hx rfl (1 : Int32) (hb hby at_94) (by decide) h) ?_
    show Go p e below _ T19 (mkF m 95 #[.val (.int p1), .val (.int p2), .val (.int p3), .val (.int p4), .val (.int p5), .val (.int (1 : Int32)), .val (.int (own_key p2)), .val (.int (own_key p3)), .val (.int (own_key p4)), .val (.ref s17), .val (.ref s18), .val (.ref s19), .unset, .unset, .unset, .unset, .unset, .unset, .unset] [(.int (1 : Int32)), (.int (1 : Int32))])
    refine Go.st (fun _ h => XS.icmpNo X19.here hx rfl (hb hby at_95) rfl (by decide) h) ?_
    show Go p e below _ T19 (mkF m 98 #[.val (.int p1), .val (.int p2), .val (.int p3), .val (.int p4), .val (.int p5), .val (.int (1 : Int32)), .val (.int (own_key p2)), .val (.int (own_key p3)), .val (.int (own_key p4)), .val (.ref s17), .val (.ref s18), .val (.ref s19), .unset, .unset, .unset, .unset, .unset, .unset, .unset] [])
    refine Go.st (fun _ h => XT.iconstV X19.here hx rfl (2 : Int32) (hb hby at_98) (by decide) h) ?_
    show Go p e below _ T19 (mkF m 99 #[.val (.int p1), .val (.int p2), .val (.int p3), .val (.int p4), .val (.int p5), .val (.int (1 : Int32)), .val (.int (own_key p2)), .val (.int (own_key p3)), .val (.int (own_key p4)), .val (.ref s17), .val (.ref s18), .val (.ref s19), .unset, .unset, .unset, .unset, .unset, .unset, .unset] [(.int (2 : Int32))])
    obtain ⟨T20, h20, k20, X20, e20, E20, A20, O20, st20⟩ := newR X19 hx hZ hown (hw _ (List.mem_of_getElem? (i := 10) rfl)) (hw _ (List.mem_of_getElem? (i := 40) rfl)) rfl (g := (mkF m 99 #[.val (.int p1), .val (.int p2), .val (.int p3), .val (.int p4), .val (.int p5), .val (.int (1 : Int32)), .val (.int (own_key p2)), .val (.int (own_key p3)), .val (.int (own_key p4)), .val (.ref s17), .val (.ref s18), .val (.ref s19), .unset, .unset, .unset, .unset, .unset, .unset, .unset] [(.int (2 : Int32))])) rfl (hb hby at_99) rfl (by decide) (cap := 2) (by decide) (by decide) (by decide) (by decide)
    obtain ⟨o20, g20⟩ : ∃ z, z = T19.heap.size := ⟨_, rfl⟩
    rw [← g20] at A20 st20
    have ne_s17_o20 : s17 ≠ o20 := by rw [g20]; exact Nat.ne_of_lt E19_0.lt
    have ne_s18_o20 : s18 ≠ o20 := by rw [g20]; exact Nat.ne_of_lt E19_1.lt
    have ne_s19_o20 : s19 ≠ o20 := by rw [g20]; exact Nat.ne_of_lt Ec19.lt
    have ne_tv17_o20 : tv17 ≠ o20 := by rw [g20]; exact Nat.ne_of_lt V19_6.lt
    have ne_tv18_o20 : tv18 ≠ o20 := by rw [g20]; exact Nat.ne_of_lt V19_7.lt
    have ne_tv19_o20 : tv19 ≠ o20 := by rw [g20]; exact Nat.ne_of_lt Bc19.lt
    have le_o20 : h0.size ≤ o20 := by rw [g20]; exact K19.1
    have Q20_ : Safe Z consts_1 _ T19.heap o20 := Safe.new (vm := T19.vm) (by rw [g20]; exact Nat.le_refl _)
    have E20_0 := E19_0.ext E20
    have E20_1 := E19_1.ext E20
    have E20_2 := Ec19.ext E20
    have F20_3 := F19_2.ext E20
    have F20_4 := F19_3.ext E20
    have F20_5 := F19_4.ext E20
    have F20_6 := F19_5.ext E20
    have F20_7 := Cc19.ext E20
    have F20_8 := Vc19.ext E20
    have Q20_9 := Safe.ext E20 RR19.1 Q20_
    have V20_10 := V19_6.ext E20
    have V20_11 := V19_7.ext E20
    have V20_12 := Bc19.ext E20
    have K20 := K19.ext E20
    have RR20 := RR19.trans (CHr.ext E20 RR19.1)
    have hkS20 := Nat.le_trans (Nat.le_refl _) E20.1
    have V20 : Arv Z h20 o20 k20 (.object "java/lang/String") (2 : Int32) [.null, .null] .null := (Arv.new A20 (by decide)).pad (pad_rep [] .null 2)
    refine Go.st st20 ?_
    show Go p e below _ T20 (mkF m 102 #[.val (.int p1), .val (.int p2), .val (.int p3), .val (.int p4), .val (.int p5), .val (.int (1 : Int32)), .val (.int (own_key p2)), .val (.int (own_key p3)), .val (.int (own_key p4)), .val (.ref s17), .val (.ref s18), .val (.ref s19), .unset, .unset, .unset, .unset, .unset, .unset, .unset] [(.ref o20)])
    refine Go.st (fun _ h => XS.dup X20.here hx rfl (hb hby at_102) rfl rfl h) ?_
    show Go p e below _ T20 (mkF m 103 #[.val (.int p1), .val (.int p2), .val (.int p3), .val (.int p4), .val (.int p5), .val (.int (1 : Int32)), .val (.int (own_key p2)), .val (.int (own_key p3)), .val (.int (own_key p4)), .val (.ref s17), .val (.ref s18), .val (.ref s19), .unset, .unset, .unset, .unset, .unset, .unset, .unset] [(.ref o20), (.ref o20)])
    refine Go.st (fun _ h => XT.iconstV X20.here hx rfl (0 : Int32) (hb hby at_103) (by decide) h) ?_
    show Go p e below _ T20 (mkF m 104 #[.val (.int p1), .val (.int p2), .val (.int p3), .val (.int p4), .val (.int p5), .val (.int (1 : Int32)), .val (.int (own_key p2)), .val (.int (own_key p3)), .val (.int (own_key p4)), .val (.ref s17), .val (.ref s18), .val (.ref s19), .unset, .unset, .unset, .unset, .unset, .unset, .unset] [(.int (0 : Int32)), (.ref o20), (.ref o20)])
    refine Go.st (fun _ h => XS.aload X20.here hx rfl (hb hby at_104) rfl rfl h) ?_
    show Go p e below _ T20 (mkF m 106 #[.val (.int p1), .val (.int p2), .val (.int p3), .val (.int p4), .val (.int p5), .val (.int (1 : Int32)), .val (.int (own_key p2)), .val (.int (own_key p3)), .val (.int (own_key p4)), .val (.ref s17), .val (.ref s18), .val (.ref s19), .unset, .unset, .unset, .unset, .unset, .unset, .unset] [(.ref s17), (.int (0 : Int32)), (.ref o20), (.ref o20)])
    obtain ⟨T21, h21, X21, e21, W21, V21, st21⟩ := own_stR X20 hx hZ e20 (j := (0 : Int32)) V20 O20 (Ins.self E20_0) (by decide) (by decide) 0 (by decide) (by simp) (g := (mkF m 106 #[.val (.int p1), .val (.int p2), .val (.int p3), .val (.int p4), .val (.int p5), .val (.int (1 : Int32)), .val (.int (own_key p2)), .val (.int (own_key p3)), .val (.int (own_key p4)), .val (.ref s17), .val (.ref s18), .val (.ref s19), .unset, .unset, .unset, .unset, .unset, .unset, .unset] [(.ref s17), (.int (0 : Int32)), (.ref o20), (.ref o20)])) rfl rfl (hb hby at_106)
    have N21 := Fr.snoc X21 N19 (Nat.le_trans Z0 le_o20)
    have E21_0 := E20_0.wr W21
    have E21_1 := E20_1.wr W21
    have E21_2 := E20_2.wr W21
    have F21_3 := F20_3.other W21 (Or.inl ne_s17_o20)
    have F21_4 := F20_4.other W21 (Or.inl ne_s17_o20)
    have F21_5 := F20_5.other W21 (Or.inl ne_s18_o20)
    have F21_6 := F20_6.other W21 (Or.inl ne_s18_o20)
    have F21_7 := F20_7.other W21 (Or.inl ne_s19_o20)
    have F21_8 := F20_8.other W21 (Or.inl ne_s19_o20)
    have Q21_9 := Safe.wr W21 Q20_9 RR20.1 Q20_9
    have V21_11 := V20_10.other W21 ne_tv17_o20
    have V21_12 := V20_11.other W21 ne_tv18_o20
    have V21_13 := V20_12.other W21 ne_tv19_o20
    have K21 := K20.wr W21 (Or.inr le_o20)
    have RR21 := RR20.trans (CHr.wr W21 Q20_9 RR20.1)
    have hkS21 := Nat.le_trans hkS20 (Nat.le_of_eq W21.size.symm)
    have V21' : Arv Z h21 o20 k20 (.object "java/lang/String") (2 : Int32) [(.ref s17), .null] .null := V21
    refine Go.st st21 ?_
    show Go p e below _ T21 (mkF m 107 #[.val (.int p1), .val (.int p2), .val (.int p3), .val (.int p4), .val (.int p5), .val (.int (1 : Int32)), .val (.int (own_key p2)), .val (.int (own_key p3)), .val (.int (own_key p4)), .val (.ref s17), .val (.ref s18), .val (.ref s19), .unset, .unset, .unset, .unset, .unset, .unset, .unset] [(.ref o20)])
    refine Go.st (fun _ h => XS.dup X21.here hx rfl (hb hby at_107) rfl rfl h) ?_
    show Go p e below _ T21 (mkF m 108 #[.val (.int p1), .val (.int p2), .val (.int p3), .val (.int p4), .val (.int p5), .val (.int (1 : Int32)), .val (.int (own_key p2)), .val (.int (own_key p3)), .val (.int (own_key p4)), .val (.ref s17), .val (.ref s18), .val (.ref s19), .unset, .unset, .unset, .unset, .unset, .unset, .unset] [(.ref o20), (.ref o20)])
    refine Go.st (fun _ h => XT.iconstV X21.here hx rfl (1 : Int32) (hb hby at_108) (by decide) h) ?_
    show Go p e below _ T21 (mkF m 109 #[.val (.int p1), .val (.int p2), .val (.int p3), .val (.int p4), .val (.int p5), .val (.int (1 : Int32)), .val (.int (own_key p2)), .val (.int (own_key p3)), .val (.int (own_key p4)), .val (.ref s17), .val (.ref s18), .val (.ref s19), .unset, .unset, .unset, .unset, .unset, .unset, .unset] [(.int (1 : Int32)), (.ref o20), (.ref o20)])
    obtain ⟨c22, T22, h22, k22, t22, q22, X22, e22, E22, hS, hkS22, hZ, hown, A22, C22, V22, B22, lt22, lu22, CC22, -, nc22, st22⟩ := ldcCH (s := s) X21 hx hZ hown (hw _ (List.mem_of_getElem? (i := 48) rfl)) wS e21 hS hkS21 hEL (List.mem_of_getElem? (i := 0) rfl) RR21.1 (vs := [(.int (117 : Int32)), (.int (48 : Int32))]) (z := (2 : Int32)) ⟨by decide, by decide⟩ (by decide) (by decide) (g := (mkF m 109 #[.val (.int p1), .val (.int p2), .val (.int p3), .val (.int p4), .val (.int p5), .val (.int (1 : Int32)), .val (.int (own_key p2)), .val (.int (own_key p3)), .val (.int (own_key p4)), .val (.ref s17), .val (.ref s18), .val (.ref s19), .unset, .unset, .unset, .unset, .unset, .unset, .unset] [(.int (1 : Int32)), (.ref o20), (.ref o20)])) rfl (hb hby at_109) (n := 8) (by decide) (by decide) (by decide) (by decide)
    have E22_0 := E21_0.ext E22
    have E22_1 := E21_1.ext E22
    have E22_2 := E21_2.ext E22
    have F22_3 := F21_3.ext E22
    have F22_4 := F21_4.ext E22
    have F22_5 := F21_5.ext E22
    have F22_6 := F21_6.ext E22
    have F22_7 := F21_7.ext E22
    have F22_8 := F21_8.ext E22
    have Q22_9 := CC22.safe V21'.lt Q21_9
    have V22_10 := V21'.ext E22
    have V22_11 := V21_11.ext E22
    have V22_12 := V21_12.ext E22
    have V22_13 := V21_13.ext E22
    have K22 := K21.ext E22
    have RR22 := RR21.trans CC22
    have nc_o20_22 := nc22 _ Q22_9
    refine Go.st st22 ?_
    show Go p e below _ T22 (mkF m 111 #[.val (.int p1), .val (.int p2), .val (.int p3), .val (.int p4), .val (.int p5), .val (.int (1 : Int32)), .val (.int (own_key p2)), .val (.int (own_key p3)), .val (.int (own_key p4)), .val (.ref s17), .val (.ref s18), .val (.ref s19), .unset, .unset, .unset, .unset, .unset, .unset, .unset] [(.ref c22), (.int (1 : Int32)), (.ref o20), (.ref o20)])
    obtain ⟨T23, h23, X23, e23, W23, V23, st23⟩ := own_stR X22 hx hZ e22 (j := (1 : Int32)) V22_10 O20 (Ins.self A22) (by decide) (by decide) 1 (by decide) (by simp) (g := (mkF m 111 #[.val (.int p1), .val (.int p2), .val (.int p3), .val (.int p4), .val (.int p5), .val (.int (1 : Int32)), .val (.int (own_key p2)), .val (.int (own_key p3)), .val (.int (own_key p4)), .val (.ref s17), .val (.ref s18), .val (.ref s19), .unset, .unset, .unset, .unset, .unset, .unset, .unset] [(.ref c22), (.int (1 : Int32)), (.ref o20), (.ref o20)])) rfl rfl (hb hby at_111)
    have N23 := Fr.snoc X23 N21 (Nat.le_trans Z0 le_o20)
    have E23_0 := A22.wr W23
    have E23_1 := E22_0.wr W23
    have E23_2 := E22_1.wr W23
    have E23_3 := E22_2.wr W23
    have F23_4 := C22.other W23 (Or.inl (Ne.symm nc_o20_22.1))
    have F23_5 := V22.other W23 (Or.inl (Ne.symm nc_o20_22.1))
    have F23_6 := F22_3.other W23 (Or.inl ne_s17_o20)
    have F23_7 := F22_4.other W23 (Or.inl ne_s17_o20)
    have F23_8 := F22_5.other W23 (Or.inl ne_s18_o20)
    have F23_9 := F22_6.other W23 (Or.inl ne_s18_o20)
    have F23_10 := F22_7.other W23 (Or.inl ne_s19_o20)
    have F23_11 := F22_8.other W23 (Or.inl ne_s19_o20)
    have Q23_12 := Safe.wr W23 Q22_9 RR22.1 Q22_9
    have V23_14 := B22.other W23 (Ne.symm nc_o20_22.2)
    have V23_15 := V22_11.other W23 ne_tv17_o20
    have V23_16 := V22_12.other W23 ne_tv18_o20
    have V23_17 := V22_13.other W23 ne_tv19_o20
    have K23 := K22.wr W23 (Or.inr le_o20)
    have RR23 := RR22.trans (CHr.wr W23 Q22_9 RR22.1)
    have hkS23 := Nat.le_trans hkS22 (Nat.le_of_eq W23.size.symm)
    have V23' : Arv Z h23 o20 k20 (.object "java/lang/String") (2 : Int32) [(.ref s17), (.ref c22)] .null := V23
    refine Go.st st23 ?_
    show Go p e below _ T23 (mkF m 112 #[.val (.int p1), .val (.int p2), .val (.int p3), .val (.int p4), .val (.int p5), .val (.int (1 : Int32)), .val (.int (own_key p2)), .val (.int (own_key p3)), .val (.int (own_key p4)), .val (.ref s17), .val (.ref s18), .val (.ref s19), .unset, .unset, .unset, .unset, .unset, .unset, .unset] [(.ref o20)])
    refine Go.st (fun _ h => XS.astore X23.here hx rfl (hb hby at_112) rfl rfl (l' := #[.val (.int p1), .val (.int p2), .val (.int p3), .val (.int p4), .val (.int p5), .val (.int (1 : Int32)), .val (.int (own_key p2)), .val (.int (own_key p3)), .val (.int (own_key p4)), .val (.ref s17), .val (.ref s18), .val (.ref s19), .val (.ref o20), .unset, .unset, .unset, .unset, .unset, .unset]) rfl h) ?_
    show Go p e below _ T23 (mkF m 114 #[.val (.int p1), .val (.int p2), .val (.int p3), .val (.int p4), .val (.int p5), .val (.int (1 : Int32)), .val (.int (own_key p2)), .val (.int (own_key p3)), .val (.int (own_key p4)), .val (.ref s17), .val (.ref s18), .val (.ref s19), .val (.ref o20), .unset, .unset, .unset, .unset, .unset, .unset] [])
    refine Go.st (fun _ h => XS.goto X23.here hx rfl (pc0 := 114) (pc' := 189) rfl (hb hby at_114) (by decide) (by decide) h) ?_
    show Go p e below _ T23 (mkF m 189 #[.val (.int p1), .val (.int p2), .val (.int p3), .val (.int p4), .val (.int p5), .val (.int (1 : Int32)), .val (.int (own_key p2)), .val (.int (own_key p3)), .val (.int (own_key p4)), .val (.ref s17), .val (.ref s18), .val (.ref s19), .val (.ref o20), .unset, .unset, .unset, .unset, .unset, .unset] [])
    refine Go.st (fun _ h => XS.iload X23.here hx rfl (hb hby at_189) rfl h) ?_
    show Go p e below _ T23 (mkF m 191 #[.val (.int p1), .val (.int p2), .val (.int p3), .val (.int p4), .val (.int p5), .val (.int (1 : Int32)), .val (.int (own_key p2)), .val (.int (own_key p3)), .val (.int (own_key p4)), .val (.ref s17), .val (.ref s18), .val (.ref s19), .val (.ref o20), .unset, .unset, .unset, .unset, .unset, .unset] [(.int p5)])
    refine Go.st (fun _ h => XT.iconstV X23.here hx rfl (3 : Int32) (hb hby at_191) (by decide) h) ?_
    show Go p e below _ T23 (mkF m 192 #[.val (.int p1), .val (.int p2), .val (.int p3), .val (.int p4), .val (.int p5), .val (.int (1 : Int32)), .val (.int (own_key p2)), .val (.int (own_key p3)), .val (.int (own_key p4)), .val (.ref s17), .val (.ref s18), .val (.ref s19), .val (.ref o20), .unset, .unset, .unset, .unset, .unset, .unset] [(.int (3 : Int32)), (.int p5)])
    refine Go.st (fun _ h => XS.iand X23.here hx rfl (hb hby at_192) rfl h) ?_
    show Go p e below _ T23 (mkF m 193 #[.val (.int p1), .val (.int p2), .val (.int p3), .val (.int p4), .val (.int p5), .val (.int (1 : Int32)), .val (.int (own_key p2)), .val (.int (own_key p3)), .val (.int (own_key p4)), .val (.ref s17), .val (.ref s18), .val (.ref s19), .val (.ref o20), .unset, .unset, .unset, .unset, .unset, .unset] [(.int (p5 &&& (3 : Int32)))])
    refine Go.st (fun _ h => XS.istore X23.here hx rfl (hb hby at_193) rfl (l' := #[.val (.int p1), .val (.int p2), .val (.int p3), .val (.int p4), .val (.int p5), .val (.int (1 : Int32)), .val (.int (own_key p2)), .val (.int (own_key p3)), .val (.int (own_key p4)), .val (.ref s17), .val (.ref s18), .val (.ref s19), .val (.ref o20), .val (.int (p5 &&& (3 : Int32))), .unset, .unset, .unset, .unset, .unset]) rfl h) ?_
    show Go p e below _ T23 (mkF m 195 #[.val (.int p1), .val (.int p2), .val (.int p3), .val (.int p4), .val (.int p5), .val (.int (1 : Int32)), .val (.int (own_key p2)), .val (.int (own_key p3)), .val (.int (own_key p4)), .val (.ref s17), .val (.ref s18), .val (.ref s19), .val (.ref o20), .val (.int (p5 &&& (3 : Int32))), .unset, .unset, .unset, .unset, .unset] [])
    have KK : ∀ z : Int32, Go p e below (EndsH Z consts_1 s room_1.cells room_1.slots (fun v h L => v = some (.int 1) ∧ Fr n0 L)) T23 (mkF m 236 #[.val (.int p1), .val (.int p2), .val (.int p3), .val (.int p4), .val (.int p5), .val (.int (1 : Int32)), .val (.int (own_key p2)), .val (.int (own_key p3)), .val (.int (own_key p4)), .val (.ref s17), .val (.ref s18), .val (.ref s19), .val (.ref o20), .val (.int (p5 &&& (3 : Int32))), .val (.int z), .unset, .unset, .unset, .unset] []) := by
      intro z
      refine Go.st (fun _ h => XS.iload X23.here hx rfl (hb hby at_236) rfl h) ?_
      show Go p e below _ T23 (mkF m 238 #[.val (.int p1), .val (.int p2), .val (.int p3), .val (.int p4), .val (.int p5), .val (.int (1 : Int32)), .val (.int (own_key p2)), .val (.int (own_key p3)), .val (.int (own_key p4)), .val (.ref s17), .val (.ref s18), .val (.ref s19), .val (.ref o20), .val (.int (p5 &&& (3 : Int32))), .val (.int z), .unset, .unset, .unset, .unset] [(.int z)])
      obtain ⟨_, T24, L24, X24, hZ, hown, hS, RR24, ⟨s24, tv24, kv24, rfl, Nc24, Kc24, lec24, Ec24, Cc24, Vc24, Bc24⟩, st24⟩ := DoesH.static (s := s) (y := (⟨"com/example/tenon/tenon/core/XmlElementDeclaredPinLaw", "mk", "(I)Ljava/lang/String;"⟩ : MethodName)) (g := (mkF m 238 #[.val (.int p1), .val (.int p2), .val (.int p3), .val (.int p4), .val (.int p5), .val (.int (1 : Int32)), .val (.int (own_key p2)), .val (.int (own_key p3)), .val (.int (own_key p4)), .val (.ref s17), .val (.ref s18), .val (.ref s19), .val (.ref o20), .val (.int (p5 &&& (3 : Int32))), .val (.int z), .unset, .unset, .unset, .unset] [(.int z)])) (rmMk l Z a0 hw hEL wS z h23 n0 (Nat.le_trans Z0 K23.1) zc (S_CS.ext (own_ext K23)) hzc) X23 hx hZ hown e23 hEL RR23 hS hkS23 (hw _ (List.mem_of_getElem? (i := 7) rfl)) (hw _ (List.mem_of_getElem? (i := 8) rfl)) (hw _ (List.mem_of_getElem? (i := 2) rfl)) (hw _ (List.mem_of_getElem? (i := 9) rfl)) (by decide) rfl (by rw [hml]; rfl) (argsL := [(.int z)]) (rest := []) (lenOf pd_28I29Ljava2flang2fString3b rfl) rfl (hb hby at_238) (W := 0) (by show 2 * 0 + _ ≤ _; exact Nat.le_of_eq rfl) (by decide) (by decide) (by decide) (by decide)
      have E24_0 := E23_0.keep Kc24
      have E24_1 := E23_1.keep Kc24
      have E24_2 := E23_2.keep Kc24
      have E24_3 := E23_3.keep Kc24
      have F24_4 := F23_4.keep Kc24 nin0
      have F24_5 := F23_5.keep Kc24 nin0
      have F24_6 := F23_6.keep Kc24 nin0
      have F24_7 := F23_7.keep Kc24 nin0
      have F24_8 := F23_8.keep Kc24 nin0
      have F24_9 := F23_9.keep Kc24 nin0
      have F24_10 := F23_10.keep Kc24 nin0
      have F24_11 := F23_11.keep Kc24 nin0
      have V24_13 := V23'.keep Kc24 nin0
      have V24_14 := V23_14.keep Kc24 nin0
      have V24_15 := V23_15.keep Kc24 nin0
      have V24_16 := V23_16.keep Kc24 nin0
      have V24_17 := V23_17.keep Kc24 nin0
      have K24 := K23.trans Kc24 all0
      have N24 := Fr.app N23 Nc24
      have ne_c22_s24 : c22 ≠ s24 := Nat.ne_of_lt (Nat.lt_of_lt_of_le E23_0.lt lec24)
      have ne_s17_s24 : s17 ≠ s24 := Nat.ne_of_lt (Nat.lt_of_lt_of_le E23_1.lt lec24)
      have ne_s18_s24 : s18 ≠ s24 := Nat.ne_of_lt (Nat.lt_of_lt_of_le E23_2.lt lec24)
      have ne_s19_s24 : s19 ≠ s24 := Nat.ne_of_lt (Nat.lt_of_lt_of_le E23_3.lt lec24)
      have ne_t22_s24 : t22 ≠ s24 := Nat.ne_of_lt (Nat.lt_of_lt_of_le V23_14.lt lec24)
      have ne_tv17_s24 : tv17 ≠ s24 := Nat.ne_of_lt (Nat.lt_of_lt_of_le V23_15.lt lec24)
      have ne_tv18_s24 : tv18 ≠ s24 := Nat.ne_of_lt (Nat.lt_of_lt_of_le V23_16.lt lec24)
      have ne_tv19_s24 : tv19 ≠ s24 := Nat.ne_of_lt (Nat.lt_of_lt_of_le V23_17.lt lec24)
      have ne_o20_s24 : o20 ≠ s24 := Nat.ne_of_lt (Nat.lt_of_lt_of_le V23'.lt lec24)
      refine Go.st st24 ?_
      show Go p e below _ T24 (mkF m 241 #[.val (.int p1), .val (.int p2), .val (.int p3), .val (.int p4), .val (.int p5), .val (.int (1 : Int32)), .val (.int (own_key p2)), .val (.int (own_key p3)), .val (.int (own_key p4)), .val (.ref s17), .val (.ref s18), .val (.ref s19), .val (.ref o20), .val (.int (p5 &&& (3 : Int32))), .val (.int z), .unset, .unset, .unset, .unset] [(.ref s24)])
      refine Go.st (fun _ h => XS.astore X24.here hx rfl (hb hby at_241) rfl rfl (l' := #[.val (.int p1), .val (.int p2), .val (.int p3), .val (.int p4), .val (.int p5), .val (.int (1 : Int32)), .val (.int (own_key p2)), .val (.int (own_key p3)), .val (.int (own_key p4)), .val (.ref s17), .val (.ref s18), .val (.ref s19), .val (.ref o20), .val (.int (p5 &&& (3 : Int32))), .val (.int z), .val (.ref s24), .unset, .unset, .unset]) rfl h) ?_
      show Go p e below _ T24 (mkF m 243 #[.val (.int p1), .val (.int p2), .val (.int p3), .val (.int p4), .val (.int p5), .val (.int (1 : Int32)), .val (.int (own_key p2)), .val (.int (own_key p3)), .val (.int (own_key p4)), .val (.ref s17), .val (.ref s18), .val (.ref s19), .val (.ref o20), .val (.int (p5 &&& (3 : Int32))), .val (.int z), .val (.ref s24), .unset, .unset, .unset] [])
      refine Go.st (fun _ h => XS.iload X24.here hx rfl (hb hby at_243) rfl h) ?_
      show Go p e below _ T24 (mkF m 245 #[.val (.int p1), .val (.int p2), .val (.int p3), .val (.int p4), .val (.int p5), .val (.int (1 : Int32)), .val (.int (own_key p2)), .val (.int (own_key p3)), .val (.int (own_key p4)), .val (.ref s17), .val (.ref s18), .val (.ref s19), .val (.ref o20), .val (.int (p5 &&& (3 : Int32))), .val (.int z), .val (.ref s24), .unset, .unset, .unset] [(.int z)])
      obtain ⟨T25, X25, e25, st25⟩ := own_still rfl rfl (Does.static (y := (⟨"com/example/tenon/tenon/core/XmlElementDeclaredPinLaw", "key", "(I)I"⟩ : MethodName)) (g := (mkF m 245 #[.val (.int p1), .val (.int p2), .val (.int p3), .val (.int p4), .val (.int p5), .val (.int (1 : Int32)), .val (.int (own_key p2)), .val (.int (own_key p3)), .val (.int (own_key p4)), .val (.ref s17), .val (.ref s18), .val (.ref s19), .val (.ref o20), .val (.int (p5 &&& (3 : Int32))), .val (.int z), .val (.ref s24), .unset, .unset, .unset] [(.int z)])) (rmKey l Z a0 hw z T24.heap) X24 hx hZ hown rfl (hw _ (List.mem_of_getElem? (i := 0) rfl)) (hw _ (List.mem_of_getElem? (i := 1) rfl)) (hw _ (List.mem_of_getElem? (i := 2) rfl)) (hw _ (List.mem_of_getElem? (i := 3) rfl)) (by decide) rfl (by rw [hml]; rfl) (argsL := [(.int z)]) (rest := []) (lenOf pd_28I29I rfl) rfl (hb hby at_245) (W := 0) (by show 2 * 0 + _ ≤ _; exact Nat.le_of_eq rfl) (by decide) (by decide) (by decide) (by decide))
      refine Go.st st25 ?_
      show Go p e below _ T25 (mkF m 248 #[.val (.int p1), .val (.int p2), .val (.int p3), .val (.int p4), .val (.int p5), .val (.int (1 : Int32)), .val (.int (own_key p2)), .val (.int (own_key p3)), .val (.int (own_key p4)), .val (.ref s17), .val (.ref s18), .val (.ref s19), .val (.ref o20), .val (.int (p5 &&& (3 : Int32))), .val (.int z), .val (.ref s24), .unset, .unset, .unset] [(.int (own_key z))])
      refine Go.st (fun _ h => XS.istore X25.here hx rfl (hb hby at_248) rfl (l' := #[.val (.int p1), .val (.int p2), .val (.int p3), .val (.int p4), .val (.int p5), .val (.int (1 : Int32)), .val (.int (own_key p2)), .val (.int (own_key p3)), .val (.int (own_key p4)), .val (.ref s17), .val (.ref s18), .val (.ref s19), .val (.ref o20), .val (.int (p5 &&& (3 : Int32))), .val (.int z), .val (.ref s24), .val (.int (own_key z)), .unset, .unset]) rfl h) ?_
      show Go p e below _ T25 (mkF m 250 #[.val (.int p1), .val (.int p2), .val (.int p3), .val (.int p4), .val (.int p5), .val (.int (1 : Int32)), .val (.int (own_key p2)), .val (.int (own_key p3)), .val (.int (own_key p4)), .val (.ref s17), .val (.ref s18), .val (.ref s19), .val (.ref o20), .val (.int (p5 &&& (3 : Int32))), .val (.int z), .val (.ref s24), .val (.int (own_key z)), .unset, .unset] [])
      refine Go.st (fun _ h => XS.aconstNull X25.here hx rfl (hb hby at_250) h) ?_
      show Go p e below _ T25 (mkF m 251 #[.val (.int p1), .val (.int p2), .val (.int p3), .val (.int p4), .val (.int p5), .val (.int (1 : Int32)), .val (.int (own_key p2)), .val (.int (own_key p3)), .val (.int (own_key p4)), .val (.ref s17), .val (.ref s18), .val (.ref s19), .val (.ref o20), .val (.int (p5 &&& (3 : Int32))), .val (.int z), .val (.ref s24), .val (.int (own_key z)), .unset, .unset] [.null])
      refine Go.st (fun _ h => XS.astore X25.here hx rfl (hb hby at_251) rfl rfl (l' := #[.val (.int p1), .val (.int p2), .val (.int p3), .val (.int p4), .val (.int p5), .val (.int (1 : Int32)), .val (.int (own_key p2)), .val (.int (own_key p3)), .val (.int (own_key p4)), .val (.ref s17), .val (.ref s18), .val (.ref s19), .val (.ref o20), .val (.int (p5 &&& (3 : Int32))), .val (.int z), .val (.ref s24), .val (.int (own_key z)), .val .null, .unset]) rfl h) ?_
      show Go p e below _ T25 (mkF m 253 #[.val (.int p1), .val (.int p2), .val (.int p3), .val (.int p4), .val (.int p5), .val (.int (1 : Int32)), .val (.int (own_key p2)), .val (.int (own_key p3)), .val (.int (own_key p4)), .val (.ref s17), .val (.ref s18), .val (.ref s19), .val (.ref o20), .val (.int (p5 &&& (3 : Int32))), .val (.int z), .val (.ref s24), .val (.int (own_key z)), .val .null, .unset] [])
      refine Go.st (fun _ h => XS.iload X25.here hx rfl (hb hby at_253) rfl h) ?_
      show Go p e below _ T25 (mkF m 255 #[.val (.int p1), .val (.int p2), .val (.int p3), .val (.int p4), .val (.int p5), .val (.int (1 : Int32)), .val (.int (own_key p2)), .val (.int (own_key p3)), .val (.int (own_key p4)), .val (.ref s17), .val (.ref s18), .val (.ref s19), .val (.ref o20), .val (.int (p5 &&& (3 : Int32))), .val (.int z), .val (.ref s24), .val (.int (own_key z)), .val .null, .unset] [(.int (1 : Int32))])
      refine Go.st (fun _ h => XT.iconstV X25.here hx rfl (1 : Int32) (hb hby at_255) (by decide) h) ?_
      show Go p e below _ T25 (mkF m 256 #[.val (.int p1), .val (.int p2), .val (.int p3), .val (.int p4), .val (.int p5), .val (.int (1 : Int32)), .val (.int (own_key p2)), .val (.int (own_key p3)), .val (.int (own_key p4)), .val (.ref s17), .val (.ref s18), .val (.ref s19), .val (.ref o20), .val (.int (p5 &&& (3 : Int32))), .val (.int z), .val (.ref s24), .val (.int (own_key z)), .val .null, .unset] [(.int (1 : Int32)), (.int (1 : Int32))])
      refine Go.st (fun _ h => XS.icmpNo X25.here hx rfl (hb hby at_256) rfl (by decide) h) ?_
      show Go p e below _ T25 (mkF m 259 #[.val (.int p1), .val (.int p2), .val (.int p3), .val (.int p4), .val (.int p5), .val (.int (1 : Int32)), .val (.int (own_key p2)), .val (.int (own_key p3)), .val (.int (own_key p4)), .val (.ref s17), .val (.ref s18), .val (.ref s19), .val (.ref o20), .val (.int (p5 &&& (3 : Int32))), .val (.int z), .val (.ref s24), .val (.int (own_key z)), .val .null, .unset] [])
      refine Go.st (fun _ h => XS.iload X25.here hx rfl (hb hby at_259) rfl h) ?_
      show Go p e below _ T25 (mkF m 261 #[.val (.int p1), .val (.int p2), .val (.int p3), .val (.int p4), .val (.int p5), .val (.int (1 : Int32)), .val (.int (own_key p2)), .val (.int (own_key p3)), .val (.int (own_key p4)), .val (.ref s17), .val (.ref s18), .val (.ref s19), .val (.ref o20), .val (.int (p5 &&& (3 : Int32))), .val (.int z), .val (.ref s24), .val (.int (own_key z)), .val .null, .unset] [(.int (own_key z))])
      refine Go.st (fun _ h => XS.iload X25.here hx rfl (hb hby at_261) rfl h) ?_
      show Go p e below _ T25 (mkF m 263 #[.val (.int p1), .val (.int p2), .val (.int p3), .val (.int p4), .val (.int p5), .val (.int (1 : Int32)), .val (.int (own_key p2)), .val (.int (own_key p3)), .val (.int (own_key p4)), .val (.ref s17), .val (.ref s18), .val (.ref s19), .val (.ref o20), .val (.int (p5 &&& (3 : Int32))), .val (.int z), .val (.ref s24), .val (.int (own_key z)), .val .null, .unset] [(.int (own_key p2)), (.int (own_key z))])
      by_cases hc26 : (own_key z) = (own_key p2)
      · refine Go.st (fun _ h => XS.icmpNo X25.here hx rfl (hb hby at_263) rfl ((teq hc26).2) h) ?_
        show Go p e below _ T25 (mkF m 266 #[.val (.int p1), .val (.int p2), .val (.int p3), .val (.int p4), .val (.int p5), .val (.int (1 : Int32)), .val (.int (own_key p2)), .val (.int (own_key p3)), .val (.int (own_key p4)), .val (.ref s17), .val (.ref s18), .val (.ref s19), .val (.ref o20), .val (.int (p5 &&& (3 : Int32))), .val (.int z), .val (.ref s24), .val (.int (own_key z)), .val .null, .unset] [])
        obtain ⟨c27, T27, h27, k27, t27, q27, X27, e27, E27, hS, hkS27, hZ, hown, A27, C27, V27, B27, lt27, lu27, CC27, -, nc27, st27⟩ := ldcCH (s := s) X25 hx hZ hown (hw _ (List.mem_of_getElem? (i := 48) rfl)) wS e25 hS (Nat.le_refl _) hEL (List.mem_of_getElem? (i := 0) rfl) RR24.1 (vs := [(.int (117 : Int32)), (.int (48 : Int32))]) (z := (2 : Int32)) ⟨by decide, by decide⟩ (by decide) (by decide) (g := (mkF m 266 #[.val (.int p1), .val (.int p2), .val (.int p3), .val (.int p4), .val (.int p5), .val (.int (1 : Int32)), .val (.int (own_key p2)), .val (.int (own_key p3)), .val (.int (own_key p4)), .val (.ref s17), .val (.ref s18), .val (.ref s19), .val (.ref o20), .val (.int (p5 &&& (3 : Int32))), .val (.int z), .val (.ref s24), .val (.int (own_key z)), .val .null, .unset] [])) rfl (hb hby at_266) (n := 8) (by decide) (by decide) (by decide) (by decide)
        have E27_0 := E24_0.ext E27
        have E27_1 := E24_1.ext E27
        have E27_2 := E24_2.ext E27
        have E27_3 := E24_3.ext E27
        have E27_4 := Ec24.ext E27
        have F27_5 := F24_4.ext E27
        have F27_6 := F24_5.ext E27
        have F27_7 := F24_6.ext E27
        have F27_8 := F24_7.ext E27
        have F27_9 := F24_8.ext E27
        have F27_10 := F24_9.ext E27
        have F27_11 := F24_10.ext E27
        have F27_12 := F24_11.ext E27
        have F27_13 := Cc24.ext E27
        have F27_14 := Vc24.ext E27
        have V27_15 := V24_13.ext E27
        have V27_16 := V24_14.ext E27
        have V27_17 := V24_15.ext E27
        have V27_18 := V24_16.ext E27
        have V27_19 := V24_17.ext E27
        have V27_20 := Bc24.ext E27
        have K27 := K24.ext E27
        have RR27 := RR24.trans CC27
        refine Go.st st27 ?_
        show Go p e below _ T27 (mkF m 268 #[.val (.int p1), .val (.int p2), .val (.int p3), .val (.int p4), .val (.int p5), .val (.int (1 : Int32)), .val (.int (own_key p2)), .val (.int (own_key p3)), .val (.int (own_key p4)), .val (.ref s17), .val (.ref s18), .val (.ref s19), .val (.ref o20), .val (.int (p5 &&& (3 : Int32))), .val (.int z), .val (.ref s24), .val (.int (own_key z)), .val .null, .unset] [(.ref c27)])
        refine Go.st (fun _ h => XS.astore X27.here hx rfl (hb hby at_268) rfl rfl (l' := #[.val (.int p1), .val (.int p2), .val (.int p3), .val (.int p4), .val (.int p5), .val (.int (1 : Int32)), .val (.int (own_key p2)), .val (.int (own_key p3)), .val (.int (own_key p4)), .val (.ref s17), .val (.ref s18), .val (.ref s19), .val (.ref o20), .val (.int (p5 &&& (3 : Int32))), .val (.int z), .val (.ref s24), .val (.int (own_key z)), .val (.ref c27), .unset]) rfl h) ?_
        show Go p e below _ T27 (mkF m 270 #[.val (.int p1), .val (.int p2), .val (.int p3), .val (.int p4), .val (.int p5), .val (.int (1 : Int32)), .val (.int (own_key p2)), .val (.int (own_key p3)), .val (.int (own_key p4)), .val (.ref s17), .val (.ref s18), .val (.ref s19), .val (.ref o20), .val (.int (p5 &&& (3 : Int32))), .val (.int z), .val (.ref s24), .val (.int (own_key z)), .val (.ref c27), .unset] [])
        refine Go.st (fun _ h => XS.goto X27.here hx rfl (pc0 := 270) (pc' := 310) rfl (hb hby at_270) (by decide) (by decide) h) ?_
        show Go p e below _ T27 (mkF m 310 #[.val (.int p1), .val (.int p2), .val (.int p3), .val (.int p4), .val (.int p5), .val (.int (1 : Int32)), .val (.int (own_key p2)), .val (.int (own_key p3)), .val (.int (own_key p4)), .val (.ref s17), .val (.ref s18), .val (.ref s19), .val (.ref o20), .val (.int (p5 &&& (3 : Int32))), .val (.int z), .val (.ref s24), .val (.int (own_key z)), .val (.ref c27), .unset] [])
        refine Go.st (fun _ h => XS.aload X27.here hx rfl (hb hby at_310) rfl rfl h) ?_
        show Go p e below _ T27 (mkF m 312 #[.val (.int p1), .val (.int p2), .val (.int p3), .val (.int p4), .val (.int p5), .val (.int (1 : Int32)), .val (.int (own_key p2)), .val (.int (own_key p3)), .val (.int (own_key p4)), .val (.ref s17), .val (.ref s18), .val (.ref s19), .val (.ref o20), .val (.int (p5 &&& (3 : Int32))), .val (.int z), .val (.ref s24), .val (.int (own_key z)), .val (.ref c27), .unset] [(.ref o20)])
        refine Go.st (fun _ h => XS.aload X27.here hx rfl (hb hby at_312) rfl rfl h) ?_
        show Go p e below _ T27 (mkF m 314 #[.val (.int p1), .val (.int p2), .val (.int p3), .val (.int p4), .val (.int p5), .val (.int (1 : Int32)), .val (.int (own_key p2)), .val (.int (own_key p3)), .val (.int (own_key p4)), .val (.ref s17), .val (.ref s18), .val (.ref s19), .val (.ref o20), .val (.int (p5 &&& (3 : Int32))), .val (.int z), .val (.ref s24), .val (.int (own_key z)), .val (.ref c27), .unset] [(.ref s24), (.ref o20)])
        obtain ⟨T28, X28, e28, st28⟩ := own_still rfl rfl (Does.static (y := (⟨"com/example/tenon/tenon/core/XmlElement", "declared", "([Ljava/lang/String;Ljava/lang/String;)Ljava/lang/String;"⟩ : MethodName)) (g := (mkF m 314 #[.val (.int p1), .val (.int p2), .val (.int p3), .val (.int p4), .val (.int p5), .val (.int (1 : Int32)), .val (.int (own_key p2)), .val (.int (own_key p3)), .val (.int (own_key p4)), .val (.ref s17), .val (.ref s18), .val (.ref s19), .val (.ref o20), .val (.int (p5 &&& (3 : Int32))), .val (.int z), .val (.ref s24), .val (.int (own_key z)), .val (.ref c27), .unset] [(.ref s24), (.ref o20)])) (rmDecl1_0 l Z a0 hw o20 s24 tv24 k20 kv24 (own_str z) (own_str2 _) s17 c22 tv17 kv17 (own_str p2) (own_str2 _) ne_s17_s24 h27 E27_4 F27_13 F27_14 V27_20 E27_1 F27_7 F27_8 V27_17 V27_15 zc (S_CS.ext (own_ext K27)) hzc (own_inj.mp hc26).symm) X27 hx hZ hown e27 (hw _ (List.mem_of_getElem? (i := 41) rfl)) (hw _ (List.mem_of_getElem? (i := 42) rfl)) (hw _ (List.mem_of_getElem? (i := 43) rfl)) (hw _ (List.mem_of_getElem? (i := 44) rfl)) (by decide) rfl (by rw [hml]; rfl) (argsL := [(.ref o20), (.ref s24)]) (rest := []) (lenOf pd_285bLjava2flang2fString3bLjava2flang2fString3b29Ljava2flang2fString3b rfl) rfl (hb hby at_314) (W := 0) (by show 2 * 0 + _ ≤ _; exact Nat.le_of_eq rfl) (by decide) (by decide) (by decide) (by decide))
        refine Go.st st28 ?_
        show Go p e below _ T28 (mkF m 317 #[.val (.int p1), .val (.int p2), .val (.int p3), .val (.int p4), .val (.int p5), .val (.int (1 : Int32)), .val (.int (own_key p2)), .val (.int (own_key p3)), .val (.int (own_key p4)), .val (.ref s17), .val (.ref s18), .val (.ref s19), .val (.ref o20), .val (.int (p5 &&& (3 : Int32))), .val (.int z), .val (.ref s24), .val (.int (own_key z)), .val (.ref c27), .unset] [(.ref c22)])
        refine Go.st (fun _ h => XS.astore X28.here hx rfl (hb hby at_317) rfl rfl (l' := #[.val (.int p1), .val (.int p2), .val (.int p3), .val (.int p4), .val (.int p5), .val (.int (1 : Int32)), .val (.int (own_key p2)), .val (.int (own_key p3)), .val (.int (own_key p4)), .val (.ref s17), .val (.ref s18), .val (.ref s19), .val (.ref o20), .val (.int (p5 &&& (3 : Int32))), .val (.int z), .val (.ref s24), .val (.int (own_key z)), .val (.ref c27), .val (.ref c22)]) rfl h) ?_
        show Go p e below _ T28 (mkF m 319 #[.val (.int p1), .val (.int p2), .val (.int p3), .val (.int p4), .val (.int p5), .val (.int (1 : Int32)), .val (.int (own_key p2)), .val (.int (own_key p3)), .val (.int (own_key p4)), .val (.ref s17), .val (.ref s18), .val (.ref s19), .val (.ref o20), .val (.int (p5 &&& (3 : Int32))), .val (.int z), .val (.ref s24), .val (.int (own_key z)), .val (.ref c27), .val (.ref c22)] [])
        refine Go.st (fun _ h => XS.aload X28.here hx rfl (hb hby at_319) rfl rfl h) ?_
        show Go p e below _ T28 (mkF m 321 #[.val (.int p1), .val (.int p2), .val (.int p3), .val (.int p4), .val (.int p5), .val (.int (1 : Int32)), .val (.int (own_key p2)), .val (.int (own_key p3)), .val (.int (own_key p4)), .val (.ref s17), .val (.ref s18), .val (.ref s19), .val (.ref o20), .val (.int (p5 &&& (3 : Int32))), .val (.int z), .val (.ref s24), .val (.int (own_key z)), .val (.ref c27), .val (.ref c22)] [(.ref c27)])
        refine Go.st (fun _ h => XT.ifnonnullYes X28.here hx rfl (pc0 := 321) (pc' := 335) rfl (hb hby at_321) rfl (by decide) (by decide) h) ?_
        show Go p e below _ T28 (mkF m 335 #[.val (.int p1), .val (.int p2), .val (.int p3), .val (.int p4), .val (.int p5), .val (.int (1 : Int32)), .val (.int (own_key p2)), .val (.int (own_key p3)), .val (.int (own_key p4)), .val (.ref s17), .val (.ref s18), .val (.ref s19), .val (.ref o20), .val (.int (p5 &&& (3 : Int32))), .val (.int z), .val (.ref s24), .val (.int (own_key z)), .val (.ref c27), .val (.ref c22)] [])
        refine Go.st (fun _ h => XS.aload X28.here hx rfl (hb hby at_335) rfl rfl h) ?_
        show Go p e below _ T28 (mkF m 337 #[.val (.int p1), .val (.int p2), .val (.int p3), .val (.int p4), .val (.int p5), .val (.int (1 : Int32)), .val (.int (own_key p2)), .val (.int (own_key p3)), .val (.int (own_key p4)), .val (.ref s17), .val (.ref s18), .val (.ref s19), .val (.ref o20), .val (.int (p5 &&& (3 : Int32))), .val (.int z), .val (.ref s24), .val (.int (own_key z)), .val (.ref c27), .val (.ref c22)] [(.ref c27)])
        refine Go.st (fun _ h => XS.aload X28.here hx rfl (hb hby at_337) rfl rfl h) ?_
        show Go p e below _ T28 (mkF m 339 #[.val (.int p1), .val (.int p2), .val (.int p3), .val (.int p4), .val (.int p5), .val (.int (1 : Int32)), .val (.int (own_key p2)), .val (.int (own_key p3)), .val (.int (own_key p4)), .val (.ref s17), .val (.ref s18), .val (.ref s19), .val (.ref o20), .val (.int (p5 &&& (3 : Int32))), .val (.int z), .val (.ref s24), .val (.int (own_key z)), .val (.ref c27), .val (.ref c22)] [(.ref c22), (.ref c27)])
        obtain ⟨T29, X29, e29, st29⟩ := own_still rfl rfl (Does.virtual (y := (⟨"java/lang/String", "equals", "(Ljava/lang/Object;)Z"⟩ : MethodName)) (g := (mkF m 339 #[.val (.int p1), .val (.int p2), .val (.int p3), .val (.int p4), .val (.int p5), .val (.int (1 : Int32)), .val (.int (own_key p2)), .val (.int (own_key p3)), .val (.int (own_key p4)), .val (.ref s17), .val (.ref s18), .val (.ref s19), .val (.ref o20), .val (.int (p5 &&& (3 : Int32))), .val (.int z), .val (.ref s24), .val (.int (own_key z)), .val (.ref c27), .val (.ref c22)] [(.ref c22), (.ref c27)])) (a := c27) (rmEq_u0 l Z a0 hw c27 c22 t27 t22 q27 q22 h27 A27 C27 V27 E27_0 F27_5 F27_6 B27 V27_16 zc (S_CS.ext (own_ext K27)) hzc) X28 hx hZ hown e28 A27 (hw _ (List.mem_of_getElem? (i := 61) rfl)) (hw _ (List.mem_of_getElem? (i := 52) rfl)) (hw _ (List.mem_of_getElem? (i := 54) rfl)) (hw _ (List.mem_of_getElem? (i := 53) rfl)) (hw _ (List.mem_of_getElem? (i := 12) rfl)) (hw _ (List.mem_of_getElem? (i := 55) rfl)) (by decide) rfl (by rw [hml]; rfl) (argsL := [(.ref c22)]) (rest := []) (lenOf pd_28Ljava2flang2fObject3b29Z rfl) rfl (hb hby at_339) (W := 0) (by show 2 * 0 + _ ≤ _; exact Nat.le_of_eq rfl) (by decide) (by decide) (by decide) (by decide))
        refine Go.st st29 ?_
        show Go p e below _ T29 (mkF m 342 #[.val (.int p1), .val (.int p2), .val (.int p3), .val (.int p4), .val (.int p5), .val (.int (1 : Int32)), .val (.int (own_key p2)), .val (.int (own_key p3)), .val (.int (own_key p4)), .val (.ref s17), .val (.ref s18), .val (.ref s19), .val (.ref o20), .val (.int (p5 &&& (3 : Int32))), .val (.int z), .val (.ref s24), .val (.int (own_key z)), .val (.ref c27), .val (.ref c22)] [(.int (1 : Int32))])
        refine Go.retH X29 hx hlk hZ hEL RR27 e29 hS hkS27 hret rfl (Or.inl ⟨rfl, Or.inr (Or.inl rfl), _, rfl⟩) (hb hby at_342) (by decide) (by decide) ?_
        exact ⟨rfl, N24⟩
      · refine Go.st (fun _ h => XS.icmpYes X25.here hx rfl (pc0 := 263) (pc' := 273) rfl (hb hby at_263) rfl ((feq hc26).2) (by decide) (by decide) h) ?_
        show Go p e below _ T25 (mkF m 273 #[.val (.int p1), .val (.int p2), .val (.int p3), .val (.int p4), .val (.int p5), .val (.int (1 : Int32)), .val (.int (own_key p2)), .val (.int (own_key p3)), .val (.int (own_key p4)), .val (.ref s17), .val (.ref s18), .val (.ref s19), .val (.ref o20), .val (.int (p5 &&& (3 : Int32))), .val (.int z), .val (.ref s24), .val (.int (own_key z)), .val .null, .unset] [])
        refine Go.st (fun _ h => XS.iload X25.here hx rfl (hb hby at_273) rfl h) ?_
        show Go p e below _ T25 (mkF m 275 #[.val (.int p1), .val (.int p2), .val (.int p3), .val (.int p4), .val (.int p5), .val (.int (1 : Int32)), .val (.int (own_key p2)), .val (.int (own_key p3)), .val (.int (own_key p4)), .val (.ref s17), .val (.ref s18), .val (.ref s19), .val (.ref o20), .val (.int (p5 &&& (3 : Int32))), .val (.int z), .val (.ref s24), .val (.int (own_key z)), .val .null, .unset] [(.int (1 : Int32))])
        refine Go.st (fun _ h => XT.iconstV X25.here hx rfl (2 : Int32) (hb hby at_275) (by decide) h) ?_
        show Go p e below _ T25 (mkF m 276 #[.val (.int p1), .val (.int p2), .val (.int p3), .val (.int p4), .val (.int p5), .val (.int (1 : Int32)), .val (.int (own_key p2)), .val (.int (own_key p3)), .val (.int (own_key p4)), .val (.ref s17), .val (.ref s18), .val (.ref s19), .val (.ref o20), .val (.int (p5 &&& (3 : Int32))), .val (.int z), .val (.ref s24), .val (.int (own_key z)), .val .null, .unset] [(.int (2 : Int32)), (.int (1 : Int32))])
        refine Go.st (fun _ h => XS.icmpYes X25.here hx rfl (pc0 := 276) (pc' := 293) rfl (hb hby at_276) rfl (by decide) (by decide) (by decide) h) ?_
        show Go p e below _ T25 (mkF m 293 #[.val (.int p1), .val (.int p2), .val (.int p3), .val (.int p4), .val (.int p5), .val (.int (1 : Int32)), .val (.int (own_key p2)), .val (.int (own_key p3)), .val (.int (own_key p4)), .val (.ref s17), .val (.ref s18), .val (.ref s19), .val (.ref o20), .val (.int (p5 &&& (3 : Int32))), .val (.int z), .val (.ref s24), .val (.int (own_key z)), .val .null, .unset] [])
        refine Go.st (fun _ h => XS.iload X25.here hx rfl (hb hby at_293) rfl h) ?_
        show Go p e below _ T25 (mkF m 295 #[.val (.int p1), .val (.int p2), .val (.int p3), .val (.int p4), .val (.int p5), .val (.int (1 : Int32)), .val (.int (own_key p2)), .val (.int (own_key p3)), .val (.int (own_key p4)), .val (.ref s17), .val (.ref s18), .val (.ref s19), .val (.ref o20), .val (.int (p5 &&& (3 : Int32))), .val (.int z), .val (.ref s24), .val (.int (own_key z)), .val .null, .unset] [(.int (1 : Int32))])
        refine Go.st (fun _ h => XT.iconstV X25.here hx rfl (3 : Int32) (hb hby at_295) (by decide) h) ?_
        show Go p e below _ T25 (mkF m 296 #[.val (.int p1), .val (.int p2), .val (.int p3), .val (.int p4), .val (.int p5), .val (.int (1 : Int32)), .val (.int (own_key p2)), .val (.int (own_key p3)), .val (.int (own_key p4)), .val (.ref s17), .val (.ref s18), .val (.ref s19), .val (.ref o20), .val (.int (p5 &&& (3 : Int32))), .val (.int z), .val (.ref s24), .val (.int (own_key z)), .val .null, .unset] [(.int (3 : Int32)), (.int (1 : Int32))])
        refine Go.st (fun _ h => XS.icmpYes X25.here hx rfl (pc0 := 296) (pc' := 310) rfl (hb hby at_296) rfl (by decide) (by decide) (by decide) h) ?_
        show Go p e below _ T25 (mkF m 310 #[.val (.int p1), .val (.int p2), .val (.int p3), .val (.int p4), .val (.int p5), .val (.int (1 : Int32)), .val (.int (own_key p2)), .val (.int (own_key p3)), .val (.int (own_key p4)), .val (.ref s17), .val (.ref s18), .val (.ref s19), .val (.ref o20), .val (.int (p5 &&& (3 : Int32))), .val (.int z), .val (.ref s24), .val (.int (own_key z)), .val .null, .unset] [])
        refine Go.st (fun _ h => XS.aload X25.here hx rfl (hb hby at_310) rfl rfl h) ?_
        show Go p e below _ T25 (mkF m 312 #[.val (.int p1), .val (.int p2), .val (.int p3), .val (.int p4), .val (.int p5), .val (.int (1 : Int32)), .val (.int (own_key p2)), .val (.int (own_key p3)), .val (.int (own_key p4)), .val (.ref s17), .val (.ref s18), .val (.ref s19), .val (.ref o20), .val (.int (p5 &&& (3 : Int32))), .val (.int z), .val (.ref s24), .val (.int (own_key z)), .val .null, .unset] [(.ref o20)])
        refine Go.st (fun _ h => XS.aload X25.here hx rfl (hb hby at_312) rfl rfl h) ?_
        show Go p e below _ T25 (mkF m 314 #[.val (.int p1), .val (.int p2), .val (.int p3), .val (.int p4), .val (.int p5), .val (.int (1 : Int32)), .val (.int (own_key p2)), .val (.int (own_key p3)), .val (.int (own_key p4)), .val (.ref s17), .val (.ref s18), .val (.ref s19), .val (.ref o20), .val (.int (p5 &&& (3 : Int32))), .val (.int z), .val (.ref s24), .val (.int (own_key z)), .val .null, .unset] [(.ref s24), (.ref o20)])
        obtain ⟨T30, X30, e30, st30⟩ := own_still rfl rfl (Does.static (y := (⟨"com/example/tenon/tenon/core/XmlElement", "declared", "([Ljava/lang/String;Ljava/lang/String;)Ljava/lang/String;"⟩ : MethodName)) (g := (mkF m 314 #[.val (.int p1), .val (.int p2), .val (.int p3), .val (.int p4), .val (.int p5), .val (.int (1 : Int32)), .val (.int (own_key p2)), .val (.int (own_key p3)), .val (.int (own_key p4)), .val (.ref s17), .val (.ref s18), .val (.ref s19), .val (.ref o20), .val (.int (p5 &&& (3 : Int32))), .val (.int z), .val (.ref s24), .val (.int (own_key z)), .val .null, .unset] [(.ref s24), (.ref o20)])) (rmDecl1_n l Z a0 hw o20 s24 tv24 k20 kv24 (own_str z) (own_str2 _) s17 c22 tv17 kv17 (own_str p2) (own_str2 _) ne_s17_s24 T24.heap Ec24 Cc24 Vc24 Bc24 E24_1 F24_6 F24_7 V24_15 V24_13 zc (S_CS.ext (own_ext K24)) hzc (fun q => hc26 (own_inj.mpr q.symm))) X25 hx hZ hown e25 (hw _ (List.mem_of_getElem? (i := 41) rfl)) (hw _ (List.mem_of_getElem? (i := 42) rfl)) (hw _ (List.mem_of_getElem? (i := 43) rfl)) (hw _ (List.mem_of_getElem? (i := 44) rfl)) (by decide) rfl (by rw [hml]; rfl) (argsL := [(.ref o20), (.ref s24)]) (rest := []) (lenOf pd_285bLjava2flang2fString3bLjava2flang2fString3b29Ljava2flang2fString3b rfl) rfl (hb hby at_314) (W := 0) (by show 2 * 0 + _ ≤ _; exact Nat.le_of_eq rfl) (by decide) (by decide) (by decide) (by decide))
        refine Go.st st30 ?_
        show Go p e below _ T30 (mkF m 317 #[.val (.int p1), .val (.int p2), .val (.int p3), .val (.int p4), .val (.int p5), .val (.int (1 : Int32)), .val (.int (own_key p2)), .val (.int (own_key p3)), .val (.int (own_key p4)), .val (.ref s17), .val (.ref s18), .val (.ref s19), .val (.ref o20), .val (.int (p5 &&& (3 : Int32))), .val (.int z), .val (.ref s24), .val (.int (own_key z)), .val .null, .unset] [.null])
        refine Go.st (fun _ h => XS.astore X30.here hx rfl (hb hby at_317) rfl rfl (l' := #[.val (.int p1), .val (.int p2), .val (.int p3), .val (.int p4), .val (.int p5), .val (.int (1 : Int32)), .val (.int (own_key p2)), .val (.int (own_key p3)), .val (.int (own_key p4)), .val (.ref s17), .val (.ref s18), .val (.ref s19), .val (.ref o20), .val (.int (p5 &&& (3 : Int32))), .val (.int z), .val (.ref s24), .val (.int (own_key z)), .val .null, .val .null]) rfl h) ?_
        show Go p e below _ T30 (mkF m 319 #[.val (.int p1), .val (.int p2), .val (.int p3), .val (.int p4), .val (.int p5), .val (.int (1 : Int32)), .val (.int (own_key p2)), .val (.int (own_key p3)), .val (.int (own_key p4)), .val (.ref s17), .val (.ref s18), .val (.ref s19), .val (.ref o20), .val (.int (p5 &&& (3 : Int32))), .val (.int z), .val (.ref s24), .val (.int (own_key z)), .val .null, .val .null] [])
        refine Go.st (fun _ h => XS.aload X30.here hx rfl (hb hby at_319) rfl rfl h) ?_
        show Go p e below _ T30 (mkF m 321 #[.val (.int p1), .val (.int p2), .val (.int p3), .val (.int p4), .val (.int p5), .val (.int (1 : Int32)), .val (.int (own_key p2)), .val (.int (own_key p3)), .val (.int (own_key p4)), .val (.ref s17), .val (.ref s18), .val (.ref s19), .val (.ref o20), .val (.int (p5 &&& (3 : Int32))), .val (.int z), .val (.ref s24), .val (.int (own_key z)), .val .null, .val .null] [.null])
        refine Go.st (fun _ h => XT.ifnonnullNo X30.here hx rfl (hb hby at_321) rfl h) ?_
        show Go p e below _ T30 (mkF m 324 #[.val (.int p1), .val (.int p2), .val (.int p3), .val (.int p4), .val (.int p5), .val (.int (1 : Int32)), .val (.int (own_key p2)), .val (.int (own_key p3)), .val (.int (own_key p4)), .val (.ref s17), .val (.ref s18), .val (.ref s19), .val (.ref o20), .val (.int (p5 &&& (3 : Int32))), .val (.int z), .val (.ref s24), .val (.int (own_key z)), .val .null, .val .null] [])
        refine Go.st (fun _ h => XS.aload X30.here hx rfl (hb hby at_324) rfl rfl h) ?_
        show Go p e below _ T30 (mkF m 326 #[.val (.int p1), .val (.int p2), .val (.int p3), .val (.int p4), .val (.int p5), .val (.int (1 : Int32)), .val (.int (own_key p2)), .val (.int (own_key p3)), .val (.int (own_key p4)), .val (.ref s17), .val (.ref s18), .val (.ref s19), .val (.ref o20), .val (.int (p5 &&& (3 : Int32))), .val (.int z), .val (.ref s24), .val (.int (own_key z)), .val .null, .val .null] [.null])
        refine Go.st (fun _ h => XT.ifnonnullNo X30.here hx rfl (hb hby at_326) rfl h) ?_
        show Go p e below _ T30 (mkF m 329 #[.val (.int p1), .val (.int p2), .val (.int p3), .val (.int p4), .val (.int p5), .val (.int (1 : Int32)), .val (.int (own_key p2)), .val (.int (own_key p3)), .val (.int (own_key p4)), .val (.ref s17), .val (.ref s18), .val (.ref s19), .val (.ref o20), .val (.int (p5 &&& (3 : Int32))), .val (.int z), .val (.ref s24), .val (.int (own_key z)), .val .null, .val .null] [])
        refine Go.st (fun _ h => XT.iconstV X30.here hx rfl (1 : Int32) (hb hby at_329) (by decide) h) ?_
        show Go p e below _ T30 (mkF m 330 #[.val (.int p1), .val (.int p2), .val (.int p3), .val (.int p4), .val (.int p5), .val (.int (1 : Int32)), .val (.int (own_key p2)), .val (.int (own_key p3)), .val (.int (own_key p4)), .val (.ref s17), .val (.ref s18), .val (.ref s19), .val (.ref o20), .val (.int (p5 &&& (3 : Int32))), .val (.int z), .val (.ref s24), .val (.int (own_key z)), .val .null, .val .null] [(.int (1 : Int32))])
        refine Go.st (fun _ h => XS.goto X30.here hx rfl (pc0 := 330) (pc' := 334) rfl (hb hby at_330) (by decide) (by decide) h) ?_
        show Go p e below _ T30 (mkF m 334 #[.val (.int p1), .val (.int p2), .val (.int p3), .val (.int p4), .val (.int p5), .val (.int (1 : Int32)), .val (.int (own_key p2)), .val (.int (own_key p3)), .val (.int (own_key p4)), .val (.ref s17), .val (.ref s18), .val (.ref s19), .val (.ref o20), .val (.int (p5 &&& (3 : Int32))), .val (.int z), .val (.ref s24), .val (.int (own_key z)), .val .null, .val .null] [(.int (1 : Int32))])
        refine Go.retH X30 hx hlk hZ hEL RR24 e30 hS (Nat.le_refl _) hret rfl (Or.inl ⟨rfl, Or.inr (Or.inl rfl), _, rfl⟩) (hb hby at_334) (by decide) (by decide) ?_
        exact ⟨rfl, N24⟩
    refine Go.st (fun _ h => XS.iload X23.here hx rfl (hb hby at_195) rfl h) ?_
    show Go p e below _ T23 (mkF m 197 #[.val (.int p1), .val (.int p2), .val (.int p3), .val (.int p4), .val (.int p5), .val (.int (1 : Int32)), .val (.int (own_key p2)), .val (.int (own_key p3)), .val (.int (own_key p4)), .val (.ref s17), .val (.ref s18), .val (.ref s19), .val (.ref o20), .val (.int (p5 &&& (3 : Int32))), .unset, .unset, .unset, .unset, .unset] [(.int (p5 &&& (3 : Int32)))])
    by_cases hc31 : (p5 &&& (3 : Int32)) = (0 : Int32)
    · refine Go.st (fun _ h => XS.ifNo X23.here hx rfl (hb hby at_197) rfl ((if0 _ _).trans (teq hc31).2) h) ?_
      show Go p e below _ T23 (mkF m 200 #[.val (.int p1), .val (.int p2), .val (.int p3), .val (.int p4), .val (.int p5), .val (.int (1 : Int32)), .val (.int (own_key p2)), .val (.int (own_key p3)), .val (.int (own_key p4)), .val (.ref s17), .val (.ref s18), .val (.ref s19), .val (.ref o20), .val (.int (p5 &&& (3 : Int32))), .unset, .unset, .unset, .unset, .unset] [])
      refine Go.st (fun _ h => XS.iloadN X23.here hx rfl (hb hby at_200) rfl h) ?_
      show Go p e below _ T23 (mkF m 201 #[.val (.int p1), .val (.int p2), .val (.int p3), .val (.int p4), .val (.int p5), .val (.int (1 : Int32)), .val (.int (own_key p2)), .val (.int (own_key p3)), .val (.int (own_key p4)), .val (.ref s17), .val (.ref s18), .val (.ref s19), .val (.ref o20), .val (.int (p5 &&& (3 : Int32))), .unset, .unset, .unset, .unset, .unset] [(.int p2)])
      refine Go.st (fun _ h => XS.istore X23.here hx rfl (hb hby at_201) rfl (l' := #[.val (.int p1), .val (.int p2), .val (.int p3), .val (.int p4), .val (.int p5), .val (.int (1 : Int32)), .val (.int (own_key p2)), .val (.int (own_key p3)), .val (.int (own_key p4)), .val (.ref s17), .val (.ref s18), .val (.ref s19), .val (.ref o20), .val (.int (p5 &&& (3 : Int32))), .val (.int p2), .unset, .unset, .unset, .unset]) rfl h) ?_
      show Go p e below _ T23 (mkF m 203 #[.val (.int p1), .val (.int p2), .val (.int p3), .val (.int p4), .val (.int p5), .val (.int (1 : Int32)), .val (.int (own_key p2)), .val (.int (own_key p3)), .val (.int (own_key p4)), .val (.ref s17), .val (.ref s18), .val (.ref s19), .val (.ref o20), .val (.int (p5 &&& (3 : Int32))), .val (.int p2), .unset, .unset, .unset, .unset] [])
      refine Go.st (fun _ h => XS.goto X23.here hx rfl (pc0 := 203) (pc' := 236) rfl (hb hby at_203) (by decide) (by decide) h) ?_
      show Go p e below _ T23 (mkF m 236 #[.val (.int p1), .val (.int p2), .val (.int p3), .val (.int p4), .val (.int p5), .val (.int (1 : Int32)), .val (.int (own_key p2)), .val (.int (own_key p3)), .val (.int (own_key p4)), .val (.ref s17), .val (.ref s18), .val (.ref s19), .val (.ref o20), .val (.int (p5 &&& (3 : Int32))), .val (.int p2), .unset, .unset, .unset, .unset] [])
      exact KK _
    · refine Go.st (fun _ h => XS.ifYes X23.here hx rfl (pc0 := 197) (pc' := 206) rfl (hb hby at_197) rfl ((if0 _ _).trans (feq hc31).2) (by decide) (by decide) h) ?_
      show Go p e below _ T23 (mkF m 206 #[.val (.int p1), .val (.int p2), .val (.int p3), .val (.int p4), .val (.int p5), .val (.int (1 : Int32)), .val (.int (own_key p2)), .val (.int (own_key p3)), .val (.int (own_key p4)), .val (.ref s17), .val (.ref s18), .val (.ref s19), .val (.ref o20), .val (.int (p5 &&& (3 : Int32))), .unset, .unset, .unset, .unset, .unset] [])
      refine Go.st (fun _ h => XS.iload X23.here hx rfl (hb hby at_206) rfl h) ?_
      show Go p e below _ T23 (mkF m 208 #[.val (.int p1), .val (.int p2), .val (.int p3), .val (.int p4), .val (.int p5), .val (.int (1 : Int32)), .val (.int (own_key p2)), .val (.int (own_key p3)), .val (.int (own_key p4)), .val (.ref s17), .val (.ref s18), .val (.ref s19), .val (.ref o20), .val (.int (p5 &&& (3 : Int32))), .unset, .unset, .unset, .unset, .unset] [(.int (p5 &&& (3 : Int32)))])
      refine Go.st (fun _ h => XT.iconstV X23.here hx rfl (1 : Int32) (hb hby at_208) (by decide) h) ?_
      show Go p e below _ T23 (mkF m 209 #[.val (.int p1), .val (.int p2), .val (.int p3), .val (.int p4), .val (.int p5), .val (.int (1 : Int32)), .val (.int (own_key p2)), .val (.int (own_key p3)), .val (.int (own_key p4)), .val (.ref s17), .val (.ref s18), .val (.ref s19), .val (.ref o20), .val (.int (p5 &&& (3 : Int32))), .unset, .unset, .unset, .unset, .unset] [(.int (1 : Int32)), (.int (p5 &&& (3 : Int32)))])
      by_cases hc32 : (p5 &&& (3 : Int32)) = (1 : Int32)
      · refine Go.st (fun _ h => XS.icmpNo X23.here hx rfl (hb hby at_209) rfl ((teq hc32).2) h) ?_
        show Go p e below _ T23 (mkF m 212 #[.val (.int p1), .val (.int p2), .val (.int p3), .val (.int p4), .val (.int p5), .val (.int (1 : Int32)), .val (.int (own_key p2)), .val (.int (own_key p3)), .val (.int (own_key p4)), .val (.ref s17), .val (.ref s18), .val (.ref s19), .val (.ref o20), .val (.int (p5 &&& (3 : Int32))), .unset, .unset, .unset, .unset, .unset] [])
        refine Go.st (fun _ h => XS.iloadN X23.here hx rfl (hb hby at_212) rfl h) ?_
        show Go p e below _ T23 (mkF m 213 #[.val (.int p1), .val (.int p2), .val (.int p3), .val (.int p4), .val (.int p5), .val (.int (1 : Int32)), .val (.int (own_key p2)), .val (.int (own_key p3)), .val (.int (own_key p4)), .val (.ref s17), .val (.ref s18), .val (.ref s19), .val (.ref o20), .val (.int (p5 &&& (3 : Int32))), .unset, .unset, .unset, .unset, .unset] [(.int p3)])
        refine Go.st (fun _ h => XS.istore X23.here hx rfl (hb hby at_213) rfl (l' := #[.val (.int p1), .val (.int p2), .val (.int p3), .val (.int p4), .val (.int p5), .val (.int (1 : Int32)), .val (.int (own_key p2)), .val (.int (own_key p3)), .val (.int (own_key p4)), .val (.ref s17), .val (.ref s18), .val (.ref s19), .val (.ref o20), .val (.int (p5 &&& (3 : Int32))), .val (.int p3), .unset, .unset, .unset, .unset]) rfl h) ?_
        show Go p e below _ T23 (mkF m 215 #[.val (.int p1), .val (.int p2), .val (.int p3), .val (.int p4), .val (.int p5), .val (.int (1 : Int32)), .val (.int (own_key p2)), .val (.int (own_key p3)), .val (.int (own_key p4)), .val (.ref s17), .val (.ref s18), .val (.ref s19), .val (.ref o20), .val (.int (p5 &&& (3 : Int32))), .val (.int p3), .unset, .unset, .unset, .unset] [])
        refine Go.st (fun _ h => XS.goto X23.here hx rfl (pc0 := 215) (pc' := 236) rfl (hb hby at_215) (by decide) (by decide) h) ?_
        show Go p e below _ T23 (mkF m 236 #[.val (.int p1), .val (.int p2), .val (.int p3), .val (.int p4), .val (.int p5), .val (.int (1 : Int32)), .val (.int (own_key p2)), .val (.int (own_key p3)), .val (.int (own_key p4)), .val (.ref s17), .val (.ref s18), .val (.ref s19), .val (.ref o20), .val (.int (p5 &&& (3 : Int32))), .val (.int p3), .unset, .unset, .unset, .unset] [])
        exact KK _
      · refine Go.st (fun _ h => XS.icmpYes X23.here hx rfl (pc0 := 209) (pc' := 218) rfl (hb hby at_209) rfl ((feq hc32).2) (by decide) (by decide) h) ?_
        show Go p e below _ T23 (mkF m 218 #[.val (.int p1), .val (.int p2), .val (.int p3), .val (.int p4), .val (.int p5), .val (.int (1 : Int32)), .val (.int (own_key p2)), .val (.int (own_key p3)), .val (.int (own_key p4)), .val (.ref s17), .val (.ref s18), .val (.ref s19), .val (.ref o20), .val (.int (p5 &&& (3 : Int32))), .unset, .unset, .unset, .unset, .unset] [])
        refine Go.st (fun _ h => XS.iload X23.here hx rfl (hb hby at_218) rfl h) ?_
        show Go p e below _ T23 (mkF m 220 #[.val (.int p1), .val (.int p2), .val (.int p3), .val (.int p4), .val (.int p5), .val (.int (1 : Int32)), .val (.int (own_key p2)), .val (.int (own_key p3)), .val (.int (own_key p4)), .val (.ref s17), .val (.ref s18), .val (.ref s19), .val (.ref o20), .val (.int (p5 &&& (3 : Int32))), .unset, .unset, .unset, .unset, .unset] [(.int (p5 &&& (3 : Int32)))])
        refine Go.st (fun _ h => XT.iconstV X23.here hx rfl (2 : Int32) (hb hby at_220) (by decide) h) ?_
        show Go p e below _ T23 (mkF m 221 #[.val (.int p1), .val (.int p2), .val (.int p3), .val (.int p4), .val (.int p5), .val (.int (1 : Int32)), .val (.int (own_key p2)), .val (.int (own_key p3)), .val (.int (own_key p4)), .val (.ref s17), .val (.ref s18), .val (.ref s19), .val (.ref o20), .val (.int (p5 &&& (3 : Int32))), .unset, .unset, .unset, .unset, .unset] [(.int (2 : Int32)), (.int (p5 &&& (3 : Int32)))])
        by_cases hc33 : (p5 &&& (3 : Int32)) = (2 : Int32)
        · refine Go.st (fun _ h => XS.icmpNo X23.here hx rfl (hb hby at_221) rfl ((teq hc33).2) h) ?_
          show Go p e below _ T23 (mkF m 224 #[.val (.int p1), .val (.int p2), .val (.int p3), .val (.int p4), .val (.int p5), .val (.int (1 : Int32)), .val (.int (own_key p2)), .val (.int (own_key p3)), .val (.int (own_key p4)), .val (.ref s17), .val (.ref s18), .val (.ref s19), .val (.ref o20), .val (.int (p5 &&& (3 : Int32))), .unset, .unset, .unset, .unset, .unset] [])
          refine Go.st (fun _ h => XS.iloadN X23.here hx rfl (hb hby at_224) rfl h) ?_
          show Go p e below _ T23 (mkF m 225 #[.val (.int p1), .val (.int p2), .val (.int p3), .val (.int p4), .val (.int p5), .val (.int (1 : Int32)), .val (.int (own_key p2)), .val (.int (own_key p3)), .val (.int (own_key p4)), .val (.ref s17), .val (.ref s18), .val (.ref s19), .val (.ref o20), .val (.int (p5 &&& (3 : Int32))), .unset, .unset, .unset, .unset, .unset] [(.int p4)])
          refine Go.st (fun _ h => XS.istore X23.here hx rfl (hb hby at_225) rfl (l' := #[.val (.int p1), .val (.int p2), .val (.int p3), .val (.int p4), .val (.int p5), .val (.int (1 : Int32)), .val (.int (own_key p2)), .val (.int (own_key p3)), .val (.int (own_key p4)), .val (.ref s17), .val (.ref s18), .val (.ref s19), .val (.ref o20), .val (.int (p5 &&& (3 : Int32))), .val (.int p4), .unset, .unset, .unset, .unset]) rfl h) ?_
          show Go p e below _ T23 (mkF m 227 #[.val (.int p1), .val (.int p2), .val (.int p3), .val (.int p4), .val (.int p5), .val (.int (1 : Int32)), .val (.int (own_key p2)), .val (.int (own_key p3)), .val (.int (own_key p4)), .val (.ref s17), .val (.ref s18), .val (.ref s19), .val (.ref o20), .val (.int (p5 &&& (3 : Int32))), .val (.int p4), .unset, .unset, .unset, .unset] [])
          refine Go.st (fun _ h => XS.goto X23.here hx rfl (pc0 := 227) (pc' := 236) rfl (hb hby at_227) (by decide) (by decide) h) ?_
          show Go p e below _ T23 (mkF m 236 #[.val (.int p1), .val (.int p2), .val (.int p3), .val (.int p4), .val (.int p5), .val (.int (1 : Int32)), .val (.int (own_key p2)), .val (.int (own_key p3)), .val (.int (own_key p4)), .val (.ref s17), .val (.ref s18), .val (.ref s19), .val (.ref o20), .val (.int (p5 &&& (3 : Int32))), .val (.int p4), .unset, .unset, .unset, .unset] [])
          exact KK _
        · refine Go.st (fun _ h => XS.icmpYes X23.here hx rfl (pc0 := 221) (pc' := 230) rfl (hb hby at_221) rfl ((feq hc33).2) (by decide) (by decide) h) ?_
          show Go p e below _ T23 (mkF m 230 #[.val (.int p1), .val (.int p2), .val (.int p3), .val (.int p4), .val (.int p5), .val (.int (1 : Int32)), .val (.int (own_key p2)), .val (.int (own_key p3)), .val (.int (own_key p4)), .val (.ref s17), .val (.ref s18), .val (.ref s19), .val (.ref o20), .val (.int (p5 &&& (3 : Int32))), .unset, .unset, .unset, .unset, .unset] [])
          refine Go.st (fun _ h => XS.iload X23.here hx rfl (hb hby at_230) rfl h) ?_
          show Go p e below _ T23 (mkF m 232 #[.val (.int p1), .val (.int p2), .val (.int p3), .val (.int p4), .val (.int p5), .val (.int (1 : Int32)), .val (.int (own_key p2)), .val (.int (own_key p3)), .val (.int (own_key p4)), .val (.ref s17), .val (.ref s18), .val (.ref s19), .val (.ref o20), .val (.int (p5 &&& (3 : Int32))), .unset, .unset, .unset, .unset, .unset] [(.int p5)])
          refine Go.st (fun _ h => XT.iconstV X23.here hx rfl (2 : Int32) (hb hby at_232) (by decide) h) ?_
          show Go p e below _ T23 (mkF m 233 #[.val (.int p1), .val (.int p2), .val (.int p3), .val (.int p4), .val (.int p5), .val (.int (1 : Int32)), .val (.int (own_key p2)), .val (.int (own_key p3)), .val (.int (own_key p4)), .val (.ref s17), .val (.ref s18), .val (.ref s19), .val (.ref o20), .val (.int (p5 &&& (3 : Int32))), .unset, .unset, .unset, .unset, .unset] [(.int (2 : Int32)), (.int p5)])
          refine Go.st (fun _ h => XT.iushr X23.here hx rfl (hb hby at_233) rfl h) ?_
          show Go p e below _ T23 (mkF m 234 #[.val (.int p1), .val (.int p2), .val (.int p3), .val (.int p4), .val (.int p5), .val (.int (1 : Int32)), .val (.int (own_key p2)), .val (.int (own_key p3)), .val (.int (own_key p4)), .val (.ref s17), .val (.ref s18), .val (.ref s19), .val (.ref o20), .val (.int (p5 &&& (3 : Int32))), .unset, .unset, .unset, .unset, .unset] [(.int (XT.ushr p5 (2 : Int32)))])
          refine Go.st (fun _ h => XS.istore X23.here hx rfl (hb hby at_234) rfl (l' := #[.val (.int p1), .val (.int p2), .val (.int p3), .val (.int p4), .val (.int p5), .val (.int (1 : Int32)), .val (.int (own_key p2)), .val (.int (own_key p3)), .val (.int (own_key p4)), .val (.ref s17), .val (.ref s18), .val (.ref s19), .val (.ref o20), .val (.int (p5 &&& (3 : Int32))), .val (.int (XT.ushr p5 (2 : Int32))), .unset, .unset, .unset, .unset]) rfl h) ?_
          show Go p e below _ T23 (mkF m 236 #[.val (.int p1), .val (.int p2), .val (.int p3), .val (.int p4), .val (.int p5), .val (.int (1 : Int32)), .val (.int (own_key p2)), .val (.int (own_key p3)), .val (.int (own_key p4)), .val (.ref s17), .val (.ref s18), .val (.ref s19), .val (.ref o20), .val (.int (p5 &&& (3 : Int32))), .val (.int (XT.ushr p5 (2 : Int32))), .unset, .unset, .unset, .unset] [])
          exact KK _
  ·
    show Go p e below _ s₁ (mkF m 5 #[.val (.int p1), .val (.int p2), .val (.int p3), .val (.int p4), .val (.int p5), .val (.int (2 : Int32)), .unset, .unset, .unset, .unset, .unset, .unset, .unset, .unset, .unset, .unset, .unset, .unset, .unset] [])
    refine Go.st (fun _ h => XS.iloadN X0.here hx rfl (hb hby at_5) rfl h) ?_
    show Go p e below _ s₁ (mkF m 6 #[.val (.int p1), .val (.int p2), .val (.int p3), .val (.int p4), .val (.int p5), .val (.int (2 : Int32)), .unset, .unset, .unset, .unset, .unset, .unset, .unset, .unset, .unset, .unset, .unset, .unset, .unset] [(.int p2)])
    obtain ⟨T34, X34, e34, st34⟩ := own_still rfl rfl (Does.static (y := (⟨"com/example/tenon/tenon/core/XmlElementDeclaredPinLaw", "key", "(I)I"⟩ : MethodName)) (g := (mkF m 6 #[.val (.int p1), .val (.int p2), .val (.int p3), .val (.int p4), .val (.int p5), .val (.int (2 : Int32)), .unset, .unset, .unset, .unset, .unset, .unset, .unset, .unset, .unset, .unset, .unset, .unset, .unset] [(.int p2)])) (rmKey l Z a0 hw p2 h0) X0 hx hZ hown e0 (hw _ (List.mem_of_getElem? (i := 0) rfl)) (hw _ (List.mem_of_getElem? (i := 1) rfl)) (hw _ (List.mem_of_getElem? (i := 2) rfl)) (hw _ (List.mem_of_getElem? (i := 3) rfl)) (by decide) rfl (by rw [hml]; rfl) (argsL := [(.int p2)]) (rest := []) (lenOf pd_28I29I rfl) rfl (hb hby at_6) (W := 0) (by show 2 * 0 + _ ≤ _; exact Nat.le_of_eq rfl) (by decide) (by decide) (by decide) (by decide))
    refine Go.st st34 ?_
    show Go p e below _ T34 (mkF m 9 #[.val (.int p1), .val (.int p2), .val (.int p3), .val (.int p4), .val (.int p5), .val (.int (2 : Int32)), .unset, .unset, .unset, .unset, .unset, .unset, .unset, .unset, .unset, .unset, .unset, .unset, .unset] [(.int (own_key p2))])
    refine Go.st (fun _ h => XS.istore X34.here hx rfl (hb hby at_9) rfl (l' := #[.val (.int p1), .val (.int p2), .val (.int p3), .val (.int p4), .val (.int p5), .val (.int (2 : Int32)), .val (.int (own_key p2)), .unset, .unset, .unset, .unset, .unset, .unset, .unset, .unset, .unset, .unset, .unset, .unset]) rfl h) ?_
    show Go p e below _ T34 (mkF m 11 #[.val (.int p1), .val (.int p2), .val (.int p3), .val (.int p4), .val (.int p5), .val (.int (2 : Int32)), .val (.int (own_key p2)), .unset, .unset, .unset, .unset, .unset, .unset, .unset, .unset, .unset, .unset, .unset, .unset] [])
    refine Go.st (fun _ h => XS.iloadN X34.here hx rfl (hb hby at_11) rfl h) ?_
    show Go p e below _ T34 (mkF m 12 #[.val (.int p1), .val (.int p2), .val (.int p3), .val (.int p4), .val (.int p5), .val (.int (2 : Int32)), .val (.int (own_key p2)), .unset, .unset, .unset, .unset, .unset, .unset, .unset, .unset, .unset, .unset, .unset, .unset] [(.int p3)])
    obtain ⟨T35, X35, e35, st35⟩ := own_still rfl rfl (Does.static (y := (⟨"com/example/tenon/tenon/core/XmlElementDeclaredPinLaw", "key", "(I)I"⟩ : MethodName)) (g := (mkF m 12 #[.val (.int p1), .val (.int p2), .val (.int p3), .val (.int p4), .val (.int p5), .val (.int (2 : Int32)), .val (.int (own_key p2)), .unset, .unset, .unset, .unset, .unset, .unset, .unset, .unset, .unset, .unset, .unset, .unset] [(.int p3)])) (rmKey l Z a0 hw p3 h0) X34 hx hZ hown e34 (hw _ (List.mem_of_getElem? (i := 0) rfl)) (hw _ (List.mem_of_getElem? (i := 1) rfl)) (hw _ (List.mem_of_getElem? (i := 2) rfl)) (hw _ (List.mem_of_getElem? (i := 3) rfl)) (by decide) rfl (by rw [hml]; rfl) (argsL := [(.int p3)]) (rest := []) (lenOf pd_28I29I rfl) rfl (hb hby at_12) (W := 0) (by show 2 * 0 + _ ≤ _; exact Nat.le_of_eq rfl) (by decide) (by decide) (by decide) (by decide))
    refine Go.st st35 ?_
    show Go p e below _ T35 (mkF m 15 #[.val (.int p1), .val (.int p2), .val (.int p3), .val (.int p4), .val (.int p5), .val (.int (2 : Int32)), .val (.int (own_key p2)), .unset, .unset, .unset, .unset, .unset, .unset, .unset, .unset, .unset, .unset, .unset, .unset] [(.int (own_key p3))])
    refine Go.st (fun _ h => XS.istore X35.here hx rfl (hb hby at_15) rfl (l' := #[.val (.int p1), .val (.int p2), .val (.int p3), .val (.int p4), .val (.int p5), .val (.int (2 : Int32)), .val (.int (own_key p2)), .val (.int (own_key p3)), .unset, .unset, .unset, .unset, .unset, .unset, .unset, .unset, .unset, .unset, .unset]) rfl h) ?_
    show Go p e below _ T35 (mkF m 17 #[.val (.int p1), .val (.int p2), .val (.int p3), .val (.int p4), .val (.int p5), .val (.int (2 : Int32)), .val (.int (own_key p2)), .val (.int (own_key p3)), .unset, .unset, .unset, .unset, .unset, .unset, .unset, .unset, .unset, .unset, .unset] [])
    refine Go.st (fun _ h => XS.iloadN X35.here hx rfl (hb hby at_17) rfl h) ?_
    show Go p e below _ T35 (mkF m 18 #[.val (.int p1), .val (.int p2), .val (.int p3), .val (.int p4), .val (.int p5), .val (.int (2 : Int32)), .val (.int (own_key p2)), .val (.int (own_key p3)), .unset, .unset, .unset, .unset, .unset, .unset, .unset, .unset, .unset, .unset, .unset] [(.int p4)])
    obtain ⟨T36, X36, e36, st36⟩ := own_still rfl rfl (Does.static (y := (⟨"com/example/tenon/tenon/core/XmlElementDeclaredPinLaw", "key", "(I)I"⟩ : MethodName)) (g := (mkF m 18 #[.val (.int p1), .val (.int p2), .val (.int p3), .val (.int p4), .val (.int p5), .val (.int (2 : Int32)), .val (.int (own_key p2)), .val (.int (own_key p3)), .unset, .unset, .unset, .unset, .unset, .unset, .unset, .unset, .unset, .unset, .unset] [(.int p4)])) (rmKey l Z a0 hw p4 h0) X35 hx hZ hown e35 (hw _ (List.mem_of_getElem? (i := 0) rfl)) (hw _ (List.mem_of_getElem? (i := 1) rfl)) (hw _ (List.mem_of_getElem? (i := 2) rfl)) (hw _ (List.mem_of_getElem? (i := 3) rfl)) (by decide) rfl (by rw [hml]; rfl) (argsL := [(.int p4)]) (rest := []) (lenOf pd_28I29I rfl) rfl (hb hby at_18) (W := 0) (by show 2 * 0 + _ ≤ _; exact Nat.le_of_eq rfl) (by decide) (by decide) (by decide) (by decide))
    refine Go.st st36 ?_
    show Go p e below _ T36 (mkF m 21 #[.val (.int p1), .val (.int p2), .val (.int p3), .val (.int p4), .val (.int p5), .val (.int (2 : Int32)), .val (.int (own_key p2)), .val (.int (own_key p3)), .unset, .unset, .unset, .unset, .unset, .unset, .unset, .unset, .unset, .unset, .unset] [(.int (own_key p4))])
    refine Go.st (fun _ h => XS.istore X36.here hx rfl (hb hby at_21) rfl (l' := #[.val (.int p1), .val (.int p2), .val (.int p3), .val (.int p4), .val (.int p5), .val (.int (2 : Int32)), .val (.int (own_key p2)), .val (.int (own_key p3)), .val (.int (own_key p4)), .unset, .unset, .unset, .unset, .unset, .unset, .unset, .unset, .unset, .unset]) rfl h) ?_
    show Go p e below _ T36 (mkF m 23 #[.val (.int p1), .val (.int p2), .val (.int p3), .val (.int p4), .val (.int p5), .val (.int (2 : Int32)), .val (.int (own_key p2)), .val (.int (own_key p3)), .val (.int (own_key p4)), .unset, .unset, .unset, .unset, .unset, .unset, .unset, .unset, .unset, .unset] [])
    refine Go.st (fun _ h => XS.iload X36.here hx rfl (hb hby at_23) rfl h) ?_
    show Go p e below _ T36 (mkF m 25 #[.val (.int p1), .val (.int p2), .val (.int p3), .val (.int p4), .val (.int p5), .val (.int (2 : Int32)), .val (.int (own_key p2)), .val (.int (own_key p3)), .val (.int (own_key p4)), .unset, .unset, .unset, .unset, .unset, .unset, .unset, .unset, .unset, .unset] [(.int (2 : Int32))])
    refine Go.st (fun _ h => XT.iconstV X36.here hx rfl (2 : Int32) (hb hby at_25) (by decide) h) ?_
    show Go p e below _ T36 (mkF m 26 #[.val (.int p1), .val (.int p2), .val (.int p3), .val (.int p4), .val (.int p5), .val (.int (2 : Int32)), .val (.int (own_key p2)), .val (.int (own_key p3)), .val (.int (own_key p4)), .unset, .unset, .unset, .unset, .unset, .unset, .unset, .unset, .unset, .unset] [(.int (2 : Int32)), (.int (2 : Int32))])
    refine Go.st (fun _ h => XS.icmpNo X36.here hx rfl (hb hby at_26) rfl (by decide) h) ?_
    show Go p e below _ T36 (mkF m 29 #[.val (.int p1), .val (.int p2), .val (.int p3), .val (.int p4), .val (.int p5), .val (.int (2 : Int32)), .val (.int (own_key p2)), .val (.int (own_key p3)), .val (.int (own_key p4)), .unset, .unset, .unset, .unset, .unset, .unset, .unset, .unset, .unset, .unset] [])
    refine Go.st (fun _ h => XS.iload X36.here hx rfl (hb hby at_29) rfl h) ?_
    show Go p e below _ T36 (mkF m 31 #[.val (.int p1), .val (.int p2), .val (.int p3), .val (.int p4), .val (.int p5), .val (.int (2 : Int32)), .val (.int (own_key p2)), .val (.int (own_key p3)), .val (.int (own_key p4)), .unset, .unset, .unset, .unset, .unset, .unset, .unset, .unset, .unset, .unset] [(.int (own_key p2))])
    refine Go.st (fun _ h => XS.iload X36.here hx rfl (hb hby at_31) rfl h) ?_
    show Go p e below _ T36 (mkF m 33 #[.val (.int p1), .val (.int p2), .val (.int p3), .val (.int p4), .val (.int p5), .val (.int (2 : Int32)), .val (.int (own_key p2)), .val (.int (own_key p3)), .val (.int (own_key p4)), .unset, .unset, .unset, .unset, .unset, .unset, .unset, .unset, .unset, .unset] [(.int (own_key p3)), (.int (own_key p2))])
    by_cases hc37 : (own_key p2) = (own_key p3)
    · refine Go.st (fun _ h => XS.icmpNo X36.here hx rfl (hb hby at_33) rfl ((teq hc37).2) h) ?_
      show Go p e below _ T36 (mkF m 36 #[.val (.int p1), .val (.int p2), .val (.int p3), .val (.int p4), .val (.int p5), .val (.int (2 : Int32)), .val (.int (own_key p2)), .val (.int (own_key p3)), .val (.int (own_key p4)), .unset, .unset, .unset, .unset, .unset, .unset, .unset, .unset, .unset, .unset] [])
      refine Go.st (fun _ h => XT.iconstV X36.here hx rfl (1 : Int32) (hb hby at_36) (by decide) h) ?_
      show Go p e below _ T36 (mkF m 37 #[.val (.int p1), .val (.int p2), .val (.int p3), .val (.int p4), .val (.int p5), .val (.int (2 : Int32)), .val (.int (own_key p2)), .val (.int (own_key p3)), .val (.int (own_key p4)), .unset, .unset, .unset, .unset, .unset, .unset, .unset, .unset, .unset, .unset] [(.int (1 : Int32))])
      refine Go.retH X36 hx hlk hZ hEL RR e36 hS hkS hret rfl (Or.inl ⟨rfl, Or.inr (Or.inl rfl), _, rfl⟩) (hb hby at_37) (by decide) (by decide) ?_
      exact ⟨rfl, N0⟩
    · refine Go.st (fun _ h => XS.icmpYes X36.here hx rfl (pc0 := 33) (pc' := 38) rfl (hb hby at_33) rfl ((feq hc37).2) (by decide) (by decide) h) ?_
      show Go p e below _ T36 (mkF m 38 #[.val (.int p1), .val (.int p2), .val (.int p3), .val (.int p4), .val (.int p5), .val (.int (2 : Int32)), .val (.int (own_key p2)), .val (.int (own_key p3)), .val (.int (own_key p4)), .unset, .unset, .unset, .unset, .unset, .unset, .unset, .unset, .unset, .unset] [])
      refine Go.st (fun _ h => XS.iload X36.here hx rfl (hb hby at_38) rfl h) ?_
      show Go p e below _ T36 (mkF m 40 #[.val (.int p1), .val (.int p2), .val (.int p3), .val (.int p4), .val (.int p5), .val (.int (2 : Int32)), .val (.int (own_key p2)), .val (.int (own_key p3)), .val (.int (own_key p4)), .unset, .unset, .unset, .unset, .unset, .unset, .unset, .unset, .unset, .unset] [(.int (2 : Int32))])
      refine Go.st (fun _ h => XT.iconstV X36.here hx rfl (3 : Int32) (hb hby at_40) (by decide) h) ?_
      show Go p e below _ T36 (mkF m 41 #[.val (.int p1), .val (.int p2), .val (.int p3), .val (.int p4), .val (.int p5), .val (.int (2 : Int32)), .val (.int (own_key p2)), .val (.int (own_key p3)), .val (.int (own_key p4)), .unset, .unset, .unset, .unset, .unset, .unset, .unset, .unset, .unset, .unset] [(.int (3 : Int32)), (.int (2 : Int32))])
      refine Go.st (fun _ h => XS.icmpYes X36.here hx rfl (pc0 := 41) (pc' := 60) rfl (hb hby at_41) rfl (by decide) (by decide) (by decide) h) ?_
      show Go p e below _ T36 (mkF m 60 #[.val (.int p1), .val (.int p2), .val (.int p3), .val (.int p4), .val (.int p5), .val (.int (2 : Int32)), .val (.int (own_key p2)), .val (.int (own_key p3)), .val (.int (own_key p4)), .unset, .unset, .unset, .unset, .unset, .unset, .unset, .unset, .unset, .unset] [])
      refine Go.st (fun _ h => XS.iloadN X36.here hx rfl (hb hby at_60) rfl h) ?_
      show Go p e below _ T36 (mkF m 61 #[.val (.int p1), .val (.int p2), .val (.int p3), .val (.int p4), .val (.int p5), .val (.int (2 : Int32)), .val (.int (own_key p2)), .val (.int (own_key p3)), .val (.int (own_key p4)), .unset, .unset, .unset, .unset, .unset, .unset, .unset, .unset, .unset, .unset] [(.int p2)])
      obtain ⟨_, T38, L38, X38, hZ, hown, hS, RR38, ⟨s38, tv38, kv38, rfl, Nc38, Kc38, lec38, Ec38, Cc38, Vc38, Bc38⟩, st38⟩ := DoesH.static (s := s) (y := (⟨"com/example/tenon/tenon/core/XmlElementDeclaredPinLaw", "mk", "(I)Ljava/lang/String;"⟩ : MethodName)) (g := (mkF m 61 #[.val (.int p1), .val (.int p2), .val (.int p3), .val (.int p4), .val (.int p5), .val (.int (2 : Int32)), .val (.int (own_key p2)), .val (.int (own_key p3)), .val (.int (own_key p4)), .unset, .unset, .unset, .unset, .unset, .unset, .unset, .unset, .unset, .unset] [(.int p2)])) (rmMk l Z a0 hw hEL wS p2 h0 n0 Z0 zc S_CS hzc) X36 hx hZ hown e36 hEL RR hS hkS (hw _ (List.mem_of_getElem? (i := 7) rfl)) (hw _ (List.mem_of_getElem? (i := 8) rfl)) (hw _ (List.mem_of_getElem? (i := 2) rfl)) (hw _ (List.mem_of_getElem? (i := 9) rfl)) (by decide) rfl (by rw [hml]; rfl) (argsL := [(.int p2)]) (rest := []) (lenOf pd_28I29Ljava2flang2fString3b rfl) rfl (hb hby at_61) (W := 0) (by show 2 * 0 + _ ≤ _; exact Nat.le_of_eq rfl) (by decide) (by decide) (by decide) (by decide)
      have K38 := (Keep.refl _ []).trans Kc38 all0
      have N38 := Fr.app N0 Nc38
      refine Go.st st38 ?_
      show Go p e below _ T38 (mkF m 64 #[.val (.int p1), .val (.int p2), .val (.int p3), .val (.int p4), .val (.int p5), .val (.int (2 : Int32)), .val (.int (own_key p2)), .val (.int (own_key p3)), .val (.int (own_key p4)), .unset, .unset, .unset, .unset, .unset, .unset, .unset, .unset, .unset, .unset] [(.ref s38)])
      refine Go.st (fun _ h => XS.astore X38.here hx rfl (hb hby at_64) rfl rfl (l' := #[.val (.int p1), .val (.int p2), .val (.int p3), .val (.int p4), .val (.int p5), .val (.int (2 : Int32)), .val (.int (own_key p2)), .val (.int (own_key p3)), .val (.int (own_key p4)), .val (.ref s38), .unset, .unset, .unset, .unset, .unset, .unset, .unset, .unset, .unset]) rfl h) ?_
      show Go p e below _ T38 (mkF m 66 #[.val (.int p1), .val (.int p2), .val (.int p3), .val (.int p4), .val (.int p5), .val (.int (2 : Int32)), .val (.int (own_key p2)), .val (.int (own_key p3)), .val (.int (own_key p4)), .val (.ref s38), .unset, .unset, .unset, .unset, .unset, .unset, .unset, .unset, .unset] [])
      refine Go.st (fun _ h => XS.iloadN X38.here hx rfl (hb hby at_66) rfl h) ?_
      show Go p e below _ T38 (mkF m 67 #[.val (.int p1), .val (.int p2), .val (.int p3), .val (.int p4), .val (.int p5), .val (.int (2 : Int32)), .val (.int (own_key p2)), .val (.int (own_key p3)), .val (.int (own_key p4)), .val (.ref s38), .unset, .unset, .unset, .unset, .unset, .unset, .unset, .unset, .unset] [(.int p3)])
      obtain ⟨_, T39, L39, X39, hZ, hown, hS, RR39, ⟨s39, tv39, kv39, rfl, Nc39, Kc39, lec39, Ec39, Cc39, Vc39, Bc39⟩, st39⟩ := DoesH.static (s := s) (y := (⟨"com/example/tenon/tenon/core/XmlElementDeclaredPinLaw", "mk", "(I)Ljava/lang/String;"⟩ : MethodName)) (g := (mkF m 67 #[.val (.int p1), .val (.int p2), .val (.int p3), .val (.int p4), .val (.int p5), .val (.int (2 : Int32)), .val (.int (own_key p2)), .val (.int (own_key p3)), .val (.int (own_key p4)), .val (.ref s38), .unset, .unset, .unset, .unset, .unset, .unset, .unset, .unset, .unset] [(.int p3)])) (rmMk l Z a0 hw hEL wS p3 T38.heap n0 (Nat.le_trans Z0 K38.1) zc (S_CS.ext (own_ext K38)) hzc) X38 hx hZ hown rfl hEL RR38 hS (Nat.le_refl _) (hw _ (List.mem_of_getElem? (i := 7) rfl)) (hw _ (List.mem_of_getElem? (i := 8) rfl)) (hw _ (List.mem_of_getElem? (i := 2) rfl)) (hw _ (List.mem_of_getElem? (i := 9) rfl)) (by decide) rfl (by rw [hml]; rfl) (argsL := [(.int p3)]) (rest := []) (lenOf pd_28I29Ljava2flang2fString3b rfl) rfl (hb hby at_67) (W := 0) (by show 2 * 0 + _ ≤ _; exact Nat.le_of_eq rfl) (by decide) (by decide) (by decide) (by decide)
      have E39_0 := Ec38.keep Kc39
      have F39_1 := Cc38.keep Kc39 nin0
      have F39_2 := Vc38.keep Kc39 nin0
      have V39_3 := Bc38.keep Kc39 nin0
      have K39 := K38.trans Kc39 all0
      have N39 := Fr.app N38 Nc39
      have ne_s38_s39 : s38 ≠ s39 := Nat.ne_of_lt (Nat.lt_of_lt_of_le Ec38.lt lec39)
      have ne_tv38_s39 : tv38 ≠ s39 := Nat.ne_of_lt (Nat.lt_of_lt_of_le Bc38.lt lec39)
      refine Go.st st39 ?_
      show Go p e below _ T39 (mkF m 70 #[.val (.int p1), .val (.int p2), .val (.int p3), .val (.int p4), .val (.int p5), .val (.int (2 : Int32)), .val (.int (own_key p2)), .val (.int (own_key p3)), .val (.int (own_key p4)), .val (.ref s38), .unset, .unset, .unset, .unset, .unset, .unset, .unset, .unset, .unset] [(.ref s39)])
      refine Go.st (fun _ h => XS.astore X39.here hx rfl (hb hby at_70) rfl rfl (l' := #[.val (.int p1), .val (.int p2), .val (.int p3), .val (.int p4), .val (.int p5), .val (.int (2 : Int32)), .val (.int (own_key p2)), .val (.int (own_key p3)), .val (.int (own_key p4)), .val (.ref s38), .val (.ref s39), .unset, .unset, .unset, .unset, .unset, .unset, .unset, .unset]) rfl h) ?_
      show Go p e below _ T39 (mkF m 72 #[.val (.int p1), .val (.int p2), .val (.int p3), .val (.int p4), .val (.int p5), .val (.int (2 : Int32)), .val (.int (own_key p2)), .val (.int (own_key p3)), .val (.int (own_key p4)), .val (.ref s38), .val (.ref s39), .unset, .unset, .unset, .unset, .unset, .unset, .unset, .unset] [])
      refine Go.st (fun _ h => XS.iloadN X39.here hx rfl (hb hby at_72) rfl h) ?_
      show Go p e below _ T39 (mkF m 73 #[.val (.int p1), .val (.int p2), .val (.int p3), .val (.int p4), .val (.int p5), .val (.int (2 : Int32)), .val (.int (own_key p2)), .val (.int (own_key p3)), .val (.int (own_key p4)), .val (.ref s38), .val (.ref s39), .unset, .unset, .unset, .unset, .unset, .unset, .unset, .unset] [(.int p4)])
      obtain ⟨_, T40, L40, X40, hZ, hown, hS, RR40, ⟨s40, tv40, kv40, rfl, Nc40, Kc40, lec40, Ec40, Cc40, Vc40, Bc40⟩, st40⟩ := DoesH.static (s := s) (y := (⟨"com/example/tenon/tenon/core/XmlElementDeclaredPinLaw", "mk", "(I)Ljava/lang/String;"⟩ : MethodName)) (g := (mkF m 73 #[.val (.int p1), .val (.int p2), .val (.int p3), .val (.int p4), .val (.int p5), .val (.int (2 : Int32)), .val (.int (own_key p2)), .val (.int (own_key p3)), .val (.int (own_key p4)), .val (.ref s38), .val (.ref s39), .unset, .unset, .unset, .unset, .unset, .unset, .unset, .unset] [(.int p4)])) (rmMk l Z a0 hw hEL wS p4 T39.heap n0 (Nat.le_trans Z0 K39.1) zc (S_CS.ext (own_ext K39)) hzc) X39 hx hZ hown rfl hEL RR39 hS (Nat.le_refl _) (hw _ (List.mem_of_getElem? (i := 7) rfl)) (hw _ (List.mem_of_getElem? (i := 8) rfl)) (hw _ (List.mem_of_getElem? (i := 2) rfl)) (hw _ (List.mem_of_getElem? (i := 9) rfl)) (by decide) rfl (by rw [hml]; rfl) (argsL := [(.int p4)]) (rest := []) (lenOf pd_28I29Ljava2flang2fString3b rfl) rfl (hb hby at_73) (W := 0) (by show 2 * 0 + _ ≤ _; exact Nat.le_of_eq rfl) (by decide) (by decide) (by decide) (by decide)
      have E40_0 := E39_0.keep Kc40
      have E40_1 := Ec39.keep Kc40
      have F40_2 := F39_1.keep Kc40 nin0
      have F40_3 := F39_2.keep Kc40 nin0
      have F40_4 := Cc39.keep Kc40 nin0
      have F40_5 := Vc39.keep Kc40 nin0
      have V40_6 := V39_3.keep Kc40 nin0
      have V40_7 := Bc39.keep Kc40 nin0
      have K40 := K39.trans Kc40 all0
      have N40 := Fr.app N39 Nc40
      have ne_s38_s40 : s38 ≠ s40 := Nat.ne_of_lt (Nat.lt_of_lt_of_le E39_0.lt lec40)
      have ne_tv38_s40 : tv38 ≠ s40 := Nat.ne_of_lt (Nat.lt_of_lt_of_le V39_3.lt lec40)
      have ne_s39_s40 : s39 ≠ s40 := Nat.ne_of_lt (Nat.lt_of_lt_of_le Ec39.lt lec40)
      have ne_tv39_s40 : tv39 ≠ s40 := Nat.ne_of_lt (Nat.lt_of_lt_of_le Bc39.lt lec40)
      refine Go.st st40 ?_
      show Go p e below _ T40 (mkF m 76 #[.val (.int p1), .val (.int p2), .val (.int p3), .val (.int p4), .val (.int p5), .val (.int (2 : Int32)), .val (.int (own_key p2)), .val (.int (own_key p3)), .val (.int (own_key p4)), .val (.ref s38), .val (.ref s39), .unset, .unset, .unset, .unset, .unset, .unset, .unset, .unset] [(.ref s40)])
      refine Go.st (fun _ h => XS.astore X40.here hx rfl (hb hby at_76) rfl rfl (l' := #[.val (.int p1), .val (.int p2), .val (.int p3), .val (.int p4), .val (.int p5), .val (.int (2 : Int32)), .val (.int (own_key p2)), .val (.int (own_key p3)), .val (.int (own_key p4)), .val (.ref s38), .val (.ref s39), .val (.ref s40), .unset, .unset, .unset, .unset, .unset, .unset, .unset]) rfl h) ?_
      show Go p e below _ T40 (mkF m 78 #[.val (.int p1), .val (.int p2), .val (.int p3), .val (.int p4), .val (.int p5), .val (.int (2 : Int32)), .val (.int (own_key p2)), .val (.int (own_key p3)), .val (.int (own_key p4)), .val (.ref s38), .val (.ref s39), .val (.ref s40), .unset, .unset, .unset, .unset, .unset, .unset, .unset] [])
      refine Go.st (fun _ h => XS.iload X40.here hx rfl (hb hby at_78) rfl h) ?_
      show Go p e below _ T40 (mkF m 80 #[.val (.int p1), .val (.int p2), .val (.int p3), .val (.int p4), .val (.int p5), .val (.int (2 : Int32)), .val (.int (own_key p2)), .val (.int (own_key p3)), .val (.int (own_key p4)), .val (.ref s38), .val (.ref s39), .val (.ref s40), .unset, .unset, .unset, .unset, .unset, .unset, .unset] [(.int (2 : Int32))])
      refine Go.st (fun _ h => XS.ifYes X40.here hx rfl (pc0 := 80) (pc' := 92) rfl (hb hby at_80) rfl (by decide) (by decide) (by decide) h) ?_
      show Go p e below _ T40 (mkF m 92 #[.val (.int p1), .val (.int p2), .val (.int p3), .val (.int p4), .val (.int p5), .val (.int (2 : Int32)), .val (.int (own_key p2)), .val (.int (own_key p3)), .val (.int (own_key p4)), .val (.ref s38), .val (.ref s39), .val (.ref s40), .unset, .unset, .unset, .unset, .unset, .unset, .unset] [])
      refine Go.st (fun _ h => XS.iload X40.here hx rfl (hb hby at_92) rfl h) ?_
      show Go p e below _ T40 (mkF m 94 #[.val (.int p1), .val (.int p2), .val (.int p3), .val (.int p4), .val (.int p5), .val (.int (2 : Int32)), .val (.int (own_key p2)), .val (.int (own_key p3)), .val (.int (own_key p4)), .val (.ref s38), .val (.ref s39), .val (.ref s40), .unset, .unset, .unset, .unset, .unset, .unset, .unset] [(.int (2 : Int32))])
      refine Go.st (fun _ h => XT.iconstV X40.here hx rfl (1 : Int32) (hb hby at_94) (by decide) h) ?_
      show Go p e below _ T40 (mkF m 95 #[.val (.int p1), .val (.int p2), .val (.int p3), .val (.int p4), .val (.int p5), .val (.int (2 : Int32)), .val (.int (own_key p2)), .val (.int (own_key p3)), .val (.int (own_key p4)), .val (.ref s38), .val (.ref s39), .val (.ref s40), .unset, .unset, .unset, .unset, .unset, .unset, .unset] [(.int (1 : Int32)), (.int (2 : Int32))])
      refine Go.st (fun _ h => XS.icmpYes X40.here hx rfl (pc0 := 95) (pc' := 117) rfl (hb hby at_95) rfl (by decide) (by decide) (by decide) h) ?_
      show Go p e below _ T40 (mkF m 117 #[.val (.int p1), .val (.int p2), .val (.int p3), .val (.int p4), .val (.int p5), .val (.int (2 : Int32)), .val (.int (own_key p2)), .val (.int (own_key p3)), .val (.int (own_key p4)), .val (.ref s38), .val (.ref s39), .val (.ref s40), .unset, .unset, .unset, .unset, .unset, .unset, .unset] [])
      refine Go.st (fun _ h => XS.iload X40.here hx rfl (hb hby at_117) rfl h) ?_
      show Go p e below _ T40 (mkF m 119 #[.val (.int p1), .val (.int p2), .val (.int p3), .val (.int p4), .val (.int p5), .val (.int (2 : Int32)), .val (.int (own_key p2)), .val (.int (own_key p3)), .val (.int (own_key p4)), .val (.ref s38), .val (.ref s39), .val (.ref s40), .unset, .unset, .unset, .unset, .unset, .unset, .unset] [(.int (2 : Int32))])
      refine Go.st (fun _ h => XT.iconstV X40.here hx rfl (2 : Int32) (hb hby at_119) (by decide) h) ?_
      show Go p e below _ T40 (mkF m 120 #[.val (.int p1), .val (.int p2), .val (.int p3), .val (.int p4), .val (.int p5), .val (.int (2 : Int32)), .val (.int (own_key p2)), .val (.int (own_key p3)), .val (.int (own_key p4)), .val (.ref s38), .val (.ref s39), .val (.ref s40), .unset, .unset, .unset, .unset, .unset, .unset, .unset] [(.int (2 : Int32)), (.int (2 : Int32))])
      refine Go.st (fun _ h => XS.icmpNo X40.here hx rfl (hb hby at_120) rfl (by decide) h) ?_
      show Go p e below _ T40 (mkF m 123 #[.val (.int p1), .val (.int p2), .val (.int p3), .val (.int p4), .val (.int p5), .val (.int (2 : Int32)), .val (.int (own_key p2)), .val (.int (own_key p3)), .val (.int (own_key p4)), .val (.ref s38), .val (.ref s39), .val (.ref s40), .unset, .unset, .unset, .unset, .unset, .unset, .unset] [])
      refine Go.st (fun _ h => XT.iconstV X40.here hx rfl (4 : Int32) (hb hby at_123) (by decide) h) ?_
      show Go p e below _ T40 (mkF m 124 #[.val (.int p1), .val (.int p2), .val (.int p3), .val (.int p4), .val (.int p5), .val (.int (2 : Int32)), .val (.int (own_key p2)), .val (.int (own_key p3)), .val (.int (own_key p4)), .val (.ref s38), .val (.ref s39), .val (.ref s40), .unset, .unset, .unset, .unset, .unset, .unset, .unset] [(.int (4 : Int32))])
      obtain ⟨T41, h41, k41, X41, e41, E41, A41, O41, st41⟩ := newR X40 hx hZ hown (hw _ (List.mem_of_getElem? (i := 10) rfl)) (hw _ (List.mem_of_getElem? (i := 40) rfl)) rfl (g := (mkF m 124 #[.val (.int p1), .val (.int p2), .val (.int p3), .val (.int p4), .val (.int p5), .val (.int (2 : Int32)), .val (.int (own_key p2)), .val (.int (own_key p3)), .val (.int (own_key p4)), .val (.ref s38), .val (.ref s39), .val (.ref s40), .unset, .unset, .unset, .unset, .unset, .unset, .unset] [(.int (4 : Int32))])) rfl (hb hby at_124) rfl (by decide) (cap := 4) (by decide) (by decide) (by decide) (by decide)
      obtain ⟨o41, g41⟩ : ∃ z, z = T40.heap.size := ⟨_, rfl⟩
      rw [← g41] at A41 st41
      have ne_s38_o41 : s38 ≠ o41 := by rw [g41]; exact Nat.ne_of_lt E40_0.lt
      have ne_s39_o41 : s39 ≠ o41 := by rw [g41]; exact Nat.ne_of_lt E40_1.lt
      have ne_s40_o41 : s40 ≠ o41 := by rw [g41]; exact Nat.ne_of_lt Ec40.lt
      have ne_tv38_o41 : tv38 ≠ o41 := by rw [g41]; exact Nat.ne_of_lt V40_6.lt
      have ne_tv39_o41 : tv39 ≠ o41 := by rw [g41]; exact Nat.ne_of_lt V40_7.lt
      have ne_tv40_o41 : tv40 ≠ o41 := by rw [g41]; exact Nat.ne_of_lt Bc40.lt
      have le_o41 : h0.size ≤ o41 := by rw [g41]; exact K40.1
      have Q41_ : Safe Z consts_1 _ T40.heap o41 := Safe.new (vm := T40.vm) (by rw [g41]; exact Nat.le_refl _)
      have E41_0 := E40_0.ext E41
      have E41_1 := E40_1.ext E41
      have E41_2 := Ec40.ext E41
      have F41_3 := F40_2.ext E41
      have F41_4 := F40_3.ext E41
      have F41_5 := F40_4.ext E41
      have F41_6 := F40_5.ext E41
      have F41_7 := Cc40.ext E41
      have F41_8 := Vc40.ext E41
      have Q41_9 := Safe.ext E41 RR40.1 Q41_
      have V41_10 := V40_6.ext E41
      have V41_11 := V40_7.ext E41
      have V41_12 := Bc40.ext E41
      have K41 := K40.ext E41
      have RR41 := RR40.trans (CHr.ext E41 RR40.1)
      have hkS41 := Nat.le_trans (Nat.le_refl _) E41.1
      have V41 : Arv Z h41 o41 k41 (.object "java/lang/String") (4 : Int32) [.null, .null, .null, .null] .null := (Arv.new A41 (by decide)).pad (pad_rep [] .null 4)
      refine Go.st st41 ?_
      show Go p e below _ T41 (mkF m 127 #[.val (.int p1), .val (.int p2), .val (.int p3), .val (.int p4), .val (.int p5), .val (.int (2 : Int32)), .val (.int (own_key p2)), .val (.int (own_key p3)), .val (.int (own_key p4)), .val (.ref s38), .val (.ref s39), .val (.ref s40), .unset, .unset, .unset, .unset, .unset, .unset, .unset] [(.ref o41)])
      refine Go.st (fun _ h => XS.dup X41.here hx rfl (hb hby at_127) rfl rfl h) ?_
      show Go p e below _ T41 (mkF m 128 #[.val (.int p1), .val (.int p2), .val (.int p3), .val (.int p4), .val (.int p5), .val (.int (2 : Int32)), .val (.int (own_key p2)), .val (.int (own_key p3)), .val (.int (own_key p4)), .val (.ref s38), .val (.ref s39), .val (.ref s40), .unset, .unset, .unset, .unset, .unset, .unset, .unset] [(.ref o41), (.ref o41)])
      refine Go.st (fun _ h => XT.iconstV X41.here hx rfl (0 : Int32) (hb hby at_128) (by decide) h) ?_
      show Go p e below _ T41 (mkF m 129 #[.val (.int p1), .val (.int p2), .val (.int p3), .val (.int p4), .val (.int p5), .val (.int (2 : Int32)), .val (.int (own_key p2)), .val (.int (own_key p3)), .val (.int (own_key p4)), .val (.ref s38), .val (.ref s39), .val (.ref s40), .unset, .unset, .unset, .unset, .unset, .unset, .unset] [(.int (0 : Int32)), (.ref o41), (.ref o41)])
      refine Go.st (fun _ h => XS.aload X41.here hx rfl (hb hby at_129) rfl rfl h) ?_
      show Go p e below _ T41 (mkF m 131 #[.val (.int p1), .val (.int p2), .val (.int p3), .val (.int p4), .val (.int p5), .val (.int (2 : Int32)), .val (.int (own_key p2)), .val (.int (own_key p3)), .val (.int (own_key p4)), .val (.ref s38), .val (.ref s39), .val (.ref s40), .unset, .unset, .unset, .unset, .unset, .unset, .unset] [(.ref s38), (.int (0 : Int32)), (.ref o41), (.ref o41)])
      obtain ⟨T42, h42, X42, e42, W42, V42, st42⟩ := own_stR X41 hx hZ e41 (j := (0 : Int32)) V41 O41 (Ins.self E41_0) (by decide) (by decide) 0 (by decide) (by simp) (g := (mkF m 131 #[.val (.int p1), .val (.int p2), .val (.int p3), .val (.int p4), .val (.int p5), .val (.int (2 : Int32)), .val (.int (own_key p2)), .val (.int (own_key p3)), .val (.int (own_key p4)), .val (.ref s38), .val (.ref s39), .val (.ref s40), .unset, .unset, .unset, .unset, .unset, .unset, .unset] [(.ref s38), (.int (0 : Int32)), (.ref o41), (.ref o41)])) rfl rfl (hb hby at_131)
      have N42 := Fr.snoc X42 N40 (Nat.le_trans Z0 le_o41)
      have E42_0 := E41_0.wr W42
      have E42_1 := E41_1.wr W42
      have E42_2 := E41_2.wr W42
      have F42_3 := F41_3.other W42 (Or.inl ne_s38_o41)
      have F42_4 := F41_4.other W42 (Or.inl ne_s38_o41)
      have F42_5 := F41_5.other W42 (Or.inl ne_s39_o41)
      have F42_6 := F41_6.other W42 (Or.inl ne_s39_o41)
      have F42_7 := F41_7.other W42 (Or.inl ne_s40_o41)
      have F42_8 := F41_8.other W42 (Or.inl ne_s40_o41)
      have Q42_9 := Safe.wr W42 Q41_9 RR41.1 Q41_9
      have V42_11 := V41_10.other W42 ne_tv38_o41
      have V42_12 := V41_11.other W42 ne_tv39_o41
      have V42_13 := V41_12.other W42 ne_tv40_o41
      have K42 := K41.wr W42 (Or.inr le_o41)
      have RR42 := RR41.trans (CHr.wr W42 Q41_9 RR41.1)
      have hkS42 := Nat.le_trans hkS41 (Nat.le_of_eq W42.size.symm)
      have V42' : Arv Z h42 o41 k41 (.object "java/lang/String") (4 : Int32) [(.ref s38), .null, .null, .null] .null := V42
      refine Go.st st42 ?_
      show Go p e below _ T42 (mkF m 132 #[.val (.int p1), .val (.int p2), .val (.int p3), .val (.int p4), .val (.int p5), .val (.int (2 : Int32)), .val (.int (own_key p2)), .val (.int (own_key p3)), .val (.int (own_key p4)), .val (.ref s38), .val (.ref s39), .val (.ref s40), .unset, .unset, .unset, .unset, .unset, .unset, .unset] [(.ref o41)])
      refine Go.st (fun _ h => XS.dup X42.here hx rfl (hb hby at_132) rfl rfl h) ?_
      show Go p e below _ T42 (mkF m 133 #[.val (.int p1), .val (.int p2), .val (.int p3), .val (.int p4), .val (.int p5), .val (.int (2 : Int32)), .val (.int (own_key p2)), .val (.int (own_key p3)), .val (.int (own_key p4)), .val (.ref s38), .val (.ref s39), .val (.ref s40), .unset, .unset, .unset, .unset, .unset, .unset, .unset] [(.ref o41), (.ref o41)])
      refine Go.st (fun _ h => XT.iconstV X42.here hx rfl (1 : Int32) (hb hby at_133) (by decide) h) ?_
      show Go p e below _ T42 (mkF m 134 #[.val (.int p1), .val (.int p2), .val (.int p3), .val (.int p4), .val (.int p5), .val (.int (2 : Int32)), .val (.int (own_key p2)), .val (.int (own_key p3)), .val (.int (own_key p4)), .val (.ref s38), .val (.ref s39), .val (.ref s40), .unset, .unset, .unset, .unset, .unset, .unset, .unset] [(.int (1 : Int32)), (.ref o41), (.ref o41)])
      obtain ⟨c43, T43, h43, k43, t43, q43, X43, e43, E43, hS, hkS43, hZ, hown, A43, C43, V43, B43, lt43, lu43, CC43, -, nc43, st43⟩ := ldcCH (s := s) X42 hx hZ hown (hw _ (List.mem_of_getElem? (i := 48) rfl)) wS e42 hS hkS42 hEL (List.mem_of_getElem? (i := 0) rfl) RR42.1 (vs := [(.int (117 : Int32)), (.int (48 : Int32))]) (z := (2 : Int32)) ⟨by decide, by decide⟩ (by decide) (by decide) (g := (mkF m 134 #[.val (.int p1), .val (.int p2), .val (.int p3), .val (.int p4), .val (.int p5), .val (.int (2 : Int32)), .val (.int (own_key p2)), .val (.int (own_key p3)), .val (.int (own_key p4)), .val (.ref s38), .val (.ref s39), .val (.ref s40), .unset, .unset, .unset, .unset, .unset, .unset, .unset] [(.int (1 : Int32)), (.ref o41), (.ref o41)])) rfl (hb hby at_134) (n := 8) (by decide) (by decide) (by decide) (by decide)
      have E43_0 := E42_0.ext E43
      have E43_1 := E42_1.ext E43
      have E43_2 := E42_2.ext E43
      have F43_3 := F42_3.ext E43
      have F43_4 := F42_4.ext E43
      have F43_5 := F42_5.ext E43
      have F43_6 := F42_6.ext E43
      have F43_7 := F42_7.ext E43
      have F43_8 := F42_8.ext E43
      have Q43_9 := CC43.safe V42'.lt Q42_9
      have V43_10 := V42'.ext E43
      have V43_11 := V42_11.ext E43
      have V43_12 := V42_12.ext E43
      have V43_13 := V42_13.ext E43
      have K43 := K42.ext E43
      have RR43 := RR42.trans CC43
      have nc_o41_43 := nc43 _ Q43_9
      refine Go.st st43 ?_
      show Go p e below _ T43 (mkF m 136 #[.val (.int p1), .val (.int p2), .val (.int p3), .val (.int p4), .val (.int p5), .val (.int (2 : Int32)), .val (.int (own_key p2)), .val (.int (own_key p3)), .val (.int (own_key p4)), .val (.ref s38), .val (.ref s39), .val (.ref s40), .unset, .unset, .unset, .unset, .unset, .unset, .unset] [(.ref c43), (.int (1 : Int32)), (.ref o41), (.ref o41)])
      obtain ⟨T44, h44, X44, e44, W44, V44, st44⟩ := own_stR X43 hx hZ e43 (j := (1 : Int32)) V43_10 O41 (Ins.self A43) (by decide) (by decide) 1 (by decide) (by simp) (g := (mkF m 136 #[.val (.int p1), .val (.int p2), .val (.int p3), .val (.int p4), .val (.int p5), .val (.int (2 : Int32)), .val (.int (own_key p2)), .val (.int (own_key p3)), .val (.int (own_key p4)), .val (.ref s38), .val (.ref s39), .val (.ref s40), .unset, .unset, .unset, .unset, .unset, .unset, .unset] [(.ref c43), (.int (1 : Int32)), (.ref o41), (.ref o41)])) rfl rfl (hb hby at_136)
      have N44 := Fr.snoc X44 N42 (Nat.le_trans Z0 le_o41)
      have E44_0 := A43.wr W44
      have E44_1 := E43_0.wr W44
      have E44_2 := E43_1.wr W44
      have E44_3 := E43_2.wr W44
      have F44_4 := C43.other W44 (Or.inl (Ne.symm nc_o41_43.1))
      have F44_5 := V43.other W44 (Or.inl (Ne.symm nc_o41_43.1))
      have F44_6 := F43_3.other W44 (Or.inl ne_s38_o41)
      have F44_7 := F43_4.other W44 (Or.inl ne_s38_o41)
      have F44_8 := F43_5.other W44 (Or.inl ne_s39_o41)
      have F44_9 := F43_6.other W44 (Or.inl ne_s39_o41)
      have F44_10 := F43_7.other W44 (Or.inl ne_s40_o41)
      have F44_11 := F43_8.other W44 (Or.inl ne_s40_o41)
      have Q44_12 := Safe.wr W44 Q43_9 RR43.1 Q43_9
      have V44_14 := B43.other W44 (Ne.symm nc_o41_43.2)
      have V44_15 := V43_11.other W44 ne_tv38_o41
      have V44_16 := V43_12.other W44 ne_tv39_o41
      have V44_17 := V43_13.other W44 ne_tv40_o41
      have K44 := K43.wr W44 (Or.inr le_o41)
      have RR44 := RR43.trans (CHr.wr W44 Q43_9 RR43.1)
      have hkS44 := Nat.le_trans hkS43 (Nat.le_of_eq W44.size.symm)
      have V44' : Arv Z h44 o41 k41 (.object "java/lang/String") (4 : Int32) [(.ref s38), (.ref c43), .null, .null] .null := V44
      refine Go.st st44 ?_
      show Go p e below _ T44 (mkF m 137 #[.val (.int p1), .val (.int p2), .val (.int p3), .val (.int p4), .val (.int p5), .val (.int (2 : Int32)), .val (.int (own_key p2)), .val (.int (own_key p3)), .val (.int (own_key p4)), .val (.ref s38), .val (.ref s39), .val (.ref s40), .unset, .unset, .unset, .unset, .unset, .unset, .unset] [(.ref o41)])
      refine Go.st (fun _ h => XS.dup X44.here hx rfl (hb hby at_137) rfl rfl h) ?_
      show Go p e below _ T44 (mkF m 138 #[.val (.int p1), .val (.int p2), .val (.int p3), .val (.int p4), .val (.int p5), .val (.int (2 : Int32)), .val (.int (own_key p2)), .val (.int (own_key p3)), .val (.int (own_key p4)), .val (.ref s38), .val (.ref s39), .val (.ref s40), .unset, .unset, .unset, .unset, .unset, .unset, .unset] [(.ref o41), (.ref o41)])
      refine Go.st (fun _ h => XT.iconstV X44.here hx rfl (2 : Int32) (hb hby at_138) (by decide) h) ?_
      show Go p e below _ T44 (mkF m 139 #[.val (.int p1), .val (.int p2), .val (.int p3), .val (.int p4), .val (.int p5), .val (.int (2 : Int32)), .val (.int (own_key p2)), .val (.int (own_key p3)), .val (.int (own_key p4)), .val (.ref s38), .val (.ref s39), .val (.ref s40), .unset, .unset, .unset, .unset, .unset, .unset, .unset] [(.int (2 : Int32)), (.ref o41), (.ref o41)])
      refine Go.st (fun _ h => XS.aload X44.here hx rfl (hb hby at_139) rfl rfl h) ?_
      show Go p e below _ T44 (mkF m 141 #[.val (.int p1), .val (.int p2), .val (.int p3), .val (.int p4), .val (.int p5), .val (.int (2 : Int32)), .val (.int (own_key p2)), .val (.int (own_key p3)), .val (.int (own_key p4)), .val (.ref s38), .val (.ref s39), .val (.ref s40), .unset, .unset, .unset, .unset, .unset, .unset, .unset] [(.ref s39), (.int (2 : Int32)), (.ref o41), (.ref o41)])
      obtain ⟨T45, h45, X45, e45, W45, V45, st45⟩ := own_stR X44 hx hZ e44 (j := (2 : Int32)) V44' O41 (Ins.self E44_2) (by decide) (by decide) 2 (by decide) (by simp) (g := (mkF m 141 #[.val (.int p1), .val (.int p2), .val (.int p3), .val (.int p4), .val (.int p5), .val (.int (2 : Int32)), .val (.int (own_key p2)), .val (.int (own_key p3)), .val (.int (own_key p4)), .val (.ref s38), .val (.ref s39), .val (.ref s40), .unset, .unset, .unset, .unset, .unset, .unset, .unset] [(.ref s39), (.int (2 : Int32)), (.ref o41), (.ref o41)])) rfl rfl (hb hby at_141)
      have N45 := Fr.snoc X45 N44 (Nat.le_trans Z0 le_o41)
      have E45_0 := E44_0.wr W45
      have E45_1 := E44_1.wr W45
      have E45_2 := E44_2.wr W45
      have E45_3 := E44_3.wr W45
      have F45_4 := F44_4.other W45 (Or.inl (Ne.symm nc_o41_43.1))
      have F45_5 := F44_5.other W45 (Or.inl (Ne.symm nc_o41_43.1))
      have F45_6 := F44_6.other W45 (Or.inl ne_s38_o41)
      have F45_7 := F44_7.other W45 (Or.inl ne_s38_o41)
      have F45_8 := F44_8.other W45 (Or.inl ne_s39_o41)
      have F45_9 := F44_9.other W45 (Or.inl ne_s39_o41)
      have F45_10 := F44_10.other W45 (Or.inl ne_s40_o41)
      have F45_11 := F44_11.other W45 (Or.inl ne_s40_o41)
      have Q45_12 := Safe.wr W45 Q44_12 RR44.1 Q44_12
      have V45_14 := V44_14.other W45 (Ne.symm nc_o41_43.2)
      have V45_15 := V44_15.other W45 ne_tv38_o41
      have V45_16 := V44_16.other W45 ne_tv39_o41
      have V45_17 := V44_17.other W45 ne_tv40_o41
      have K45 := K44.wr W45 (Or.inr le_o41)
      have RR45 := RR44.trans (CHr.wr W45 Q44_12 RR44.1)
      have hkS45 := Nat.le_trans hkS44 (Nat.le_of_eq W45.size.symm)
      have V45' : Arv Z h45 o41 k41 (.object "java/lang/String") (4 : Int32) [(.ref s38), (.ref c43), (.ref s39), .null] .null := V45
      refine Go.st st45 ?_
      show Go p e below _ T45 (mkF m 142 #[.val (.int p1), .val (.int p2), .val (.int p3), .val (.int p4), .val (.int p5), .val (.int (2 : Int32)), .val (.int (own_key p2)), .val (.int (own_key p3)), .val (.int (own_key p4)), .val (.ref s38), .val (.ref s39), .val (.ref s40), .unset, .unset, .unset, .unset, .unset, .unset, .unset] [(.ref o41)])
      refine Go.st (fun _ h => XS.dup X45.here hx rfl (hb hby at_142) rfl rfl h) ?_
      show Go p e below _ T45 (mkF m 143 #[.val (.int p1), .val (.int p2), .val (.int p3), .val (.int p4), .val (.int p5), .val (.int (2 : Int32)), .val (.int (own_key p2)), .val (.int (own_key p3)), .val (.int (own_key p4)), .val (.ref s38), .val (.ref s39), .val (.ref s40), .unset, .unset, .unset, .unset, .unset, .unset, .unset] [(.ref o41), (.ref o41)])
      refine Go.st (fun _ h => XT.iconstV X45.here hx rfl (3 : Int32) (hb hby at_143) (by decide) h) ?_
      show Go p e below _ T45 (mkF m 144 #[.val (.int p1), .val (.int p2), .val (.int p3), .val (.int p4), .val (.int p5), .val (.int (2 : Int32)), .val (.int (own_key p2)), .val (.int (own_key p3)), .val (.int (own_key p4)), .val (.ref s38), .val (.ref s39), .val (.ref s40), .unset, .unset, .unset, .unset, .unset, .unset, .unset] [(.int (3 : Int32)), (.ref o41), (.ref o41)])
      obtain ⟨c46, T46, h46, k46, t46, q46, X46, e46, E46, hS, hkS46, hZ, hown, A46, C46, V46, B46, lt46, lu46, CC46, -, nc46, st46⟩ := ldcCH (s := s) X45 hx hZ hown (hw _ (List.mem_of_getElem? (i := 49) rfl)) wS e45 hS hkS45 hEL (List.mem_of_getElem? (i := 1) rfl) RR45.1 (vs := [(.int (117 : Int32)), (.int (49 : Int32))]) (z := (2 : Int32)) ⟨by decide, by decide⟩ (by decide) (by decide) (g := (mkF m 144 #[.val (.int p1), .val (.int p2), .val (.int p3), .val (.int p4), .val (.int p5), .val (.int (2 : Int32)), .val (.int (own_key p2)), .val (.int (own_key p3)), .val (.int (own_key p4)), .val (.ref s38), .val (.ref s39), .val (.ref s40), .unset, .unset, .unset, .unset, .unset, .unset, .unset] [(.int (3 : Int32)), (.ref o41), (.ref o41)])) rfl (hb hby at_144) (n := 8) (by decide) (by decide) (by decide) (by decide)
      have E46_0 := E45_0.ext E46
      have E46_1 := E45_1.ext E46
      have E46_2 := E45_2.ext E46
      have E46_3 := E45_3.ext E46
      have F46_4 := F45_4.ext E46
      have F46_5 := F45_5.ext E46
      have F46_6 := F45_6.ext E46
      have F46_7 := F45_7.ext E46
      have F46_8 := F45_8.ext E46
      have F46_9 := F45_9.ext E46
      have F46_10 := F45_10.ext E46
      have F46_11 := F45_11.ext E46
      have Q46_12 := CC46.safe V45'.lt Q45_12
      have V46_13 := V45'.ext E46
      have V46_14 := V45_14.ext E46
      have V46_15 := V45_15.ext E46
      have V46_16 := V45_16.ext E46
      have V46_17 := V45_17.ext E46
      have K46 := K45.ext E46
      have RR46 := RR45.trans CC46
      have nc_o41_46 := nc46 _ Q46_12
      refine Go.st st46 ?_
      show Go p e below _ T46 (mkF m 146 #[.val (.int p1), .val (.int p2), .val (.int p3), .val (.int p4), .val (.int p5), .val (.int (2 : Int32)), .val (.int (own_key p2)), .val (.int (own_key p3)), .val (.int (own_key p4)), .val (.ref s38), .val (.ref s39), .val (.ref s40), .unset, .unset, .unset, .unset, .unset, .unset, .unset] [(.ref c46), (.int (3 : Int32)), (.ref o41), (.ref o41)])
      obtain ⟨T47, h47, X47, e47, W47, V47, st47⟩ := own_stR X46 hx hZ e46 (j := (3 : Int32)) V46_13 O41 (Ins.self A46) (by decide) (by decide) 3 (by decide) (by simp) (g := (mkF m 146 #[.val (.int p1), .val (.int p2), .val (.int p3), .val (.int p4), .val (.int p5), .val (.int (2 : Int32)), .val (.int (own_key p2)), .val (.int (own_key p3)), .val (.int (own_key p4)), .val (.ref s38), .val (.ref s39), .val (.ref s40), .unset, .unset, .unset, .unset, .unset, .unset, .unset] [(.ref c46), (.int (3 : Int32)), (.ref o41), (.ref o41)])) rfl rfl (hb hby at_146)
      have N47 := Fr.snoc X47 N45 (Nat.le_trans Z0 le_o41)
      have E47_0 := E46_0.wr W47
      have E47_1 := A46.wr W47
      have E47_2 := E46_1.wr W47
      have E47_3 := E46_2.wr W47
      have E47_4 := E46_3.wr W47
      have F47_5 := F46_4.other W47 (Or.inl (Ne.symm nc_o41_43.1))
      have F47_6 := F46_5.other W47 (Or.inl (Ne.symm nc_o41_43.1))
      have F47_7 := C46.other W47 (Or.inl (Ne.symm nc_o41_46.1))
      have F47_8 := V46.other W47 (Or.inl (Ne.symm nc_o41_46.1))
      have F47_9 := F46_6.other W47 (Or.inl ne_s38_o41)
      have F47_10 := F46_7.other W47 (Or.inl ne_s38_o41)
      have F47_11 := F46_8.other W47 (Or.inl ne_s39_o41)
      have F47_12 := F46_9.other W47 (Or.inl ne_s39_o41)
      have F47_13 := F46_10.other W47 (Or.inl ne_s40_o41)
      have F47_14 := F46_11.other W47 (Or.inl ne_s40_o41)
      have Q47_15 := Safe.wr W47 Q46_12 RR46.1 Q46_12
      have V47_17 := V46_14.other W47 (Ne.symm nc_o41_43.2)
      have V47_18 := B46.other W47 (Ne.symm nc_o41_46.2)
      have V47_19 := V46_15.other W47 ne_tv38_o41
      have V47_20 := V46_16.other W47 ne_tv39_o41
      have V47_21 := V46_17.other W47 ne_tv40_o41
      have K47 := K46.wr W47 (Or.inr le_o41)
      have RR47 := RR46.trans (CHr.wr W47 Q46_12 RR46.1)
      have hkS47 := Nat.le_trans hkS46 (Nat.le_of_eq W47.size.symm)
      have V47' : Arv Z h47 o41 k41 (.object "java/lang/String") (4 : Int32) [(.ref s38), (.ref c43), (.ref s39), (.ref c46)] .null := V47
      refine Go.st st47 ?_
      show Go p e below _ T47 (mkF m 147 #[.val (.int p1), .val (.int p2), .val (.int p3), .val (.int p4), .val (.int p5), .val (.int (2 : Int32)), .val (.int (own_key p2)), .val (.int (own_key p3)), .val (.int (own_key p4)), .val (.ref s38), .val (.ref s39), .val (.ref s40), .unset, .unset, .unset, .unset, .unset, .unset, .unset] [(.ref o41)])
      refine Go.st (fun _ h => XS.astore X47.here hx rfl (hb hby at_147) rfl rfl (l' := #[.val (.int p1), .val (.int p2), .val (.int p3), .val (.int p4), .val (.int p5), .val (.int (2 : Int32)), .val (.int (own_key p2)), .val (.int (own_key p3)), .val (.int (own_key p4)), .val (.ref s38), .val (.ref s39), .val (.ref s40), .val (.ref o41), .unset, .unset, .unset, .unset, .unset, .unset]) rfl h) ?_
      show Go p e below _ T47 (mkF m 149 #[.val (.int p1), .val (.int p2), .val (.int p3), .val (.int p4), .val (.int p5), .val (.int (2 : Int32)), .val (.int (own_key p2)), .val (.int (own_key p3)), .val (.int (own_key p4)), .val (.ref s38), .val (.ref s39), .val (.ref s40), .val (.ref o41), .unset, .unset, .unset, .unset, .unset, .unset] [])
      refine Go.st (fun _ h => XS.goto X47.here hx rfl (pc0 := 149) (pc' := 189) rfl (hb hby at_149) (by decide) (by decide) h) ?_
      show Go p e below _ T47 (mkF m 189 #[.val (.int p1), .val (.int p2), .val (.int p3), .val (.int p4), .val (.int p5), .val (.int (2 : Int32)), .val (.int (own_key p2)), .val (.int (own_key p3)), .val (.int (own_key p4)), .val (.ref s38), .val (.ref s39), .val (.ref s40), .val (.ref o41), .unset, .unset, .unset, .unset, .unset, .unset] [])
      refine Go.st (fun _ h => XS.iload X47.here hx rfl (hb hby at_189) rfl h) ?_
      show Go p e below _ T47 (mkF m 191 #[.val (.int p1), .val (.int p2), .val (.int p3), .val (.int p4), .val (.int p5), .val (.int (2 : Int32)), .val (.int (own_key p2)), .val (.int (own_key p3)), .val (.int (own_key p4)), .val (.ref s38), .val (.ref s39), .val (.ref s40), .val (.ref o41), .unset, .unset, .unset, .unset, .unset, .unset] [(.int p5)])
      refine Go.st (fun _ h => XT.iconstV X47.here hx rfl (3 : Int32) (hb hby at_191) (by decide) h) ?_
      show Go p e below _ T47 (mkF m 192 #[.val (.int p1), .val (.int p2), .val (.int p3), .val (.int p4), .val (.int p5), .val (.int (2 : Int32)), .val (.int (own_key p2)), .val (.int (own_key p3)), .val (.int (own_key p4)), .val (.ref s38), .val (.ref s39), .val (.ref s40), .val (.ref o41), .unset, .unset, .unset, .unset, .unset, .unset] [(.int (3 : Int32)), (.int p5)])
      refine Go.st (fun _ h => XS.iand X47.here hx rfl (hb hby at_192) rfl h) ?_
      show Go p e below _ T47 (mkF m 193 #[.val (.int p1), .val (.int p2), .val (.int p3), .val (.int p4), .val (.int p5), .val (.int (2 : Int32)), .val (.int (own_key p2)), .val (.int (own_key p3)), .val (.int (own_key p4)), .val (.ref s38), .val (.ref s39), .val (.ref s40), .val (.ref o41), .unset, .unset, .unset, .unset, .unset, .unset] [(.int (p5 &&& (3 : Int32)))])
      refine Go.st (fun _ h => XS.istore X47.here hx rfl (hb hby at_193) rfl (l' := #[.val (.int p1), .val (.int p2), .val (.int p3), .val (.int p4), .val (.int p5), .val (.int (2 : Int32)), .val (.int (own_key p2)), .val (.int (own_key p3)), .val (.int (own_key p4)), .val (.ref s38), .val (.ref s39), .val (.ref s40), .val (.ref o41), .val (.int (p5 &&& (3 : Int32))), .unset, .unset, .unset, .unset, .unset]) rfl h) ?_
      show Go p e below _ T47 (mkF m 195 #[.val (.int p1), .val (.int p2), .val (.int p3), .val (.int p4), .val (.int p5), .val (.int (2 : Int32)), .val (.int (own_key p2)), .val (.int (own_key p3)), .val (.int (own_key p4)), .val (.ref s38), .val (.ref s39), .val (.ref s40), .val (.ref o41), .val (.int (p5 &&& (3 : Int32))), .unset, .unset, .unset, .unset, .unset] [])
      have KK : ∀ z : Int32, Go p e below (EndsH Z consts_1 s room_1.cells room_1.slots (fun v h L => v = some (.int 1) ∧ Fr n0 L)) T47 (mkF m 236 #[.val (.int p1), .val (.int p2), .val (.int p3), .val (.int p4), .val (.int p5), .val (.int (2 : Int32)), .val (.int (own_key p2)), .val (.int (own_key p3)), .val (.int (own_key p4)), .val (.ref s38), .val (.ref s39), .val (.ref s40), .val (.ref o41), .val (.int (p5 &&& (3 : Int32))), .val (.int z), .unset, .unset, .unset, .unset] []) := by
        intro z
        refine Go.st (fun _ h => XS.iload X47.here hx rfl (hb hby at_236) rfl h) ?_
        show Go p e below _ T47 (mkF m 238 #[.val (.int p1), .val (.int p2), .val (.int p3), .val (.int p4), .val (.int p5), .val (.int (2 : Int32)), .val (.int (own_key p2)), .val (.int (own_key p3)), .val (.int (own_key p4)), .val (.ref s38), .val (.ref s39), .val (.ref s40), .val (.ref o41), .val (.int (p5 &&& (3 : Int32))), .val (.int z), .unset, .unset, .unset, .unset] [(.int z)])
        obtain ⟨_, T48, L48, X48, hZ, hown, hS, RR48, ⟨s48, tv48, kv48, rfl, Nc48, Kc48, lec48, Ec48, Cc48, Vc48, Bc48⟩, st48⟩ := DoesH.static (s := s) (y := (⟨"com/example/tenon/tenon/core/XmlElementDeclaredPinLaw", "mk", "(I)Ljava/lang/String;"⟩ : MethodName)) (g := (mkF m 238 #[.val (.int p1), .val (.int p2), .val (.int p3), .val (.int p4), .val (.int p5), .val (.int (2 : Int32)), .val (.int (own_key p2)), .val (.int (own_key p3)), .val (.int (own_key p4)), .val (.ref s38), .val (.ref s39), .val (.ref s40), .val (.ref o41), .val (.int (p5 &&& (3 : Int32))), .val (.int z), .unset, .unset, .unset, .unset] [(.int z)])) (rmMk l Z a0 hw hEL wS z h47 n0 (Nat.le_trans Z0 K47.1) zc (S_CS.ext (own_ext K47)) hzc) X47 hx hZ hown e47 hEL RR47 hS hkS47 (hw _ (List.mem_of_getElem? (i := 7) rfl)) (hw _ (List.mem_of_getElem? (i := 8) rfl)) (hw _ (List.mem_of_getElem? (i := 2) rfl)) (hw _ (List.mem_of_getElem? (i := 9) rfl)) (by decide) rfl (by rw [hml]; rfl) (argsL := [(.int z)]) (rest := []) (lenOf pd_28I29Ljava2flang2fString3b rfl) rfl (hb hby at_238) (W := 0) (by show 2 * 0 + _ ≤ _; exact Nat.le_of_eq rfl) (by decide) (by decide) (by decide) (by decide)
        have E48_0 := E47_0.keep Kc48
        have E48_1 := E47_1.keep Kc48
        have E48_2 := E47_2.keep Kc48
        have E48_3 := E47_3.keep Kc48
        have E48_4 := E47_4.keep Kc48
        have F48_5 := F47_5.keep Kc48 nin0
        have F48_6 := F47_6.keep Kc48 nin0
        have F48_7 := F47_7.keep Kc48 nin0
        have F48_8 := F47_8.keep Kc48 nin0
        have F48_9 := F47_9.keep Kc48 nin0
        have F48_10 := F47_10.keep Kc48 nin0
        have F48_11 := F47_11.keep Kc48 nin0
        have F48_12 := F47_12.keep Kc48 nin0
        have F48_13 := F47_13.keep Kc48 nin0
        have F48_14 := F47_14.keep Kc48 nin0
        have V48_16 := V47'.keep Kc48 nin0
        have V48_17 := V47_17.keep Kc48 nin0
        have V48_18 := V47_18.keep Kc48 nin0
        have V48_19 := V47_19.keep Kc48 nin0
        have V48_20 := V47_20.keep Kc48 nin0
        have V48_21 := V47_21.keep Kc48 nin0
        have K48 := K47.trans Kc48 all0
        have N48 := Fr.app N47 Nc48
        have ne_c43_s48 : c43 ≠ s48 := Nat.ne_of_lt (Nat.lt_of_lt_of_le E47_0.lt lec48)
        have ne_c46_s48 : c46 ≠ s48 := Nat.ne_of_lt (Nat.lt_of_lt_of_le E47_1.lt lec48)
        have ne_s38_s48 : s38 ≠ s48 := Nat.ne_of_lt (Nat.lt_of_lt_of_le E47_2.lt lec48)
        have ne_s39_s48 : s39 ≠ s48 := Nat.ne_of_lt (Nat.lt_of_lt_of_le E47_3.lt lec48)
        have ne_s40_s48 : s40 ≠ s48 := Nat.ne_of_lt (Nat.lt_of_lt_of_le E47_4.lt lec48)
        have ne_t43_s48 : t43 ≠ s48 := Nat.ne_of_lt (Nat.lt_of_lt_of_le V47_17.lt lec48)
        have ne_t46_s48 : t46 ≠ s48 := Nat.ne_of_lt (Nat.lt_of_lt_of_le V47_18.lt lec48)
        have ne_tv38_s48 : tv38 ≠ s48 := Nat.ne_of_lt (Nat.lt_of_lt_of_le V47_19.lt lec48)
        have ne_tv39_s48 : tv39 ≠ s48 := Nat.ne_of_lt (Nat.lt_of_lt_of_le V47_20.lt lec48)
        have ne_tv40_s48 : tv40 ≠ s48 := Nat.ne_of_lt (Nat.lt_of_lt_of_le V47_21.lt lec48)
        have ne_o41_s48 : o41 ≠ s48 := Nat.ne_of_lt (Nat.lt_of_lt_of_le V47'.lt lec48)
        refine Go.st st48 ?_
        show Go p e below _ T48 (mkF m 241 #[.val (.int p1), .val (.int p2), .val (.int p3), .val (.int p4), .val (.int p5), .val (.int (2 : Int32)), .val (.int (own_key p2)), .val (.int (own_key p3)), .val (.int (own_key p4)), .val (.ref s38), .val (.ref s39), .val (.ref s40), .val (.ref o41), .val (.int (p5 &&& (3 : Int32))), .val (.int z), .unset, .unset, .unset, .unset] [(.ref s48)])
        refine Go.st (fun _ h => XS.astore X48.here hx rfl (hb hby at_241) rfl rfl (l' := #[.val (.int p1), .val (.int p2), .val (.int p3), .val (.int p4), .val (.int p5), .val (.int (2 : Int32)), .val (.int (own_key p2)), .val (.int (own_key p3)), .val (.int (own_key p4)), .val (.ref s38), .val (.ref s39), .val (.ref s40), .val (.ref o41), .val (.int (p5 &&& (3 : Int32))), .val (.int z), .val (.ref s48), .unset, .unset, .unset]) rfl h) ?_
        show Go p e below _ T48 (mkF m 243 #[.val (.int p1), .val (.int p2), .val (.int p3), .val (.int p4), .val (.int p5), .val (.int (2 : Int32)), .val (.int (own_key p2)), .val (.int (own_key p3)), .val (.int (own_key p4)), .val (.ref s38), .val (.ref s39), .val (.ref s40), .val (.ref o41), .val (.int (p5 &&& (3 : Int32))), .val (.int z), .val (.ref s48), .unset, .unset, .unset] [])
        refine Go.st (fun _ h => XS.iload X48.here hx rfl (hb hby at_243) rfl h) ?_
        show Go p e below _ T48 (mkF m 245 #[.val (.int p1), .val (.int p2), .val (.int p3), .val (.int p4), .val (.int p5), .val (.int (2 : Int32)), .val (.int (own_key p2)), .val (.int (own_key p3)), .val (.int (own_key p4)), .val (.ref s38), .val (.ref s39), .val (.ref s40), .val (.ref o41), .val (.int (p5 &&& (3 : Int32))), .val (.int z), .val (.ref s48), .unset, .unset, .unset] [(.int z)])
        obtain ⟨T49, X49, e49, st49⟩ := own_still rfl rfl (Does.static (y := (⟨"com/example/tenon/tenon/core/XmlElementDeclaredPinLaw", "key", "(I)I"⟩ : MethodName)) (g := (mkF m 245 #[.val (.int p1), .val (.int p2), .val (.int p3), .val (.int p4), .val (.int p5), .val (.int (2 : Int32)), .val (.int (own_key p2)), .val (.int (own_key p3)), .val (.int (own_key p4)), .val (.ref s38), .val (.ref s39), .val (.ref s40), .val (.ref o41), .val (.int (p5 &&& (3 : Int32))), .val (.int z), .val (.ref s48), .unset, .unset, .unset] [(.int z)])) (rmKey l Z a0 hw z T48.heap) X48 hx hZ hown rfl (hw _ (List.mem_of_getElem? (i := 0) rfl)) (hw _ (List.mem_of_getElem? (i := 1) rfl)) (hw _ (List.mem_of_getElem? (i := 2) rfl)) (hw _ (List.mem_of_getElem? (i := 3) rfl)) (by decide) rfl (by rw [hml]; rfl) (argsL := [(.int z)]) (rest := []) (lenOf pd_28I29I rfl) rfl (hb hby at_245) (W := 0) (by show 2 * 0 + _ ≤ _; exact Nat.le_of_eq rfl) (by decide) (by decide) (by decide) (by decide))
        refine Go.st st49 ?_
        show Go p e below _ T49 (mkF m 248 #[.val (.int p1), .val (.int p2), .val (.int p3), .val (.int p4), .val (.int p5), .val (.int (2 : Int32)), .val (.int (own_key p2)), .val (.int (own_key p3)), .val (.int (own_key p4)), .val (.ref s38), .val (.ref s39), .val (.ref s40), .val (.ref o41), .val (.int (p5 &&& (3 : Int32))), .val (.int z), .val (.ref s48), .unset, .unset, .unset] [(.int (own_key z))])
        refine Go.st (fun _ h => XS.istore X49.here hx rfl (hb hby at_248) rfl (l' := #[.val (.int p1), .val (.int p2), .val (.int p3), .val (.int p4), .val (.int p5), .val (.int (2 : Int32)), .val (.int (own_key p2)), .val (.int (own_key p3)), .val (.int (own_key p4)), .val (.ref s38), .val (.ref s39), .val (.ref s40), .val (.ref o41), .val (.int (p5 &&& (3 : Int32))), .val (.int z), .val (.ref s48), .val (.int (own_key z)), .unset, .unset]) rfl h) ?_
        show Go p e below _ T49 (mkF m 250 #[.val (.int p1), .val (.int p2), .val (.int p3), .val (.int p4), .val (.int p5), .val (.int (2 : Int32)), .val (.int (own_key p2)), .val (.int (own_key p3)), .val (.int (own_key p4)), .val (.ref s38), .val (.ref s39), .val (.ref s40), .val (.ref o41), .val (.int (p5 &&& (3 : Int32))), .val (.int z), .val (.ref s48), .val (.int (own_key z)), .unset, .unset] [])
        refine Go.st (fun _ h => XS.aconstNull X49.here hx rfl (hb hby at_250) h) ?_
        show Go p e below _ T49 (mkF m 251 #[.val (.int p1), .val (.int p2), .val (.int p3), .val (.int p4), .val (.int p5), .val (.int (2 : Int32)), .val (.int (own_key p2)), .val (.int (own_key p3)), .val (.int (own_key p4)), .val (.ref s38), .val (.ref s39), .val (.ref s40), .val (.ref o41), .val (.int (p5 &&& (3 : Int32))), .val (.int z), .val (.ref s48), .val (.int (own_key z)), .unset, .unset] [.null])
        refine Go.st (fun _ h => XS.astore X49.here hx rfl (hb hby at_251) rfl rfl (l' := #[.val (.int p1), .val (.int p2), .val (.int p3), .val (.int p4), .val (.int p5), .val (.int (2 : Int32)), .val (.int (own_key p2)), .val (.int (own_key p3)), .val (.int (own_key p4)), .val (.ref s38), .val (.ref s39), .val (.ref s40), .val (.ref o41), .val (.int (p5 &&& (3 : Int32))), .val (.int z), .val (.ref s48), .val (.int (own_key z)), .val .null, .unset]) rfl h) ?_
        show Go p e below _ T49 (mkF m 253 #[.val (.int p1), .val (.int p2), .val (.int p3), .val (.int p4), .val (.int p5), .val (.int (2 : Int32)), .val (.int (own_key p2)), .val (.int (own_key p3)), .val (.int (own_key p4)), .val (.ref s38), .val (.ref s39), .val (.ref s40), .val (.ref o41), .val (.int (p5 &&& (3 : Int32))), .val (.int z), .val (.ref s48), .val (.int (own_key z)), .val .null, .unset] [])
        refine Go.st (fun _ h => XS.iload X49.here hx rfl (hb hby at_253) rfl h) ?_
        show Go p e below _ T49 (mkF m 255 #[.val (.int p1), .val (.int p2), .val (.int p3), .val (.int p4), .val (.int p5), .val (.int (2 : Int32)), .val (.int (own_key p2)), .val (.int (own_key p3)), .val (.int (own_key p4)), .val (.ref s38), .val (.ref s39), .val (.ref s40), .val (.ref o41), .val (.int (p5 &&& (3 : Int32))), .val (.int z), .val (.ref s48), .val (.int (own_key z)), .val .null, .unset] [(.int (2 : Int32))])
        refine Go.st (fun _ h => XT.iconstV X49.here hx rfl (1 : Int32) (hb hby at_255) (by decide) h) ?_
        show Go p e below _ T49 (mkF m 256 #[.val (.int p1), .val (.int p2), .val (.int p3), .val (.int p4), .val (.int p5), .val (.int (2 : Int32)), .val (.int (own_key p2)), .val (.int (own_key p3)), .val (.int (own_key p4)), .val (.ref s38), .val (.ref s39), .val (.ref s40), .val (.ref o41), .val (.int (p5 &&& (3 : Int32))), .val (.int z), .val (.ref s48), .val (.int (own_key z)), .val .null, .unset] [(.int (1 : Int32)), (.int (2 : Int32))])
        refine Go.st (fun _ h => XS.icmpNo X49.here hx rfl (hb hby at_256) rfl (by decide) h) ?_
        show Go p e below _ T49 (mkF m 259 #[.val (.int p1), .val (.int p2), .val (.int p3), .val (.int p4), .val (.int p5), .val (.int (2 : Int32)), .val (.int (own_key p2)), .val (.int (own_key p3)), .val (.int (own_key p4)), .val (.ref s38), .val (.ref s39), .val (.ref s40), .val (.ref o41), .val (.int (p5 &&& (3 : Int32))), .val (.int z), .val (.ref s48), .val (.int (own_key z)), .val .null, .unset] [])
        refine Go.st (fun _ h => XS.iload X49.here hx rfl (hb hby at_259) rfl h) ?_
        show Go p e below _ T49 (mkF m 261 #[.val (.int p1), .val (.int p2), .val (.int p3), .val (.int p4), .val (.int p5), .val (.int (2 : Int32)), .val (.int (own_key p2)), .val (.int (own_key p3)), .val (.int (own_key p4)), .val (.ref s38), .val (.ref s39), .val (.ref s40), .val (.ref o41), .val (.int (p5 &&& (3 : Int32))), .val (.int z), .val (.ref s48), .val (.int (own_key z)), .val .null, .unset] [(.int (own_key z))])
        refine Go.st (fun _ h => XS.iload X49.here hx rfl (hb hby at_261) rfl h) ?_
        show Go p e below _ T49 (mkF m 263 #[.val (.int p1), .val (.int p2), .val (.int p3), .val (.int p4), .val (.int p5), .val (.int (2 : Int32)), .val (.int (own_key p2)), .val (.int (own_key p3)), .val (.int (own_key p4)), .val (.ref s38), .val (.ref s39), .val (.ref s40), .val (.ref o41), .val (.int (p5 &&& (3 : Int32))), .val (.int z), .val (.ref s48), .val (.int (own_key z)), .val .null, .unset] [(.int (own_key p2)), (.int (own_key z))])
        by_cases hc50 : (own_key z) = (own_key p2)
        · refine Go.st (fun _ h => XS.icmpNo X49.here hx rfl (hb hby at_263) rfl ((teq hc50).2) h) ?_
          show Go p e below _ T49 (mkF m 266 #[.val (.int p1), .val (.int p2), .val (.int p3), .val (.int p4), .val (.int p5), .val (.int (2 : Int32)), .val (.int (own_key p2)), .val (.int (own_key p3)), .val (.int (own_key p4)), .val (.ref s38), .val (.ref s39), .val (.ref s40), .val (.ref o41), .val (.int (p5 &&& (3 : Int32))), .val (.int z), .val (.ref s48), .val (.int (own_key z)), .val .null, .unset] [])
          obtain ⟨c51, T51, h51, k51, t51, q51, X51, e51, E51, hS, hkS51, hZ, hown, A51, C51, V51, B51, lt51, lu51, CC51, -, nc51, st51⟩ := ldcCH (s := s) X49 hx hZ hown (hw _ (List.mem_of_getElem? (i := 48) rfl)) wS e49 hS (Nat.le_refl _) hEL (List.mem_of_getElem? (i := 0) rfl) RR48.1 (vs := [(.int (117 : Int32)), (.int (48 : Int32))]) (z := (2 : Int32)) ⟨by decide, by decide⟩ (by decide) (by decide) (g := (mkF m 266 #[.val (.int p1), .val (.int p2), .val (.int p3), .val (.int p4), .val (.int p5), .val (.int (2 : Int32)), .val (.int (own_key p2)), .val (.int (own_key p3)), .val (.int (own_key p4)), .val (.ref s38), .val (.ref s39), .val (.ref s40), .val (.ref o41), .val (.int (p5 &&& (3 : Int32))), .val (.int z), .val (.ref s48), .val (.int (own_key z)), .val .null, .unset] [])) rfl (hb hby at_266) (n := 8) (by decide) (by decide) (by decide) (by decide)
          have E51_0 := E48_0.ext E51
          have E51_1 := E48_1.ext E51
          have E51_2 := E48_2.ext E51
          have E51_3 := E48_3.ext E51
          have E51_4 := E48_4.ext E51
          have E51_5 := Ec48.ext E51
          have F51_6 := F48_5.ext E51
          have F51_7 := F48_6.ext E51
          have F51_8 := F48_7.ext E51
          have F51_9 := F48_8.ext E51
          have F51_10 := F48_9.ext E51
          have F51_11 := F48_10.ext E51
          have F51_12 := F48_11.ext E51
          have F51_13 := F48_12.ext E51
          have F51_14 := F48_13.ext E51
          have F51_15 := F48_14.ext E51
          have F51_16 := Cc48.ext E51
          have F51_17 := Vc48.ext E51
          have V51_18 := V48_16.ext E51
          have V51_19 := V48_17.ext E51
          have V51_20 := V48_18.ext E51
          have V51_21 := V48_19.ext E51
          have V51_22 := V48_20.ext E51
          have V51_23 := V48_21.ext E51
          have V51_24 := Bc48.ext E51
          have K51 := K48.ext E51
          have RR51 := RR48.trans CC51
          refine Go.st st51 ?_
          show Go p e below _ T51 (mkF m 268 #[.val (.int p1), .val (.int p2), .val (.int p3), .val (.int p4), .val (.int p5), .val (.int (2 : Int32)), .val (.int (own_key p2)), .val (.int (own_key p3)), .val (.int (own_key p4)), .val (.ref s38), .val (.ref s39), .val (.ref s40), .val (.ref o41), .val (.int (p5 &&& (3 : Int32))), .val (.int z), .val (.ref s48), .val (.int (own_key z)), .val .null, .unset] [(.ref c51)])
          refine Go.st (fun _ h => XS.astore X51.here hx rfl (hb hby at_268) rfl rfl (l' := #[.val (.int p1), .val (.int p2), .val (.int p3), .val (.int p4), .val (.int p5), .val (.int (2 : Int32)), .val (.int (own_key p2)), .val (.int (own_key p3)), .val (.int (own_key p4)), .val (.ref s38), .val (.ref s39), .val (.ref s40), .val (.ref o41), .val (.int (p5 &&& (3 : Int32))), .val (.int z), .val (.ref s48), .val (.int (own_key z)), .val (.ref c51), .unset]) rfl h) ?_
          show Go p e below _ T51 (mkF m 270 #[.val (.int p1), .val (.int p2), .val (.int p3), .val (.int p4), .val (.int p5), .val (.int (2 : Int32)), .val (.int (own_key p2)), .val (.int (own_key p3)), .val (.int (own_key p4)), .val (.ref s38), .val (.ref s39), .val (.ref s40), .val (.ref o41), .val (.int (p5 &&& (3 : Int32))), .val (.int z), .val (.ref s48), .val (.int (own_key z)), .val (.ref c51), .unset] [])
          refine Go.st (fun _ h => XS.goto X51.here hx rfl (pc0 := 270) (pc' := 310) rfl (hb hby at_270) (by decide) (by decide) h) ?_
          show Go p e below _ T51 (mkF m 310 #[.val (.int p1), .val (.int p2), .val (.int p3), .val (.int p4), .val (.int p5), .val (.int (2 : Int32)), .val (.int (own_key p2)), .val (.int (own_key p3)), .val (.int (own_key p4)), .val (.ref s38), .val (.ref s39), .val (.ref s40), .val (.ref o41), .val (.int (p5 &&& (3 : Int32))), .val (.int z), .val (.ref s48), .val (.int (own_key z)), .val (.ref c51), .unset] [])
          refine Go.st (fun _ h => XS.aload X51.here hx rfl (hb hby at_310) rfl rfl h) ?_
          show Go p e below _ T51 (mkF m 312 #[.val (.int p1), .val (.int p2), .val (.int p3), .val (.int p4), .val (.int p5), .val (.int (2 : Int32)), .val (.int (own_key p2)), .val (.int (own_key p3)), .val (.int (own_key p4)), .val (.ref s38), .val (.ref s39), .val (.ref s40), .val (.ref o41), .val (.int (p5 &&& (3 : Int32))), .val (.int z), .val (.ref s48), .val (.int (own_key z)), .val (.ref c51), .unset] [(.ref o41)])
          refine Go.st (fun _ h => XS.aload X51.here hx rfl (hb hby at_312) rfl rfl h) ?_
          show Go p e below _ T51 (mkF m 314 #[.val (.int p1), .val (.int p2), .val (.int p3), .val (.int p4), .val (.int p5), .val (.int (2 : Int32)), .val (.int (own_key p2)), .val (.int (own_key p3)), .val (.int (own_key p4)), .val (.ref s38), .val (.ref s39), .val (.ref s40), .val (.ref o41), .val (.int (p5 &&& (3 : Int32))), .val (.int z), .val (.ref s48), .val (.int (own_key z)), .val (.ref c51), .unset] [(.ref s48), (.ref o41)])
          obtain ⟨T52, X52, e52, st52⟩ := own_still rfl rfl (Does.static (y := (⟨"com/example/tenon/tenon/core/XmlElement", "declared", "([Ljava/lang/String;Ljava/lang/String;)Ljava/lang/String;"⟩ : MethodName)) (g := (mkF m 314 #[.val (.int p1), .val (.int p2), .val (.int p3), .val (.int p4), .val (.int p5), .val (.int (2 : Int32)), .val (.int (own_key p2)), .val (.int (own_key p3)), .val (.int (own_key p4)), .val (.ref s38), .val (.ref s39), .val (.ref s40), .val (.ref o41), .val (.int (p5 &&& (3 : Int32))), .val (.int z), .val (.ref s48), .val (.int (own_key z)), .val (.ref c51), .unset] [(.ref s48), (.ref o41)])) (rmDecl2_0 l Z a0 hw o41 s48 tv48 k41 kv48 (own_str z) (own_str2 _) s38 c43 tv38 kv38 (own_str p2) (own_str2 _) ne_s38_s48 s39 c46 tv39 kv39 (own_str p3) (own_str2 _) ne_s39_s48 h51 E51_5 F51_16 F51_17 V51_24 E51_2 F51_10 F51_11 V51_21 E51_3 F51_12 F51_13 V51_22 V51_18 zc (S_CS.ext (own_ext K51)) hzc (own_inj.mp hc50).symm) X51 hx hZ hown e51 (hw _ (List.mem_of_getElem? (i := 41) rfl)) (hw _ (List.mem_of_getElem? (i := 42) rfl)) (hw _ (List.mem_of_getElem? (i := 43) rfl)) (hw _ (List.mem_of_getElem? (i := 44) rfl)) (by decide) rfl (by rw [hml]; rfl) (argsL := [(.ref o41), (.ref s48)]) (rest := []) (lenOf pd_285bLjava2flang2fString3bLjava2flang2fString3b29Ljava2flang2fString3b rfl) rfl (hb hby at_314) (W := 0) (by show 2 * 0 + _ ≤ _; exact Nat.le_of_eq rfl) (by decide) (by decide) (by decide) (by decide))
          refine Go.st st52 ?_
          show Go p e below _ T52 (mkF m 317 #[.val (.int p1), .val (.int p2), .val (.int p3), .val (.int p4), .val (.int p5), .val (.int (2 : Int32)), .val (.int (own_key p2)), .val (.int (own_key p3)), .val (.int (own_key p4)), .val (.ref s38), .val (.ref s39), .val (.ref s40), .val (.ref o41), .val (.int (p5 &&& (3 : Int32))), .val (.int z), .val (.ref s48), .val (.int (own_key z)), .val (.ref c51), .unset] [(.ref c43)])
          refine Go.st (fun _ h => XS.astore X52.here hx rfl (hb hby at_317) rfl rfl (l' := #[.val (.int p1), .val (.int p2), .val (.int p3), .val (.int p4), .val (.int p5), .val (.int (2 : Int32)), .val (.int (own_key p2)), .val (.int (own_key p3)), .val (.int (own_key p4)), .val (.ref s38), .val (.ref s39), .val (.ref s40), .val (.ref o41), .val (.int (p5 &&& (3 : Int32))), .val (.int z), .val (.ref s48), .val (.int (own_key z)), .val (.ref c51), .val (.ref c43)]) rfl h) ?_
          show Go p e below _ T52 (mkF m 319 #[.val (.int p1), .val (.int p2), .val (.int p3), .val (.int p4), .val (.int p5), .val (.int (2 : Int32)), .val (.int (own_key p2)), .val (.int (own_key p3)), .val (.int (own_key p4)), .val (.ref s38), .val (.ref s39), .val (.ref s40), .val (.ref o41), .val (.int (p5 &&& (3 : Int32))), .val (.int z), .val (.ref s48), .val (.int (own_key z)), .val (.ref c51), .val (.ref c43)] [])
          refine Go.st (fun _ h => XS.aload X52.here hx rfl (hb hby at_319) rfl rfl h) ?_
          show Go p e below _ T52 (mkF m 321 #[.val (.int p1), .val (.int p2), .val (.int p3), .val (.int p4), .val (.int p5), .val (.int (2 : Int32)), .val (.int (own_key p2)), .val (.int (own_key p3)), .val (.int (own_key p4)), .val (.ref s38), .val (.ref s39), .val (.ref s40), .val (.ref o41), .val (.int (p5 &&& (3 : Int32))), .val (.int z), .val (.ref s48), .val (.int (own_key z)), .val (.ref c51), .val (.ref c43)] [(.ref c51)])
          refine Go.st (fun _ h => XT.ifnonnullYes X52.here hx rfl (pc0 := 321) (pc' := 335) rfl (hb hby at_321) rfl (by decide) (by decide) h) ?_
          show Go p e below _ T52 (mkF m 335 #[.val (.int p1), .val (.int p2), .val (.int p3), .val (.int p4), .val (.int p5), .val (.int (2 : Int32)), .val (.int (own_key p2)), .val (.int (own_key p3)), .val (.int (own_key p4)), .val (.ref s38), .val (.ref s39), .val (.ref s40), .val (.ref o41), .val (.int (p5 &&& (3 : Int32))), .val (.int z), .val (.ref s48), .val (.int (own_key z)), .val (.ref c51), .val (.ref c43)] [])
          refine Go.st (fun _ h => XS.aload X52.here hx rfl (hb hby at_335) rfl rfl h) ?_
          show Go p e below _ T52 (mkF m 337 #[.val (.int p1), .val (.int p2), .val (.int p3), .val (.int p4), .val (.int p5), .val (.int (2 : Int32)), .val (.int (own_key p2)), .val (.int (own_key p3)), .val (.int (own_key p4)), .val (.ref s38), .val (.ref s39), .val (.ref s40), .val (.ref o41), .val (.int (p5 &&& (3 : Int32))), .val (.int z), .val (.ref s48), .val (.int (own_key z)), .val (.ref c51), .val (.ref c43)] [(.ref c51)])
          refine Go.st (fun _ h => XS.aload X52.here hx rfl (hb hby at_337) rfl rfl h) ?_
          show Go p e below _ T52 (mkF m 339 #[.val (.int p1), .val (.int p2), .val (.int p3), .val (.int p4), .val (.int p5), .val (.int (2 : Int32)), .val (.int (own_key p2)), .val (.int (own_key p3)), .val (.int (own_key p4)), .val (.ref s38), .val (.ref s39), .val (.ref s40), .val (.ref o41), .val (.int (p5 &&& (3 : Int32))), .val (.int z), .val (.ref s48), .val (.int (own_key z)), .val (.ref c51), .val (.ref c43)] [(.ref c43), (.ref c51)])
          obtain ⟨T53, X53, e53, st53⟩ := own_still rfl rfl (Does.virtual (y := (⟨"java/lang/String", "equals", "(Ljava/lang/Object;)Z"⟩ : MethodName)) (g := (mkF m 339 #[.val (.int p1), .val (.int p2), .val (.int p3), .val (.int p4), .val (.int p5), .val (.int (2 : Int32)), .val (.int (own_key p2)), .val (.int (own_key p3)), .val (.int (own_key p4)), .val (.ref s38), .val (.ref s39), .val (.ref s40), .val (.ref o41), .val (.int (p5 &&& (3 : Int32))), .val (.int z), .val (.ref s48), .val (.int (own_key z)), .val (.ref c51), .val (.ref c43)] [(.ref c43), (.ref c51)])) (a := c51) (rmEq_u0 l Z a0 hw c51 c43 t51 t43 q51 q43 h51 A51 C51 V51 E51_0 F51_6 F51_7 B51 V51_19 zc (S_CS.ext (own_ext K51)) hzc) X52 hx hZ hown e52 A51 (hw _ (List.mem_of_getElem? (i := 61) rfl)) (hw _ (List.mem_of_getElem? (i := 52) rfl)) (hw _ (List.mem_of_getElem? (i := 54) rfl)) (hw _ (List.mem_of_getElem? (i := 53) rfl)) (hw _ (List.mem_of_getElem? (i := 12) rfl)) (hw _ (List.mem_of_getElem? (i := 55) rfl)) (by decide) rfl (by rw [hml]; rfl) (argsL := [(.ref c43)]) (rest := []) (lenOf pd_28Ljava2flang2fObject3b29Z rfl) rfl (hb hby at_339) (W := 0) (by show 2 * 0 + _ ≤ _; exact Nat.le_of_eq rfl) (by decide) (by decide) (by decide) (by decide))
          refine Go.st st53 ?_
          show Go p e below _ T53 (mkF m 342 #[.val (.int p1), .val (.int p2), .val (.int p3), .val (.int p4), .val (.int p5), .val (.int (2 : Int32)), .val (.int (own_key p2)), .val (.int (own_key p3)), .val (.int (own_key p4)), .val (.ref s38), .val (.ref s39), .val (.ref s40), .val (.ref o41), .val (.int (p5 &&& (3 : Int32))), .val (.int z), .val (.ref s48), .val (.int (own_key z)), .val (.ref c51), .val (.ref c43)] [(.int (1 : Int32))])
          refine Go.retH X53 hx hlk hZ hEL RR51 e53 hS hkS51 hret rfl (Or.inl ⟨rfl, Or.inr (Or.inl rfl), _, rfl⟩) (hb hby at_342) (by decide) (by decide) ?_
          exact ⟨rfl, N48⟩
        · refine Go.st (fun _ h => XS.icmpYes X49.here hx rfl (pc0 := 263) (pc' := 273) rfl (hb hby at_263) rfl ((feq hc50).2) (by decide) (by decide) h) ?_
          show Go p e below _ T49 (mkF m 273 #[.val (.int p1), .val (.int p2), .val (.int p3), .val (.int p4), .val (.int p5), .val (.int (2 : Int32)), .val (.int (own_key p2)), .val (.int (own_key p3)), .val (.int (own_key p4)), .val (.ref s38), .val (.ref s39), .val (.ref s40), .val (.ref o41), .val (.int (p5 &&& (3 : Int32))), .val (.int z), .val (.ref s48), .val (.int (own_key z)), .val .null, .unset] [])
          refine Go.st (fun _ h => XS.iload X49.here hx rfl (hb hby at_273) rfl h) ?_
          show Go p e below _ T49 (mkF m 275 #[.val (.int p1), .val (.int p2), .val (.int p3), .val (.int p4), .val (.int p5), .val (.int (2 : Int32)), .val (.int (own_key p2)), .val (.int (own_key p3)), .val (.int (own_key p4)), .val (.ref s38), .val (.ref s39), .val (.ref s40), .val (.ref o41), .val (.int (p5 &&& (3 : Int32))), .val (.int z), .val (.ref s48), .val (.int (own_key z)), .val .null, .unset] [(.int (2 : Int32))])
          refine Go.st (fun _ h => XT.iconstV X49.here hx rfl (2 : Int32) (hb hby at_275) (by decide) h) ?_
          show Go p e below _ T49 (mkF m 276 #[.val (.int p1), .val (.int p2), .val (.int p3), .val (.int p4), .val (.int p5), .val (.int (2 : Int32)), .val (.int (own_key p2)), .val (.int (own_key p3)), .val (.int (own_key p4)), .val (.ref s38), .val (.ref s39), .val (.ref s40), .val (.ref o41), .val (.int (p5 &&& (3 : Int32))), .val (.int z), .val (.ref s48), .val (.int (own_key z)), .val .null, .unset] [(.int (2 : Int32)), (.int (2 : Int32))])
          refine Go.st (fun _ h => XS.icmpNo X49.here hx rfl (hb hby at_276) rfl (by decide) h) ?_
          show Go p e below _ T49 (mkF m 279 #[.val (.int p1), .val (.int p2), .val (.int p3), .val (.int p4), .val (.int p5), .val (.int (2 : Int32)), .val (.int (own_key p2)), .val (.int (own_key p3)), .val (.int (own_key p4)), .val (.ref s38), .val (.ref s39), .val (.ref s40), .val (.ref o41), .val (.int (p5 &&& (3 : Int32))), .val (.int z), .val (.ref s48), .val (.int (own_key z)), .val .null, .unset] [])
          refine Go.st (fun _ h => XS.iload X49.here hx rfl (hb hby at_279) rfl h) ?_
          show Go p e below _ T49 (mkF m 281 #[.val (.int p1), .val (.int p2), .val (.int p3), .val (.int p4), .val (.int p5), .val (.int (2 : Int32)), .val (.int (own_key p2)), .val (.int (own_key p3)), .val (.int (own_key p4)), .val (.ref s38), .val (.ref s39), .val (.ref s40), .val (.ref o41), .val (.int (p5 &&& (3 : Int32))), .val (.int z), .val (.ref s48), .val (.int (own_key z)), .val .null, .unset] [(.int (own_key z))])
          refine Go.st (fun _ h => XS.iload X49.here hx rfl (hb hby at_281) rfl h) ?_
          show Go p e below _ T49 (mkF m 283 #[.val (.int p1), .val (.int p2), .val (.int p3), .val (.int p4), .val (.int p5), .val (.int (2 : Int32)), .val (.int (own_key p2)), .val (.int (own_key p3)), .val (.int (own_key p4)), .val (.ref s38), .val (.ref s39), .val (.ref s40), .val (.ref o41), .val (.int (p5 &&& (3 : Int32))), .val (.int z), .val (.ref s48), .val (.int (own_key z)), .val .null, .unset] [(.int (own_key p3)), (.int (own_key z))])
          by_cases hc54 : (own_key z) = (own_key p3)
          · refine Go.st (fun _ h => XS.icmpNo X49.here hx rfl (hb hby at_283) rfl ((teq hc54).2) h) ?_
            show Go p e below _ T49 (mkF m 286 #[.val (.int p1), .val (.int p2), .val (.int p3), .val (.int p4), .val (.int p5), .val (.int (2 : Int32)), .val (.int (own_key p2)), .val (.int (own_key p3)), .val (.int (own_key p4)), .val (.ref s38), .val (.ref s39), .val (.ref s40), .val (.ref o41), .val (.int (p5 &&& (3 : Int32))), .val (.int z), .val (.ref s48), .val (.int (own_key z)), .val .null, .unset] [])
            obtain ⟨c55, T55, h55, k55, t55, q55, X55, e55, E55, hS, hkS55, hZ, hown, A55, C55, V55, B55, lt55, lu55, CC55, -, nc55, st55⟩ := ldcCH (s := s) X49 hx hZ hown (hw _ (List.mem_of_getElem? (i := 49) rfl)) wS e49 hS (Nat.le_refl _) hEL (List.mem_of_getElem? (i := 1) rfl) RR48.1 (vs := [(.int (117 : Int32)), (.int (49 : Int32))]) (z := (2 : Int32)) ⟨by decide, by decide⟩ (by decide) (by decide) (g := (mkF m 286 #[.val (.int p1), .val (.int p2), .val (.int p3), .val (.int p4), .val (.int p5), .val (.int (2 : Int32)), .val (.int (own_key p2)), .val (.int (own_key p3)), .val (.int (own_key p4)), .val (.ref s38), .val (.ref s39), .val (.ref s40), .val (.ref o41), .val (.int (p5 &&& (3 : Int32))), .val (.int z), .val (.ref s48), .val (.int (own_key z)), .val .null, .unset] [])) rfl (hb hby at_286) (n := 8) (by decide) (by decide) (by decide) (by decide)
            have E55_0 := E48_0.ext E55
            have E55_1 := E48_1.ext E55
            have E55_2 := E48_2.ext E55
            have E55_3 := E48_3.ext E55
            have E55_4 := E48_4.ext E55
            have E55_5 := Ec48.ext E55
            have F55_6 := F48_5.ext E55
            have F55_7 := F48_6.ext E55
            have F55_8 := F48_7.ext E55
            have F55_9 := F48_8.ext E55
            have F55_10 := F48_9.ext E55
            have F55_11 := F48_10.ext E55
            have F55_12 := F48_11.ext E55
            have F55_13 := F48_12.ext E55
            have F55_14 := F48_13.ext E55
            have F55_15 := F48_14.ext E55
            have F55_16 := Cc48.ext E55
            have F55_17 := Vc48.ext E55
            have V55_18 := V48_16.ext E55
            have V55_19 := V48_17.ext E55
            have V55_20 := V48_18.ext E55
            have V55_21 := V48_19.ext E55
            have V55_22 := V48_20.ext E55
            have V55_23 := V48_21.ext E55
            have V55_24 := Bc48.ext E55
            have K55 := K48.ext E55
            have RR55 := RR48.trans CC55
            refine Go.st st55 ?_
            show Go p e below _ T55 (mkF m 288 #[.val (.int p1), .val (.int p2), .val (.int p3), .val (.int p4), .val (.int p5), .val (.int (2 : Int32)), .val (.int (own_key p2)), .val (.int (own_key p3)), .val (.int (own_key p4)), .val (.ref s38), .val (.ref s39), .val (.ref s40), .val (.ref o41), .val (.int (p5 &&& (3 : Int32))), .val (.int z), .val (.ref s48), .val (.int (own_key z)), .val .null, .unset] [(.ref c55)])
            refine Go.st (fun _ h => XS.astore X55.here hx rfl (hb hby at_288) rfl rfl (l' := #[.val (.int p1), .val (.int p2), .val (.int p3), .val (.int p4), .val (.int p5), .val (.int (2 : Int32)), .val (.int (own_key p2)), .val (.int (own_key p3)), .val (.int (own_key p4)), .val (.ref s38), .val (.ref s39), .val (.ref s40), .val (.ref o41), .val (.int (p5 &&& (3 : Int32))), .val (.int z), .val (.ref s48), .val (.int (own_key z)), .val (.ref c55), .unset]) rfl h) ?_
            show Go p e below _ T55 (mkF m 290 #[.val (.int p1), .val (.int p2), .val (.int p3), .val (.int p4), .val (.int p5), .val (.int (2 : Int32)), .val (.int (own_key p2)), .val (.int (own_key p3)), .val (.int (own_key p4)), .val (.ref s38), .val (.ref s39), .val (.ref s40), .val (.ref o41), .val (.int (p5 &&& (3 : Int32))), .val (.int z), .val (.ref s48), .val (.int (own_key z)), .val (.ref c55), .unset] [])
            refine Go.st (fun _ h => XS.goto X55.here hx rfl (pc0 := 290) (pc' := 310) rfl (hb hby at_290) (by decide) (by decide) h) ?_
            show Go p e below _ T55 (mkF m 310 #[.val (.int p1), .val (.int p2), .val (.int p3), .val (.int p4), .val (.int p5), .val (.int (2 : Int32)), .val (.int (own_key p2)), .val (.int (own_key p3)), .val (.int (own_key p4)), .val (.ref s38), .val (.ref s39), .val (.ref s40), .val (.ref o41), .val (.int (p5 &&& (3 : Int32))), .val (.int z), .val (.ref s48), .val (.int (own_key z)), .val (.ref c55), .unset] [])
            refine Go.st (fun _ h => XS.aload X55.here hx rfl (hb hby at_310) rfl rfl h) ?_
            show Go p e below _ T55 (mkF m 312 #[.val (.int p1), .val (.int p2), .val (.int p3), .val (.int p4), .val (.int p5), .val (.int (2 : Int32)), .val (.int (own_key p2)), .val (.int (own_key p3)), .val (.int (own_key p4)), .val (.ref s38), .val (.ref s39), .val (.ref s40), .val (.ref o41), .val (.int (p5 &&& (3 : Int32))), .val (.int z), .val (.ref s48), .val (.int (own_key z)), .val (.ref c55), .unset] [(.ref o41)])
            refine Go.st (fun _ h => XS.aload X55.here hx rfl (hb hby at_312) rfl rfl h) ?_
            show Go p e below _ T55 (mkF m 314 #[.val (.int p1), .val (.int p2), .val (.int p3), .val (.int p4), .val (.int p5), .val (.int (2 : Int32)), .val (.int (own_key p2)), .val (.int (own_key p3)), .val (.int (own_key p4)), .val (.ref s38), .val (.ref s39), .val (.ref s40), .val (.ref o41), .val (.int (p5 &&& (3 : Int32))), .val (.int z), .val (.ref s48), .val (.int (own_key z)), .val (.ref c55), .unset] [(.ref s48), (.ref o41)])
            obtain ⟨T56, X56, e56, st56⟩ := own_still rfl rfl (Does.static (y := (⟨"com/example/tenon/tenon/core/XmlElement", "declared", "([Ljava/lang/String;Ljava/lang/String;)Ljava/lang/String;"⟩ : MethodName)) (g := (mkF m 314 #[.val (.int p1), .val (.int p2), .val (.int p3), .val (.int p4), .val (.int p5), .val (.int (2 : Int32)), .val (.int (own_key p2)), .val (.int (own_key p3)), .val (.int (own_key p4)), .val (.ref s38), .val (.ref s39), .val (.ref s40), .val (.ref o41), .val (.int (p5 &&& (3 : Int32))), .val (.int z), .val (.ref s48), .val (.int (own_key z)), .val (.ref c55), .unset] [(.ref s48), (.ref o41)])) (rmDecl2_1 l Z a0 hw o41 s48 tv48 k41 kv48 (own_str z) (own_str2 _) s38 c43 tv38 kv38 (own_str p2) (own_str2 _) ne_s38_s48 s39 c46 tv39 kv39 (own_str p3) (own_str2 _) ne_s39_s48 h55 E55_5 F55_16 F55_17 V55_24 E55_2 F55_10 F55_11 V55_21 E55_3 F55_12 F55_13 V55_22 V55_18 zc (S_CS.ext (own_ext K55)) hzc (fun q => hc50 (own_inj.mpr q.symm)) (own_inj.mp hc54).symm) X55 hx hZ hown e55 (hw _ (List.mem_of_getElem? (i := 41) rfl)) (hw _ (List.mem_of_getElem? (i := 42) rfl)) (hw _ (List.mem_of_getElem? (i := 43) rfl)) (hw _ (List.mem_of_getElem? (i := 44) rfl)) (by decide) rfl (by rw [hml]; rfl) (argsL := [(.ref o41), (.ref s48)]) (rest := []) (lenOf pd_285bLjava2flang2fString3bLjava2flang2fString3b29Ljava2flang2fString3b rfl) rfl (hb hby at_314) (W := 0) (by show 2 * 0 + _ ≤ _; exact Nat.le_of_eq rfl) (by decide) (by decide) (by decide) (by decide))
            refine Go.st st56 ?_
            show Go p e below _ T56 (mkF m 317 #[.val (.int p1), .val (.int p2), .val (.int p3), .val (.int p4), .val (.int p5), .val (.int (2 : Int32)), .val (.int (own_key p2)), .val (.int (own_key p3)), .val (.int (own_key p4)), .val (.ref s38), .val (.ref s39), .val (.ref s40), .val (.ref o41), .val (.int (p5 &&& (3 : Int32))), .val (.int z), .val (.ref s48), .val (.int (own_key z)), .val (.ref c55), .unset] [(.ref c46)])
            refine Go.st (fun _ h => XS.astore X56.here hx rfl (hb hby at_317) rfl rfl (l' := #[.val (.int p1), .val (.int p2), .val (.int p3), .val (.int p4), .val (.int p5), .val (.int (2 : Int32)), .val (.int (own_key p2)), .val (.int (own_key p3)), .val (.int (own_key p4)), .val (.ref s38), .val (.ref s39), .val (.ref s40), .val (.ref o41), .val (.int (p5 &&& (3 : Int32))), .val (.int z), .val (.ref s48), .val (.int (own_key z)), .val (.ref c55), .val (.ref c46)]) rfl h) ?_
            show Go p e below _ T56 (mkF m 319 #[.val (.int p1), .val (.int p2), .val (.int p3), .val (.int p4), .val (.int p5), .val (.int (2 : Int32)), .val (.int (own_key p2)), .val (.int (own_key p3)), .val (.int (own_key p4)), .val (.ref s38), .val (.ref s39), .val (.ref s40), .val (.ref o41), .val (.int (p5 &&& (3 : Int32))), .val (.int z), .val (.ref s48), .val (.int (own_key z)), .val (.ref c55), .val (.ref c46)] [])
            refine Go.st (fun _ h => XS.aload X56.here hx rfl (hb hby at_319) rfl rfl h) ?_
            show Go p e below _ T56 (mkF m 321 #[.val (.int p1), .val (.int p2), .val (.int p3), .val (.int p4), .val (.int p5), .val (.int (2 : Int32)), .val (.int (own_key p2)), .val (.int (own_key p3)), .val (.int (own_key p4)), .val (.ref s38), .val (.ref s39), .val (.ref s40), .val (.ref o41), .val (.int (p5 &&& (3 : Int32))), .val (.int z), .val (.ref s48), .val (.int (own_key z)), .val (.ref c55), .val (.ref c46)] [(.ref c55)])
            refine Go.st (fun _ h => XT.ifnonnullYes X56.here hx rfl (pc0 := 321) (pc' := 335) rfl (hb hby at_321) rfl (by decide) (by decide) h) ?_
            show Go p e below _ T56 (mkF m 335 #[.val (.int p1), .val (.int p2), .val (.int p3), .val (.int p4), .val (.int p5), .val (.int (2 : Int32)), .val (.int (own_key p2)), .val (.int (own_key p3)), .val (.int (own_key p4)), .val (.ref s38), .val (.ref s39), .val (.ref s40), .val (.ref o41), .val (.int (p5 &&& (3 : Int32))), .val (.int z), .val (.ref s48), .val (.int (own_key z)), .val (.ref c55), .val (.ref c46)] [])
            refine Go.st (fun _ h => XS.aload X56.here hx rfl (hb hby at_335) rfl rfl h) ?_
            show Go p e below _ T56 (mkF m 337 #[.val (.int p1), .val (.int p2), .val (.int p3), .val (.int p4), .val (.int p5), .val (.int (2 : Int32)), .val (.int (own_key p2)), .val (.int (own_key p3)), .val (.int (own_key p4)), .val (.ref s38), .val (.ref s39), .val (.ref s40), .val (.ref o41), .val (.int (p5 &&& (3 : Int32))), .val (.int z), .val (.ref s48), .val (.int (own_key z)), .val (.ref c55), .val (.ref c46)] [(.ref c55)])
            refine Go.st (fun _ h => XS.aload X56.here hx rfl (hb hby at_337) rfl rfl h) ?_
            show Go p e below _ T56 (mkF m 339 #[.val (.int p1), .val (.int p2), .val (.int p3), .val (.int p4), .val (.int p5), .val (.int (2 : Int32)), .val (.int (own_key p2)), .val (.int (own_key p3)), .val (.int (own_key p4)), .val (.ref s38), .val (.ref s39), .val (.ref s40), .val (.ref o41), .val (.int (p5 &&& (3 : Int32))), .val (.int z), .val (.ref s48), .val (.int (own_key z)), .val (.ref c55), .val (.ref c46)] [(.ref c46), (.ref c55)])
            obtain ⟨T57, X57, e57, st57⟩ := own_still rfl rfl (Does.virtual (y := (⟨"java/lang/String", "equals", "(Ljava/lang/Object;)Z"⟩ : MethodName)) (g := (mkF m 339 #[.val (.int p1), .val (.int p2), .val (.int p3), .val (.int p4), .val (.int p5), .val (.int (2 : Int32)), .val (.int (own_key p2)), .val (.int (own_key p3)), .val (.int (own_key p4)), .val (.ref s38), .val (.ref s39), .val (.ref s40), .val (.ref o41), .val (.int (p5 &&& (3 : Int32))), .val (.int z), .val (.ref s48), .val (.int (own_key z)), .val (.ref c55), .val (.ref c46)] [(.ref c46), (.ref c55)])) (a := c55) (rmEq_u1 l Z a0 hw c55 c46 t55 t46 q55 q46 h55 A55 C55 V55 E55_1 F55_8 F55_9 B55 V55_20 zc (S_CS.ext (own_ext K55)) hzc) X56 hx hZ hown e56 A55 (hw _ (List.mem_of_getElem? (i := 61) rfl)) (hw _ (List.mem_of_getElem? (i := 52) rfl)) (hw _ (List.mem_of_getElem? (i := 54) rfl)) (hw _ (List.mem_of_getElem? (i := 53) rfl)) (hw _ (List.mem_of_getElem? (i := 12) rfl)) (hw _ (List.mem_of_getElem? (i := 55) rfl)) (by decide) rfl (by rw [hml]; rfl) (argsL := [(.ref c46)]) (rest := []) (lenOf pd_28Ljava2flang2fObject3b29Z rfl) rfl (hb hby at_339) (W := 0) (by show 2 * 0 + _ ≤ _; exact Nat.le_of_eq rfl) (by decide) (by decide) (by decide) (by decide))
            refine Go.st st57 ?_
            show Go p e below _ T57 (mkF m 342 #[.val (.int p1), .val (.int p2), .val (.int p3), .val (.int p4), .val (.int p5), .val (.int (2 : Int32)), .val (.int (own_key p2)), .val (.int (own_key p3)), .val (.int (own_key p4)), .val (.ref s38), .val (.ref s39), .val (.ref s40), .val (.ref o41), .val (.int (p5 &&& (3 : Int32))), .val (.int z), .val (.ref s48), .val (.int (own_key z)), .val (.ref c55), .val (.ref c46)] [(.int (1 : Int32))])
            refine Go.retH X57 hx hlk hZ hEL RR55 e57 hS hkS55 hret rfl (Or.inl ⟨rfl, Or.inr (Or.inl rfl), _, rfl⟩) (hb hby at_342) (by decide) (by decide) ?_
            exact ⟨rfl, N48⟩
          · refine Go.st (fun _ h => XS.icmpYes X49.here hx rfl (pc0 := 283) (pc' := 293) rfl (hb hby at_283) rfl ((feq hc54).2) (by decide) (by decide) h) ?_
            show Go p e below _ T49 (mkF m 293 #[.val (.int p1), .val (.int p2), .val (.int p3), .val (.int p4), .val (.int p5), .val (.int (2 : Int32)), .val (.int (own_key p2)), .val (.int (own_key p3)), .val (.int (own_key p4)), .val (.ref s38), .val (.ref s39), .val (.ref s40), .val (.ref o41), .val (.int (p5 &&& (3 : Int32))), .val (.int z), .val (.ref s48), .val (.int (own_key z)), .val .null, .unset] [])
            refine Go.st (fun _ h => XS.iload X49.here hx rfl (hb hby at_293) rfl h) ?_
            show Go p e below _ T49 (mkF m 295 #[.val (.int p1), .val (.int p2), .val (.int p3), .val (.int p4), .val (.int p5), .val (.int (2 : Int32)), .val (.int (own_key p2)), .val (.int (own_key p3)), .val (.int (own_key p4)), .val (.ref s38), .val (.ref s39), .val (.ref s40), .val (.ref o41), .val (.int (p5 &&& (3 : Int32))), .val (.int z), .val (.ref s48), .val (.int (own_key z)), .val .null, .unset] [(.int (2 : Int32))])
            refine Go.st (fun _ h => XT.iconstV X49.here hx rfl (3 : Int32) (hb hby at_295) (by decide) h) ?_
            show Go p e below _ T49 (mkF m 296 #[.val (.int p1), .val (.int p2), .val (.int p3), .val (.int p4), .val (.int p5), .val (.int (2 : Int32)), .val (.int (own_key p2)), .val (.int (own_key p3)), .val (.int (own_key p4)), .val (.ref s38), .val (.ref s39), .val (.ref s40), .val (.ref o41), .val (.int (p5 &&& (3 : Int32))), .val (.int z), .val (.ref s48), .val (.int (own_key z)), .val .null, .unset] [(.int (3 : Int32)), (.int (2 : Int32))])
            refine Go.st (fun _ h => XS.icmpYes X49.here hx rfl (pc0 := 296) (pc' := 310) rfl (hb hby at_296) rfl (by decide) (by decide) (by decide) h) ?_
            show Go p e below _ T49 (mkF m 310 #[.val (.int p1), .val (.int p2), .val (.int p3), .val (.int p4), .val (.int p5), .val (.int (2 : Int32)), .val (.int (own_key p2)), .val (.int (own_key p3)), .val (.int (own_key p4)), .val (.ref s38), .val (.ref s39), .val (.ref s40), .val (.ref o41), .val (.int (p5 &&& (3 : Int32))), .val (.int z), .val (.ref s48), .val (.int (own_key z)), .val .null, .unset] [])
            refine Go.st (fun _ h => XS.aload X49.here hx rfl (hb hby at_310) rfl rfl h) ?_
            show Go p e below _ T49 (mkF m 312 #[.val (.int p1), .val (.int p2), .val (.int p3), .val (.int p4), .val (.int p5), .val (.int (2 : Int32)), .val (.int (own_key p2)), .val (.int (own_key p3)), .val (.int (own_key p4)), .val (.ref s38), .val (.ref s39), .val (.ref s40), .val (.ref o41), .val (.int (p5 &&& (3 : Int32))), .val (.int z), .val (.ref s48), .val (.int (own_key z)), .val .null, .unset] [(.ref o41)])
            refine Go.st (fun _ h => XS.aload X49.here hx rfl (hb hby at_312) rfl rfl h) ?_
            show Go p e below _ T49 (mkF m 314 #[.val (.int p1), .val (.int p2), .val (.int p3), .val (.int p4), .val (.int p5), .val (.int (2 : Int32)), .val (.int (own_key p2)), .val (.int (own_key p3)), .val (.int (own_key p4)), .val (.ref s38), .val (.ref s39), .val (.ref s40), .val (.ref o41), .val (.int (p5 &&& (3 : Int32))), .val (.int z), .val (.ref s48), .val (.int (own_key z)), .val .null, .unset] [(.ref s48), (.ref o41)])
            obtain ⟨T58, X58, e58, st58⟩ := own_still rfl rfl (Does.static (y := (⟨"com/example/tenon/tenon/core/XmlElement", "declared", "([Ljava/lang/String;Ljava/lang/String;)Ljava/lang/String;"⟩ : MethodName)) (g := (mkF m 314 #[.val (.int p1), .val (.int p2), .val (.int p3), .val (.int p4), .val (.int p5), .val (.int (2 : Int32)), .val (.int (own_key p2)), .val (.int (own_key p3)), .val (.int (own_key p4)), .val (.ref s38), .val (.ref s39), .val (.ref s40), .val (.ref o41), .val (.int (p5 &&& (3 : Int32))), .val (.int z), .val (.ref s48), .val (.int (own_key z)), .val .null, .unset] [(.ref s48), (.ref o41)])) (rmDecl2_n l Z a0 hw o41 s48 tv48 k41 kv48 (own_str z) (own_str2 _) s38 c43 tv38 kv38 (own_str p2) (own_str2 _) ne_s38_s48 s39 c46 tv39 kv39 (own_str p3) (own_str2 _) ne_s39_s48 T48.heap Ec48 Cc48 Vc48 Bc48 E48_2 F48_9 F48_10 V48_19 E48_3 F48_11 F48_12 V48_20 V48_16 zc (S_CS.ext (own_ext K48)) hzc (fun q => hc50 (own_inj.mpr q.symm)) (fun q => hc54 (own_inj.mpr q.symm))) X49 hx hZ hown e49 (hw _ (List.mem_of_getElem? (i := 41) rfl)) (hw _ (List.mem_of_getElem? (i := 42) rfl)) (hw _ (List.mem_of_getElem? (i := 43) rfl)) (hw _ (List.mem_of_getElem? (i := 44) rfl)) (by decide) rfl (by rw [hml]; rfl) (argsL := [(.ref o41), (.ref s48)]) (rest := []) (lenOf pd_285bLjava2flang2fString3bLjava2flang2fString3b29Ljava2flang2fString3b rfl) rfl (hb hby at_314) (W := 0) (by show 2 * 0 + _ ≤ _; exact Nat.le_of_eq rfl) (by decide) (by decide) (by decide) (by decide))
            refine Go.st st58 ?_
            show Go p e below _ T58 (mkF m 317 #[.val (.int p1), .val (.int p2), .val (.int p3), .val (.int p4), .val (.int p5), .val (.int (2 : Int32)), .val (.int (own_key p2)), .val (.int (own_key p3)), .val (.int (own_key p4)), .val (.ref s38), .val (.ref s39), .val (.ref s40), .val (.ref o41), .val (.int (p5 &&& (3 : Int32))), .val (.int z), .val (.ref s48), .val (.int (own_key z)), .val .null, .unset] [.null])
            refine Go.st (fun _ h => XS.astore X58.here hx rfl (hb hby at_317) rfl rfl (l' := #[.val (.int p1), .val (.int p2), .val (.int p3), .val (.int p4), .val (.int p5), .val (.int (2 : Int32)), .val (.int (own_key p2)), .val (.int (own_key p3)), .val (.int (own_key p4)), .val (.ref s38), .val (.ref s39), .val (.ref s40), .val (.ref o41), .val (.int (p5 &&& (3 : Int32))), .val (.int z), .val (.ref s48), .val (.int (own_key z)), .val .null, .val .null]) rfl h) ?_
            show Go p e below _ T58 (mkF m 319 #[.val (.int p1), .val (.int p2), .val (.int p3), .val (.int p4), .val (.int p5), .val (.int (2 : Int32)), .val (.int (own_key p2)), .val (.int (own_key p3)), .val (.int (own_key p4)), .val (.ref s38), .val (.ref s39), .val (.ref s40), .val (.ref o41), .val (.int (p5 &&& (3 : Int32))), .val (.int z), .val (.ref s48), .val (.int (own_key z)), .val .null, .val .null] [])
            refine Go.st (fun _ h => XS.aload X58.here hx rfl (hb hby at_319) rfl rfl h) ?_
            show Go p e below _ T58 (mkF m 321 #[.val (.int p1), .val (.int p2), .val (.int p3), .val (.int p4), .val (.int p5), .val (.int (2 : Int32)), .val (.int (own_key p2)), .val (.int (own_key p3)), .val (.int (own_key p4)), .val (.ref s38), .val (.ref s39), .val (.ref s40), .val (.ref o41), .val (.int (p5 &&& (3 : Int32))), .val (.int z), .val (.ref s48), .val (.int (own_key z)), .val .null, .val .null] [.null])
            refine Go.st (fun _ h => XT.ifnonnullNo X58.here hx rfl (hb hby at_321) rfl h) ?_
            show Go p e below _ T58 (mkF m 324 #[.val (.int p1), .val (.int p2), .val (.int p3), .val (.int p4), .val (.int p5), .val (.int (2 : Int32)), .val (.int (own_key p2)), .val (.int (own_key p3)), .val (.int (own_key p4)), .val (.ref s38), .val (.ref s39), .val (.ref s40), .val (.ref o41), .val (.int (p5 &&& (3 : Int32))), .val (.int z), .val (.ref s48), .val (.int (own_key z)), .val .null, .val .null] [])
            refine Go.st (fun _ h => XS.aload X58.here hx rfl (hb hby at_324) rfl rfl h) ?_
            show Go p e below _ T58 (mkF m 326 #[.val (.int p1), .val (.int p2), .val (.int p3), .val (.int p4), .val (.int p5), .val (.int (2 : Int32)), .val (.int (own_key p2)), .val (.int (own_key p3)), .val (.int (own_key p4)), .val (.ref s38), .val (.ref s39), .val (.ref s40), .val (.ref o41), .val (.int (p5 &&& (3 : Int32))), .val (.int z), .val (.ref s48), .val (.int (own_key z)), .val .null, .val .null] [.null])
            refine Go.st (fun _ h => XT.ifnonnullNo X58.here hx rfl (hb hby at_326) rfl h) ?_
            show Go p e below _ T58 (mkF m 329 #[.val (.int p1), .val (.int p2), .val (.int p3), .val (.int p4), .val (.int p5), .val (.int (2 : Int32)), .val (.int (own_key p2)), .val (.int (own_key p3)), .val (.int (own_key p4)), .val (.ref s38), .val (.ref s39), .val (.ref s40), .val (.ref o41), .val (.int (p5 &&& (3 : Int32))), .val (.int z), .val (.ref s48), .val (.int (own_key z)), .val .null, .val .null] [])
            refine Go.st (fun _ h => XT.iconstV X58.here hx rfl (1 : Int32) (hb hby at_329) (by decide) h) ?_
            show Go p e below _ T58 (mkF m 330 #[.val (.int p1), .val (.int p2), .val (.int p3), .val (.int p4), .val (.int p5), .val (.int (2 : Int32)), .val (.int (own_key p2)), .val (.int (own_key p3)), .val (.int (own_key p4)), .val (.ref s38), .val (.ref s39), .val (.ref s40), .val (.ref o41), .val (.int (p5 &&& (3 : Int32))), .val (.int z), .val (.ref s48), .val (.int (own_key z)), .val .null, .val .null] [(.int (1 : Int32))])
            refine Go.st (fun _ h => XS.goto X58.here hx rfl (pc0 := 330) (pc' := 334) rfl (hb hby at_330) (by decide) (by decide) h) ?_
            show Go p e below _ T58 (mkF m 334 #[.val (.int p1), .val (.int p2), .val (.int p3), .val (.int p4), .val (.int p5), .val (.int (2 : Int32)), .val (.int (own_key p2)), .val (.int (own_key p3)), .val (.int (own_key p4)), .val (.ref s38), .val (.ref s39), .val (.ref s40), .val (.ref o41), .val (.int (p5 &&& (3 : Int32))), .val (.int z), .val (.ref s48), .val (.int (own_key z)), .val .null, .val .null] [(.int (1 : Int32))])
            refine Go.retH X58 hx hlk hZ hEL RR48 e58 hS (Nat.le_refl _) hret rfl (Or.inl ⟨rfl, Or.inr (Or.inl rfl), _, rfl⟩) (hb hby at_334) (by decide) (by decide) ?_
            exact ⟨rfl, N48⟩
      refine Go.st (fun _ h => XS.iload X47.here hx rfl (hb hby at_195) rfl h) ?_
      show Go p e below _ T47 (mkF m 197 #[.val (.int p1), .val (.int p2), .val (.int p3), .val (.int p4), .val (.int p5), .val (.int (2 : Int32)), .val (.int (own_key p2)), .val (.int (own_key p3)), .val (.int (own_key p4)), .val (.ref s38), .val (.ref s39), .val (.ref s40), .val (.ref o41), .val (.int (p5 &&& (3 : Int32))), .unset, .unset, .unset, .unset, .unset] [(.int (p5 &&& (3 : Int32)))])
      by_cases hc59 : (p5 &&& (3 : Int32)) = (0 : Int32)
      · refine Go.st (fun _ h => XS.ifNo X47.here hx rfl (hb hby at_197) rfl ((if0 _ _).trans (teq hc59).2) h) ?_
        show Go p e below _ T47 (mkF m 200 #[.val (.int p1), .val (.int p2), .val (.int p3), .val (.int p4), .val (.int p5), .val (.int (2 : Int32)), .val (.int (own_key p2)), .val (.int (own_key p3)), .val (.int (own_key p4)), .val (.ref s38), .val (.ref s39), .val (.ref s40), .val (.ref o41), .val (.int (p5 &&& (3 : Int32))), .unset, .unset, .unset, .unset, .unset] [])
        refine Go.st (fun _ h => XS.iloadN X47.here hx rfl (hb hby at_200) rfl h) ?_
        show Go p e below _ T47 (mkF m 201 #[.val (.int p1), .val (.int p2), .val (.int p3), .val (.int p4), .val (.int p5), .val (.int (2 : Int32)), .val (.int (own_key p2)), .val (.int (own_key p3)), .val (.int (own_key p4)), .val (.ref s38), .val (.ref s39), .val (.ref s40), .val (.ref o41), .val (.int (p5 &&& (3 : Int32))), .unset, .unset, .unset, .unset, .unset] [(.int p2)])
        refine Go.st (fun _ h => XS.istore X47.here hx rfl (hb hby at_201) rfl (l' := #[.val (.int p1), .val (.int p2), .val (.int p3), .val (.int p4), .val (.int p5), .val (.int (2 : Int32)), .val (.int (own_key p2)), .val (.int (own_key p3)), .val (.int (own_key p4)), .val (.ref s38), .val (.ref s39), .val (.ref s40), .val (.ref o41), .val (.int (p5 &&& (3 : Int32))), .val (.int p2), .unset, .unset, .unset, .unset]) rfl h) ?_
        show Go p e below _ T47 (mkF m 203 #[.val (.int p1), .val (.int p2), .val (.int p3), .val (.int p4), .val (.int p5), .val (.int (2 : Int32)), .val (.int (own_key p2)), .val (.int (own_key p3)), .val (.int (own_key p4)), .val (.ref s38), .val (.ref s39), .val (.ref s40), .val (.ref o41), .val (.int (p5 &&& (3 : Int32))), .val (.int p2), .unset, .unset, .unset, .unset] [])
        refine Go.st (fun _ h => XS.goto X47.here hx rfl (pc0 := 203) (pc' := 236) rfl (hb hby at_203) (by decide) (by decide) h) ?_
        show Go p e below _ T47 (mkF m 236 #[.val (.int p1), .val (.int p2), .val (.int p3), .val (.int p4), .val (.int p5), .val (.int (2 : Int32)), .val (.int (own_key p2)), .val (.int (own_key p3)), .val (.int (own_key p4)), .val (.ref s38), .val (.ref s39), .val (.ref s40), .val (.ref o41), .val (.int (p5 &&& (3 : Int32))), .val (.int p2), .unset, .unset, .unset, .unset] [])
        exact KK _
      · refine Go.st (fun _ h => XS.ifYes X47.here hx rfl (pc0 := 197) (pc' := 206) rfl (hb hby at_197) rfl ((if0 _ _).trans (feq hc59).2) (by decide) (by decide) h) ?_
        show Go p e below _ T47 (mkF m 206 #[.val (.int p1), .val (.int p2), .val (.int p3), .val (.int p4), .val (.int p5), .val (.int (2 : Int32)), .val (.int (own_key p2)), .val (.int (own_key p3)), .val (.int (own_key p4)), .val (.ref s38), .val (.ref s39), .val (.ref s40), .val (.ref o41), .val (.int (p5 &&& (3 : Int32))), .unset, .unset, .unset, .unset, .unset] [])
        refine Go.st (fun _ h => XS.iload X47.here hx rfl (hb hby at_206) rfl h) ?_
        show Go p e below _ T47 (mkF m 208 #[.val (.int p1), .val (.int p2), .val (.int p3), .val (.int p4), .val (.int p5), .val (.int (2 : Int32)), .val (.int (own_key p2)), .val (.int (own_key p3)), .val (.int (own_key p4)), .val (.ref s38), .val (.ref s39), .val (.ref s40), .val (.ref o41), .val (.int (p5 &&& (3 : Int32))), .unset, .unset, .unset, .unset, .unset] [(.int (p5 &&& (3 : Int32)))])
        refine Go.st (fun _ h => XT.iconstV X47.here hx rfl (1 : Int32) (hb hby at_208) (by decide) h) ?_
        show Go p e below _ T47 (mkF m 209 #[.val (.int p1), .val (.int p2), .val (.int p3), .val (.int p4), .val (.int p5), .val (.int (2 : Int32)), .val (.int (own_key p2)), .val (.int (own_key p3)), .val (.int (own_key p4)), .val (.ref s38), .val (.ref s39), .val (.ref s40), .val (.ref o41), .val (.int (p5 &&& (3 : Int32))), .unset, .unset, .unset, .unset, .unset] [(.int (1 : Int32)), (.int (p5 &&& (3 : Int32)))])
        by_cases hc60 : (p5 &&& (3 : Int32)) = (1 : Int32)
        · refine Go.st (fun _ h => XS.icmpNo X47.here hx rfl (hb hby at_209) rfl ((teq hc60).2) h) ?_
          show Go p e below _ T47 (mkF m 212 #[.val (.int p1), .val (.int p2), .val (.int p3), .val (.int p4), .val (.int p5), .val (.int (2 : Int32)), .val (.int (own_key p2)), .val (.int (own_key p3)), .val (.int (own_key p4)), .val (.ref s38), .val (.ref s39), .val (.ref s40), .val (.ref o41), .val (.int (p5 &&& (3 : Int32))), .unset, .unset, .unset, .unset, .unset] [])
          refine Go.st (fun _ h => XS.iloadN X47.here hx rfl (hb hby at_212) rfl h) ?_
          show Go p e below _ T47 (mkF m 213 #[.val (.int p1), .val (.int p2), .val (.int p3), .val (.int p4), .val (.int p5), .val (.int (2 : Int32)), .val (.int (own_key p2)), .val (.int (own_key p3)), .val (.int (own_key p4)), .val (.ref s38), .val (.ref s39), .val (.ref s40), .val (.ref o41), .val (.int (p5 &&& (3 : Int32))), .unset, .unset, .unset, .unset, .unset] [(.int p3)])
          refine Go.st (fun _ h => XS.istore X47.here hx rfl (hb hby at_213) rfl (l' := #[.val (.int p1), .val (.int p2), .val (.int p3), .val (.int p4), .val (.int p5), .val (.int (2 : Int32)), .val (.int (own_key p2)), .val (.int (own_key p3)), .val (.int (own_key p4)), .val (.ref s38), .val (.ref s39), .val (.ref s40), .val (.ref o41), .val (.int (p5 &&& (3 : Int32))), .val (.int p3), .unset, .unset, .unset, .unset]) rfl h) ?_
          show Go p e below _ T47 (mkF m 215 #[.val (.int p1), .val (.int p2), .val (.int p3), .val (.int p4), .val (.int p5), .val (.int (2 : Int32)), .val (.int (own_key p2)), .val (.int (own_key p3)), .val (.int (own_key p4)), .val (.ref s38), .val (.ref s39), .val (.ref s40), .val (.ref o41), .val (.int (p5 &&& (3 : Int32))), .val (.int p3), .unset, .unset, .unset, .unset] [])
          refine Go.st (fun _ h => XS.goto X47.here hx rfl (pc0 := 215) (pc' := 236) rfl (hb hby at_215) (by decide) (by decide) h) ?_
          show Go p e below _ T47 (mkF m 236 #[.val (.int p1), .val (.int p2), .val (.int p3), .val (.int p4), .val (.int p5), .val (.int (2 : Int32)), .val (.int (own_key p2)), .val (.int (own_key p3)), .val (.int (own_key p4)), .val (.ref s38), .val (.ref s39), .val (.ref s40), .val (.ref o41), .val (.int (p5 &&& (3 : Int32))), .val (.int p3), .unset, .unset, .unset, .unset] [])
          exact KK _
        · refine Go.st (fun _ h => XS.icmpYes X47.here hx rfl (pc0 := 209) (pc' := 218) rfl (hb hby at_209) rfl ((feq hc60).2) (by decide) (by decide) h) ?_
          show Go p e below _ T47 (mkF m 218 #[.val (.int p1), .val (.int p2), .val (.int p3), .val (.int p4), .val (.int p5), .val (.int (2 : Int32)), .val (.int (own_key p2)), .val (.int (own_key p3)), .val (.int (own_key p4)), .val (.ref s38), .val (.ref s39), .val (.ref s40), .val (.ref o41), .val (.int (p5 &&& (3 : Int32))), .unset, .unset, .unset, .unset, .unset] [])
          refine Go.st (fun _ h => XS.iload X47.here hx rfl (hb hby at_218) rfl h) ?_
          show Go p e below _ T47 (mkF m 220 #[.val (.int p1), .val (.int p2), .val (.int p3), .val (.int p4), .val (.int p5), .val (.int (2 : Int32)), .val (.int (own_key p2)), .val (.int (own_key p3)), .val (.int (own_key p4)), .val (.ref s38), .val (.ref s39), .val (.ref s40), .val (.ref o41), .val (.int (p5 &&& (3 : Int32))), .unset, .unset, .unset, .unset, .unset] [(.int (p5 &&& (3 : Int32)))])
          refine Go.st (fun _ h => XT.iconstV X47.here hx rfl (2 : Int32) (hb hby at_220) (by decide) h) ?_
          show Go p e below _ T47 (mkF m 221 #[.val (.int p1), .val (.int p2), .val (.int p3), .val (.int p4), .val (.int p5), .val (.int (2 : Int32)), .val (.int (own_key p2)), .val (.int (own_key p3)), .val (.int (own_key p4)), .val (.ref s38), .val (.ref s39), .val (.ref s40), .val (.ref o41), .val (.int (p5 &&& (3 : Int32))), .unset, .unset, .unset, .unset, .unset] [(.int (2 : Int32)), (.int (p5 &&& (3 : Int32)))])
          by_cases hc61 : (p5 &&& (3 : Int32)) = (2 : Int32)
          · refine Go.st (fun _ h => XS.icmpNo X47.here hx rfl (hb hby at_221) rfl ((teq hc61).2) h) ?_
            show Go p e below _ T47 (mkF m 224 #[.val (.int p1), .val (.int p2), .val (.int p3), .val (.int p4), .val (.int p5), .val (.int (2 : Int32)), .val (.int (own_key p2)), .val (.int (own_key p3)), .val (.int (own_key p4)), .val (.ref s38), .val (.ref s39), .val (.ref s40), .val (.ref o41), .val (.int (p5 &&& (3 : Int32))), .unset, .unset, .unset, .unset, .unset] [])
            refine Go.st (fun _ h => XS.iloadN X47.here hx rfl (hb hby at_224) rfl h) ?_
            show Go p e below _ T47 (mkF m 225 #[.val (.int p1), .val (.int p2), .val (.int p3), .val (.int p4), .val (.int p5), .val (.int (2 : Int32)), .val (.int (own_key p2)), .val (.int (own_key p3)), .val (.int (own_key p4)), .val (.ref s38), .val (.ref s39), .val (.ref s40), .val (.ref o41), .val (.int (p5 &&& (3 : Int32))), .unset, .unset, .unset, .unset, .unset] [(.int p4)])
            refine Go.st (fun _ h => XS.istore X47.here hx rfl (hb hby at_225) rfl (l' := #[.val (.int p1), .val (.int p2), .val (.int p3), .val (.int p4), .val (.int p5), .val (.int (2 : Int32)), .val (.int (own_key p2)), .val (.int (own_key p3)), .val (.int (own_key p4)), .val (.ref s38), .val (.ref s39), .val (.ref s40), .val (.ref o41), .val (.int (p5 &&& (3 : Int32))), .val (.int p4), .unset, .unset, .unset, .unset]) rfl h) ?_
            show Go p e below _ T47 (mkF m 227 #[.val (.int p1), .val (.int p2), .val (.int p3), .val (.int p4), .val (.int p5), .val (.int (2 : Int32)), .val (.int (own_key p2)), .val (.int (own_key p3)), .val (.int (own_key p4)), .val (.ref s38), .val (.ref s39), .val (.ref s40), .val (.ref o41), .val (.int (p5 &&& (3 : Int32))), .val (.int p4), .unset, .unset, .unset, .unset] [])
            refine Go.st (fun _ h => XS.goto X47.here hx rfl (pc0 := 227) (pc' := 236) rfl (hb hby at_227) (by decide) (by decide) h) ?_
            show Go p e below _ T47 (mkF m 236 #[.val (.int p1), .val (.int p2), .val (.int p3), .val (.int p4), .val (.int p5), .val (.int (2 : Int32)), .val (.int (own_key p2)), .val (.int (own_key p3)), .val (.int (own_key p4)), .val (.ref s38), .val (.ref s39), .val (.ref s40), .val (.ref o41), .val (.int (p5 &&& (3 : Int32))), .val (.int p4), .unset, .unset, .unset, .unset] [])
            exact KK _
          · refine Go.st (fun _ h => XS.icmpYes X47.here hx rfl (pc0 := 221) (pc' := 230) rfl (hb hby at_221) rfl ((feq hc61).2) (by decide) (by decide) h) ?_
            show Go p e below _ T47 (mkF m 230 #[.val (.int p1), .val (.int p2), .val (.int p3), .val (.int p4), .val (.int p5), .val (.int (2 : Int32)), .val (.int (own_key p2)), .val (.int (own_key p3)), .val (.int (own_key p4)), .val (.ref s38), .val (.ref s39), .val (.ref s40), .val (.ref o41), .val (.int (p5 &&& (3 : Int32))), .unset, .unset, .unset, .unset, .unset] [])
            refine Go.st (fun _ h => XS.iload X47.here hx rfl (hb hby at_230) rfl h) ?_
            show Go p e below _ T47 (mkF m 232 #[.val (.int p1), .val (.int p2), .val (.int p3), .val (.int p4), .val (.int p5), .val (.int (2 : Int32)), .val (.int (own_key p2)), .val (.int (own_key p3)), .val (.int (own_key p4)), .val (.ref s38), .val (.ref s39), .val (.ref s40), .val (.ref o41), .val (.int (p5 &&& (3 : Int32))), .unset, .unset, .unset, .unset, .unset] [(.int p5)])
            refine Go.st (fun _ h => XT.iconstV X47.here hx rfl (2 : Int32) (hb hby at_232) (by decide) h) ?_
            show Go p e below _ T47 (mkF m 233 #[.val (.int p1), .val (.int p2), .val (.int p3), .val (.int p4), .val (.int p5), .val (.int (2 : Int32)), .val (.int (own_key p2)), .val (.int (own_key p3)), .val (.int (own_key p4)), .val (.ref s38), .val (.ref s39), .val (.ref s40), .val (.ref o41), .val (.int (p5 &&& (3 : Int32))), .unset, .unset, .unset, .unset, .unset] [(.int (2 : Int32)), (.int p5)])
            refine Go.st (fun _ h => XT.iushr X47.here hx rfl (hb hby at_233) rfl h) ?_
            show Go p e below _ T47 (mkF m 234 #[.val (.int p1), .val (.int p2), .val (.int p3), .val (.int p4), .val (.int p5), .val (.int (2 : Int32)), .val (.int (own_key p2)), .val (.int (own_key p3)), .val (.int (own_key p4)), .val (.ref s38), .val (.ref s39), .val (.ref s40), .val (.ref o41), .val (.int (p5 &&& (3 : Int32))), .unset, .unset, .unset, .unset, .unset] [(.int (XT.ushr p5 (2 : Int32)))])
            refine Go.st (fun _ h => XS.istore X47.here hx rfl (hb hby at_234) rfl (l' := #[.val (.int p1), .val (.int p2), .val (.int p3), .val (.int p4), .val (.int p5), .val (.int (2 : Int32)), .val (.int (own_key p2)), .val (.int (own_key p3)), .val (.int (own_key p4)), .val (.ref s38), .val (.ref s39), .val (.ref s40), .val (.ref o41), .val (.int (p5 &&& (3 : Int32))), .val (.int (XT.ushr p5 (2 : Int32))), .unset, .unset, .unset, .unset]) rfl h) ?_
            show Go p e below _ T47 (mkF m 236 #[.val (.int p1), .val (.int p2), .val (.int p3), .val (.int p4), .val (.int p5), .val (.int (2 : Int32)), .val (.int (own_key p2)), .val (.int (own_key p3)), .val (.int (own_key p4)), .val (.ref s38), .val (.ref s39), .val (.ref s40), .val (.ref o41), .val (.int (p5 &&& (3 : Int32))), .val (.int (XT.ushr p5 (2 : Int32))), .unset, .unset, .unset, .unset] [])
            exact KK _
  ·
    show Go p e below _ s₁ (mkF m 5 #[.val (.int p1), .val (.int p2), .val (.int p3), .val (.int p4), .val (.int p5), .val (.int (3 : Int32)), .unset, .unset, .unset, .unset, .unset, .unset, .unset, .unset, .unset, .unset, .unset, .unset, .unset] [])
    refine Go.st (fun _ h => XS.iloadN X0.here hx rfl (hb hby at_5) rfl h) ?_
    show Go p e below _ s₁ (mkF m 6 #[.val (.int p1), .val (.int p2), .val (.int p3), .val (.int p4), .val (.int p5), .val (.int (3 : Int32)), .unset, .unset, .unset, .unset, .unset, .unset, .unset, .unset, .unset, .unset, .unset, .unset, .unset] [(.int p2)])
    obtain ⟨T62, X62, e62, st62⟩ := own_still rfl rfl (Does.static (y := (⟨"com/example/tenon/tenon/core/XmlElementDeclaredPinLaw", "key", "(I)I"⟩ : MethodName)) (g := (mkF m 6 #[.val (.int p1), .val (.int p2), .val (.int p3), .val (.int p4), .val (.int p5), .val (.int (3 : Int32)), .unset, .unset, .unset, .unset, .unset, .unset, .unset, .unset, .unset, .unset, .unset, .unset, .unset] [(.int p2)])) (rmKey l Z a0 hw p2 h0) X0 hx hZ hown e0 (hw _ (List.mem_of_getElem? (i := 0) rfl)) (hw _ (List.mem_of_getElem? (i := 1) rfl)) (hw _ (List.mem_of_getElem? (i := 2) rfl)) (hw _ (List.mem_of_getElem? (i := 3) rfl)) (by decide) rfl (by rw [hml]; rfl) (argsL := [(.int p2)]) (rest := []) (lenOf pd_28I29I rfl) rfl (hb hby at_6) (W := 0) (by show 2 * 0 + _ ≤ _; exact Nat.le_of_eq rfl) (by decide) (by decide) (by decide) (by decide))
    refine Go.st st62 ?_
    show Go p e below _ T62 (mkF m 9 #[.val (.int p1), .val (.int p2), .val (.int p3), .val (.int p4), .val (.int p5), .val (.int (3 : Int32)), .unset, .unset, .unset, .unset, .unset, .unset, .unset, .unset, .unset, .unset, .unset, .unset, .unset] [(.int (own_key p2))])
    refine Go.st (fun _ h => XS.istore X62.here hx rfl (hb hby at_9) rfl (l' := #[.val (.int p1), .val (.int p2), .val (.int p3), .val (.int p4), .val (.int p5), .val (.int (3 : Int32)), .val (.int (own_key p2)), .unset, .unset, .unset, .unset, .unset, .unset, .unset, .unset, .unset, .unset, .unset, .unset]) rfl h) ?_
    show Go p e below _ T62 (mkF m 11 #[.val (.int p1), .val (.int p2), .val (.int p3), .val (.int p4), .val (.int p5), .val (.int (3 : Int32)), .val (.int (own_key p2)), .unset, .unset, .unset, .unset, .unset, .unset, .unset, .unset, .unset, .unset, .unset, .unset] [])
    refine Go.st (fun _ h => XS.iloadN X62.here hx rfl (hb hby at_11) rfl h) ?_
    show Go p e below _ T62 (mkF m 12 #[.val (.int p1), .val (.int p2), .val (.int p3), .val (.int p4), .val (.int p5), .val (.int (3 : Int32)), .val (.int (own_key p2)), .unset, .unset, .unset, .unset, .unset, .unset, .unset, .unset, .unset, .unset, .unset, .unset] [(.int p3)])
    obtain ⟨T63, X63, e63, st63⟩ := own_still rfl rfl (Does.static (y := (⟨"com/example/tenon/tenon/core/XmlElementDeclaredPinLaw", "key", "(I)I"⟩ : MethodName)) (g := (mkF m 12 #[.val (.int p1), .val (.int p2), .val (.int p3), .val (.int p4), .val (.int p5), .val (.int (3 : Int32)), .val (.int (own_key p2)), .unset, .unset, .unset, .unset, .unset, .unset, .unset, .unset, .unset, .unset, .unset, .unset] [(.int p3)])) (rmKey l Z a0 hw p3 h0) X62 hx hZ hown e62 (hw _ (List.mem_of_getElem? (i := 0) rfl)) (hw _ (List.mem_of_getElem? (i := 1) rfl)) (hw _ (List.mem_of_getElem? (i := 2) rfl)) (hw _ (List.mem_of_getElem? (i := 3) rfl)) (by decide) rfl (by rw [hml]; rfl) (argsL := [(.int p3)]) (rest := []) (lenOf pd_28I29I rfl) rfl (hb hby at_12) (W := 0) (by show 2 * 0 + _ ≤ _; exact Nat.le_of_eq rfl) (by decide) (by decide) (by decide) (by decide))
    refine Go.st st63 ?_
    show Go p e below _ T63 (mkF m 15 #[.val (.int p1), .val (.int p2), .val (.int p3), .val (.int p4), .val (.int p5), .val (.int (3 : Int32)), .val (.int (own_key p2)), .unset, .unset, .unset, .unset, .unset, .unset, .unset, .unset, .unset, .unset, .unset, .unset] [(.int (own_key p3))])
    refine Go.st (fun _ h => XS.istore X63.here hx rfl (hb hby at_15) rfl (l' := #[.val (.int p1), .val (.int p2), .val (.int p3), .val (.int p4), .val (.int p5), .val (.int (3 : Int32)), .val (.int (own_key p2)), .val (.int (own_key p3)), .unset, .unset, .unset, .unset, .unset, .unset, .unset, .unset, .unset, .unset, .unset]) rfl h) ?_
    show Go p e below _ T63 (mkF m 17 #[.val (.int p1), .val (.int p2), .val (.int p3), .val (.int p4), .val (.int p5), .val (.int (3 : Int32)), .val (.int (own_key p2)), .val (.int (own_key p3)), .unset, .unset, .unset, .unset, .unset, .unset, .unset, .unset, .unset, .unset, .unset] [])
    refine Go.st (fun _ h => XS.iloadN X63.here hx rfl (hb hby at_17) rfl h) ?_
    show Go p e below _ T63 (mkF m 18 #[.val (.int p1), .val (.int p2), .val (.int p3), .val (.int p4), .val (.int p5), .val (.int (3 : Int32)), .val (.int (own_key p2)), .val (.int (own_key p3)), .unset, .unset, .unset, .unset, .unset, .unset, .unset, .unset, .unset, .unset, .unset] [(.int p4)])
    obtain ⟨T64, X64, e64, st64⟩ := own_still rfl rfl (Does.static (y := (⟨"com/example/tenon/tenon/core/XmlElementDeclaredPinLaw", "key", "(I)I"⟩ : MethodName)) (g := (mkF m 18 #[.val (.int p1), .val (.int p2), .val (.int p3), .val (.int p4), .val (.int p5), .val (.int (3 : Int32)), .val (.int (own_key p2)), .val (.int (own_key p3)), .unset, .unset, .unset, .unset, .unset, .unset, .unset, .unset, .unset, .unset, .unset] [(.int p4)])) (rmKey l Z a0 hw p4 h0) X63 hx hZ hown e63 (hw _ (List.mem_of_getElem? (i := 0) rfl)) (hw _ (List.mem_of_getElem? (i := 1) rfl)) (hw _ (List.mem_of_getElem? (i := 2) rfl)) (hw _ (List.mem_of_getElem? (i := 3) rfl)) (by decide) rfl (by rw [hml]; rfl) (argsL := [(.int p4)]) (rest := []) (lenOf pd_28I29I rfl) rfl (hb hby at_18) (W := 0) (by show 2 * 0 + _ ≤ _; exact Nat.le_of_eq rfl) (by decide) (by decide) (by decide) (by decide))
    refine Go.st st64 ?_
    show Go p e below _ T64 (mkF m 21 #[.val (.int p1), .val (.int p2), .val (.int p3), .val (.int p4), .val (.int p5), .val (.int (3 : Int32)), .val (.int (own_key p2)), .val (.int (own_key p3)), .unset, .unset, .unset, .unset, .unset, .unset, .unset, .unset, .unset, .unset, .unset] [(.int (own_key p4))])
    refine Go.st (fun _ h => XS.istore X64.here hx rfl (hb hby at_21) rfl (l' := #[.val (.int p1), .val (.int p2), .val (.int p3), .val (.int p4), .val (.int p5), .val (.int (3 : Int32)), .val (.int (own_key p2)), .val (.int (own_key p3)), .val (.int (own_key p4)), .unset, .unset, .unset, .unset, .unset, .unset, .unset, .unset, .unset, .unset]) rfl h) ?_
    show Go p e below _ T64 (mkF m 23 #[.val (.int p1), .val (.int p2), .val (.int p3), .val (.int p4), .val (.int p5), .val (.int (3 : Int32)), .val (.int (own_key p2)), .val (.int (own_key p3)), .val (.int (own_key p4)), .unset, .unset, .unset, .unset, .unset, .unset, .unset, .unset, .unset, .unset] [])
    refine Go.st (fun _ h => XS.iload X64.here hx rfl (hb hby at_23) rfl h) ?_
    show Go p e below _ T64 (mkF m 25 #[.val (.int p1), .val (.int p2), .val (.int p3), .val (.int p4), .val (.int p5), .val (.int (3 : Int32)), .val (.int (own_key p2)), .val (.int (own_key p3)), .val (.int (own_key p4)), .unset, .unset, .unset, .unset, .unset, .unset, .unset, .unset, .unset, .unset] [(.int (3 : Int32))])
    refine Go.st (fun _ h => XT.iconstV X64.here hx rfl (2 : Int32) (hb hby at_25) (by decide) h) ?_
    show Go p e below _ T64 (mkF m 26 #[.val (.int p1), .val (.int p2), .val (.int p3), .val (.int p4), .val (.int p5), .val (.int (3 : Int32)), .val (.int (own_key p2)), .val (.int (own_key p3)), .val (.int (own_key p4)), .unset, .unset, .unset, .unset, .unset, .unset, .unset, .unset, .unset, .unset] [(.int (2 : Int32)), (.int (3 : Int32))])
    refine Go.st (fun _ h => XS.icmpNo X64.here hx rfl (hb hby at_26) rfl (by decide) h) ?_
    show Go p e below _ T64 (mkF m 29 #[.val (.int p1), .val (.int p2), .val (.int p3), .val (.int p4), .val (.int p5), .val (.int (3 : Int32)), .val (.int (own_key p2)), .val (.int (own_key p3)), .val (.int (own_key p4)), .unset, .unset, .unset, .unset, .unset, .unset, .unset, .unset, .unset, .unset] [])
    refine Go.st (fun _ h => XS.iload X64.here hx rfl (hb hby at_29) rfl h) ?_
    show Go p e below _ T64 (mkF m 31 #[.val (.int p1), .val (.int p2), .val (.int p3), .val (.int p4), .val (.int p5), .val (.int (3 : Int32)), .val (.int (own_key p2)), .val (.int (own_key p3)), .val (.int (own_key p4)), .unset, .unset, .unset, .unset, .unset, .unset, .unset, .unset, .unset, .unset] [(.int (own_key p2))])
    refine Go.st (fun _ h => XS.iload X64.here hx rfl (hb hby at_31) rfl h) ?_
    show Go p e below _ T64 (mkF m 33 #[.val (.int p1), .val (.int p2), .val (.int p3), .val (.int p4), .val (.int p5), .val (.int (3 : Int32)), .val (.int (own_key p2)), .val (.int (own_key p3)), .val (.int (own_key p4)), .unset, .unset, .unset, .unset, .unset, .unset, .unset, .unset, .unset, .unset] [(.int (own_key p3)), (.int (own_key p2))])
    by_cases hc65 : (own_key p2) = (own_key p3)
    · refine Go.st (fun _ h => XS.icmpNo X64.here hx rfl (hb hby at_33) rfl ((teq hc65).2) h) ?_
      show Go p e below _ T64 (mkF m 36 #[.val (.int p1), .val (.int p2), .val (.int p3), .val (.int p4), .val (.int p5), .val (.int (3 : Int32)), .val (.int (own_key p2)), .val (.int (own_key p3)), .val (.int (own_key p4)), .unset, .unset, .unset, .unset, .unset, .unset, .unset, .unset, .unset, .unset] [])
      refine Go.st (fun _ h => XT.iconstV X64.here hx rfl (1 : Int32) (hb hby at_36) (by decide) h) ?_
      show Go p e below _ T64 (mkF m 37 #[.val (.int p1), .val (.int p2), .val (.int p3), .val (.int p4), .val (.int p5), .val (.int (3 : Int32)), .val (.int (own_key p2)), .val (.int (own_key p3)), .val (.int (own_key p4)), .unset, .unset, .unset, .unset, .unset, .unset, .unset, .unset, .unset, .unset] [(.int (1 : Int32))])
      refine Go.retH X64 hx hlk hZ hEL RR e64 hS hkS hret rfl (Or.inl ⟨rfl, Or.inr (Or.inl rfl), _, rfl⟩) (hb hby at_37) (by decide) (by decide) ?_
      exact ⟨rfl, N0⟩
    · refine Go.st (fun _ h => XS.icmpYes X64.here hx rfl (pc0 := 33) (pc' := 38) rfl (hb hby at_33) rfl ((feq hc65).2) (by decide) (by decide) h) ?_
      show Go p e below _ T64 (mkF m 38 #[.val (.int p1), .val (.int p2), .val (.int p3), .val (.int p4), .val (.int p5), .val (.int (3 : Int32)), .val (.int (own_key p2)), .val (.int (own_key p3)), .val (.int (own_key p4)), .unset, .unset, .unset, .unset, .unset, .unset, .unset, .unset, .unset, .unset] [])
      refine Go.st (fun _ h => XS.iload X64.here hx rfl (hb hby at_38) rfl h) ?_
      show Go p e below _ T64 (mkF m 40 #[.val (.int p1), .val (.int p2), .val (.int p3), .val (.int p4), .val (.int p5), .val (.int (3 : Int32)), .val (.int (own_key p2)), .val (.int (own_key p3)), .val (.int (own_key p4)), .unset, .unset, .unset, .unset, .unset, .unset, .unset, .unset, .unset, .unset] [(.int (3 : Int32))])
      refine Go.st (fun _ h => XT.iconstV X64.here hx rfl (3 : Int32) (hb hby at_40) (by decide) h) ?_
      show Go p e below _ T64 (mkF m 41 #[.val (.int p1), .val (.int p2), .val (.int p3), .val (.int p4), .val (.int p5), .val (.int (3 : Int32)), .val (.int (own_key p2)), .val (.int (own_key p3)), .val (.int (own_key p4)), .unset, .unset, .unset, .unset, .unset, .unset, .unset, .unset, .unset, .unset] [(.int (3 : Int32)), (.int (3 : Int32))])
      refine Go.st (fun _ h => XS.icmpNo X64.here hx rfl (hb hby at_41) rfl (by decide) h) ?_
      show Go p e below _ T64 (mkF m 44 #[.val (.int p1), .val (.int p2), .val (.int p3), .val (.int p4), .val (.int p5), .val (.int (3 : Int32)), .val (.int (own_key p2)), .val (.int (own_key p3)), .val (.int (own_key p4)), .unset, .unset, .unset, .unset, .unset, .unset, .unset, .unset, .unset, .unset] [])
      refine Go.st (fun _ h => XS.iload X64.here hx rfl (hb hby at_44) rfl h) ?_
      show Go p e below _ T64 (mkF m 46 #[.val (.int p1), .val (.int p2), .val (.int p3), .val (.int p4), .val (.int p5), .val (.int (3 : Int32)), .val (.int (own_key p2)), .val (.int (own_key p3)), .val (.int (own_key p4)), .unset, .unset, .unset, .unset, .unset, .unset, .unset, .unset, .unset, .unset] [(.int (own_key p2))])
      refine Go.st (fun _ h => XS.iload X64.here hx rfl (hb hby at_46) rfl h) ?_
      show Go p e below _ T64 (mkF m 48 #[.val (.int p1), .val (.int p2), .val (.int p3), .val (.int p4), .val (.int p5), .val (.int (3 : Int32)), .val (.int (own_key p2)), .val (.int (own_key p3)), .val (.int (own_key p4)), .unset, .unset, .unset, .unset, .unset, .unset, .unset, .unset, .unset, .unset] [(.int (own_key p4)), (.int (own_key p2))])
      by_cases hc66 : (own_key p2) = (own_key p4)
      · refine Go.st (fun _ h => XS.icmpYes X64.here hx rfl (pc0 := 48) (pc' := 58) rfl (hb hby at_48) rfl ((teq hc66).1) (by decide) (by decide) h) ?_
        show Go p e below _ T64 (mkF m 58 #[.val (.int p1), .val (.int p2), .val (.int p3), .val (.int p4), .val (.int p5), .val (.int (3 : Int32)), .val (.int (own_key p2)), .val (.int (own_key p3)), .val (.int (own_key p4)), .unset, .unset, .unset, .unset, .unset, .unset, .unset, .unset, .unset, .unset] [])
        refine Go.st (fun _ h => XT.iconstV X64.here hx rfl (1 : Int32) (hb hby at_58) (by decide) h) ?_
        show Go p e below _ T64 (mkF m 59 #[.val (.int p1), .val (.int p2), .val (.int p3), .val (.int p4), .val (.int p5), .val (.int (3 : Int32)), .val (.int (own_key p2)), .val (.int (own_key p3)), .val (.int (own_key p4)), .unset, .unset, .unset, .unset, .unset, .unset, .unset, .unset, .unset, .unset] [(.int (1 : Int32))])
        refine Go.retH X64 hx hlk hZ hEL RR e64 hS hkS hret rfl (Or.inl ⟨rfl, Or.inr (Or.inl rfl), _, rfl⟩) (hb hby at_59) (by decide) (by decide) ?_
        exact ⟨rfl, N0⟩
      · refine Go.st (fun _ h => XS.icmpNo X64.here hx rfl (hb hby at_48) rfl ((feq hc66).1) h) ?_
        show Go p e below _ T64 (mkF m 51 #[.val (.int p1), .val (.int p2), .val (.int p3), .val (.int p4), .val (.int p5), .val (.int (3 : Int32)), .val (.int (own_key p2)), .val (.int (own_key p3)), .val (.int (own_key p4)), .unset, .unset, .unset, .unset, .unset, .unset, .unset, .unset, .unset, .unset] [])
        refine Go.st (fun _ h => XS.iload X64.here hx rfl (hb hby at_51) rfl h) ?_
        show Go p e below _ T64 (mkF m 53 #[.val (.int p1), .val (.int p2), .val (.int p3), .val (.int p4), .val (.int p5), .val (.int (3 : Int32)), .val (.int (own_key p2)), .val (.int (own_key p3)), .val (.int (own_key p4)), .unset, .unset, .unset, .unset, .unset, .unset, .unset, .unset, .unset, .unset] [(.int (own_key p3))])
        refine Go.st (fun _ h => XS.iload X64.here hx rfl (hb hby at_53) rfl h) ?_
        show Go p e below _ T64 (mkF m 55 #[.val (.int p1), .val (.int p2), .val (.int p3), .val (.int p4), .val (.int p5), .val (.int (3 : Int32)), .val (.int (own_key p2)), .val (.int (own_key p3)), .val (.int (own_key p4)), .unset, .unset, .unset, .unset, .unset, .unset, .unset, .unset, .unset, .unset] [(.int (own_key p4)), (.int (own_key p3))])
        by_cases hc67 : (own_key p3) = (own_key p4)
        · refine Go.st (fun _ h => XS.icmpNo X64.here hx rfl (hb hby at_55) rfl ((teq hc67).2) h) ?_
          show Go p e below _ T64 (mkF m 58 #[.val (.int p1), .val (.int p2), .val (.int p3), .val (.int p4), .val (.int p5), .val (.int (3 : Int32)), .val (.int (own_key p2)), .val (.int (own_key p3)), .val (.int (own_key p4)), .unset, .unset, .unset, .unset, .unset, .unset, .unset, .unset, .unset, .unset] [])
          refine Go.st (fun _ h => XT.iconstV X64.here hx rfl (1 : Int32) (hb hby at_58) (by decide) h) ?_
          show Go p e below _ T64 (mkF m 59 #[.val (.int p1), .val (.int p2), .val (.int p3), .val (.int p4), .val (.int p5), .val (.int (3 : Int32)), .val (.int (own_key p2)), .val (.int (own_key p3)), .val (.int (own_key p4)), .unset, .unset, .unset, .unset, .unset, .unset, .unset, .unset, .unset, .unset] [(.int (1 : Int32))])
          refine Go.retH X64 hx hlk hZ hEL RR e64 hS hkS hret rfl (Or.inl ⟨rfl, Or.inr (Or.inl rfl), _, rfl⟩) (hb hby at_59) (by decide) (by decide) ?_
          exact ⟨rfl, N0⟩
        · refine Go.st (fun _ h => XS.icmpYes X64.here hx rfl (pc0 := 55) (pc' := 60) rfl (hb hby at_55) rfl ((feq hc67).2) (by decide) (by decide) h) ?_
          show Go p e below _ T64 (mkF m 60 #[.val (.int p1), .val (.int p2), .val (.int p3), .val (.int p4), .val (.int p5), .val (.int (3 : Int32)), .val (.int (own_key p2)), .val (.int (own_key p3)), .val (.int (own_key p4)), .unset, .unset, .unset, .unset, .unset, .unset, .unset, .unset, .unset, .unset] [])
          refine Go.st (fun _ h => XS.iloadN X64.here hx rfl (hb hby at_60) rfl h) ?_
          show Go p e below _ T64 (mkF m 61 #[.val (.int p1), .val (.int p2), .val (.int p3), .val (.int p4), .val (.int p5), .val (.int (3 : Int32)), .val (.int (own_key p2)), .val (.int (own_key p3)), .val (.int (own_key p4)), .unset, .unset, .unset, .unset, .unset, .unset, .unset, .unset, .unset, .unset] [(.int p2)])
          obtain ⟨_, T68, L68, X68, hZ, hown, hS, RR68, ⟨s68, tv68, kv68, rfl, Nc68, Kc68, lec68, Ec68, Cc68, Vc68, Bc68⟩, st68⟩ := DoesH.static (s := s) (y := (⟨"com/example/tenon/tenon/core/XmlElementDeclaredPinLaw", "mk", "(I)Ljava/lang/String;"⟩ : MethodName)) (g := (mkF m 61 #[.val (.int p1), .val (.int p2), .val (.int p3), .val (.int p4), .val (.int p5), .val (.int (3 : Int32)), .val (.int (own_key p2)), .val (.int (own_key p3)), .val (.int (own_key p4)), .unset, .unset, .unset, .unset, .unset, .unset, .unset, .unset, .unset, .unset] [(.int p2)])) (rmMk l Z a0 hw hEL wS p2 h0 n0 Z0 zc S_CS hzc) X64 hx hZ hown e64 hEL RR hS hkS (hw _ (List.mem_of_getElem? (i := 7) rfl)) (hw _ (List.mem_of_getElem? (i := 8) rfl)) (hw _ (List.mem_of_getElem? (i := 2) rfl)) (hw _ (List.mem_of_getElem? (i := 9) rfl)) (by decide) rfl (by rw [hml]; rfl) (argsL := [(.int p2)]) (rest := []) (lenOf pd_28I29Ljava2flang2fString3b rfl) rfl (hb hby at_61) (W := 0) (by show 2 * 0 + _ ≤ _; exact Nat.le_of_eq rfl) (by decide) (by decide) (by decide) (by decide)
          have K68 := (Keep.refl _ []).trans Kc68 all0
          have N68 := Fr.app N0 Nc68
          refine Go.st st68 ?_
          show Go p e below _ T68 (mkF m 64 #[.val (.int p1), .val (.int p2), .val (.int p3), .val (.int p4), .val (.int p5), .val (.int (3 : Int32)), .val (.int (own_key p2)), .val (.int (own_key p3)), .val (.int (own_key p4)), .unset, .unset, .unset, .unset, .unset, .unset, .unset, .unset, .unset, .unset] [(.ref s68)])
          refine Go.st (fun _ h => XS.astore X68.here hx rfl (hb hby at_64) rfl rfl (l' := #[.val (.int p1), .val (.int p2), .val (.int p3), .val (.int p4), .val (.int p5), .val (.int (3 : Int32)), .val (.int (own_key p2)), .val (.int (own_key p3)), .val (.int (own_key p4)), .val (.ref s68), .unset, .unset, .unset, .unset, .unset, .unset, .unset, .unset, .unset]) rfl h) ?_
          show Go p e below _ T68 (mkF m 66 #[.val (.int p1), .val (.int p2), .val (.int p3), .val (.int p4), .val (.int p5), .val (.int (3 : Int32)), .val (.int (own_key p2)), .val (.int (own_key p3)), .val (.int (own_key p4)), .val (.ref s68), .unset, .unset, .unset, .unset, .unset, .unset, .unset, .unset, .unset] [])
          refine Go.st (fun _ h => XS.iloadN X68.here hx rfl (hb hby at_66) rfl h) ?_
          show Go p e below _ T68 (mkF m 67 #[.val (.int p1), .val (.int p2), .val (.int p3), .val (.int p4), .val (.int p5), .val (.int (3 : Int32)), .val (.int (own_key p2)), .val (.int (own_key p3)), .val (.int (own_key p4)), .val (.ref s68), .unset, .unset, .unset, .unset, .unset, .unset, .unset, .unset, .unset] [(.int p3)])
          obtain ⟨_, T69, L69, X69, hZ, hown, hS, RR69, ⟨s69, tv69, kv69, rfl, Nc69, Kc69, lec69, Ec69, Cc69, Vc69, Bc69⟩, st69⟩ := DoesH.static (s := s) (y := (⟨"com/example/tenon/tenon/core/XmlElementDeclaredPinLaw", "mk", "(I)Ljava/lang/String;"⟩ : MethodName)) (g := (mkF m 67 #[.val (.int p1), .val (.int p2), .val (.int p3), .val (.int p4), .val (.int p5), .val (.int (3 : Int32)), .val (.int (own_key p2)), .val (.int (own_key p3)), .val (.int (own_key p4)), .val (.ref s68), .unset, .unset, .unset, .unset, .unset, .unset, .unset, .unset, .unset] [(.int p3)])) (rmMk l Z a0 hw hEL wS p3 T68.heap n0 (Nat.le_trans Z0 K68.1) zc (S_CS.ext (own_ext K68)) hzc) X68 hx hZ hown rfl hEL RR68 hS (Nat.le_refl _) (hw _ (List.mem_of_getElem? (i := 7) rfl)) (hw _ (List.mem_of_getElem? (i := 8) rfl)) (hw _ (List.mem_of_getElem? (i := 2) rfl)) (hw _ (List.mem_of_getElem? (i := 9) rfl)) (by decide) rfl (by rw [hml]; rfl) (argsL := [(.int p3)]) (rest := []) (lenOf pd_28I29Ljava2flang2fString3b rfl) rfl (hb hby at_67) (W := 0) (by show 2 * 0 + _ ≤ _; exact Nat.le_of_eq rfl) (by decide) (by decide) (by decide) (by decide)
          have E69_0 := Ec68.keep Kc69
          have F69_1 := Cc68.keep Kc69 nin0
          have F69_2 := Vc68.keep Kc69 nin0
          have V69_3 := Bc68.keep Kc69 nin0
          have K69 := K68.trans Kc69 all0
          have N69 := Fr.app N68 Nc69
          have ne_s68_s69 : s68 ≠ s69 := Nat.ne_of_lt (Nat.lt_of_lt_of_le Ec68.lt lec69)
          have ne_tv68_s69 : tv68 ≠ s69 := Nat.ne_of_lt (Nat.lt_of_lt_of_le Bc68.lt lec69)
          refine Go.st st69 ?_
          show Go p e below _ T69 (mkF m 70 #[.val (.int p1), .val (.int p2), .val (.int p3), .val (.int p4), .val (.int p5), .val (.int (3 : Int32)), .val (.int (own_key p2)), .val (.int (own_key p3)), .val (.int (own_key p4)), .val (.ref s68), .unset, .unset, .unset, .unset, .unset, .unset, .unset, .unset, .unset] [(.ref s69)])
          refine Go.st (fun _ h => XS.astore X69.here hx rfl (hb hby at_70) rfl rfl (l' := #[.val (.int p1), .val (.int p2), .val (.int p3), .val (.int p4), .val (.int p5), .val (.int (3 : Int32)), .val (.int (own_key p2)), .val (.int (own_key p3)), .val (.int (own_key p4)), .val (.ref s68), .val (.ref s69), .unset, .unset, .unset, .unset, .unset, .unset, .unset, .unset]) rfl h) ?_
          show Go p e below _ T69 (mkF m 72 #[.val (.int p1), .val (.int p2), .val (.int p3), .val (.int p4), .val (.int p5), .val (.int (3 : Int32)), .val (.int (own_key p2)), .val (.int (own_key p3)), .val (.int (own_key p4)), .val (.ref s68), .val (.ref s69), .unset, .unset, .unset, .unset, .unset, .unset, .unset, .unset] [])
          refine Go.st (fun _ h => XS.iloadN X69.here hx rfl (hb hby at_72) rfl h) ?_
          show Go p e below _ T69 (mkF m 73 #[.val (.int p1), .val (.int p2), .val (.int p3), .val (.int p4), .val (.int p5), .val (.int (3 : Int32)), .val (.int (own_key p2)), .val (.int (own_key p3)), .val (.int (own_key p4)), .val (.ref s68), .val (.ref s69), .unset, .unset, .unset, .unset, .unset, .unset, .unset, .unset] [(.int p4)])
          obtain ⟨_, T70, L70, X70, hZ, hown, hS, RR70, ⟨s70, tv70, kv70, rfl, Nc70, Kc70, lec70, Ec70, Cc70, Vc70, Bc70⟩, st70⟩ := DoesH.static (s := s) (y := (⟨"com/example/tenon/tenon/core/XmlElementDeclaredPinLaw", "mk", "(I)Ljava/lang/String;"⟩ : MethodName)) (g := (mkF m 73 #[.val (.int p1), .val (.int p2), .val (.int p3), .val (.int p4), .val (.int p5), .val (.int (3 : Int32)), .val (.int (own_key p2)), .val (.int (own_key p3)), .val (.int (own_key p4)), .val (.ref s68), .val (.ref s69), .unset, .unset, .unset, .unset, .unset, .unset, .unset, .unset] [(.int p4)])) (rmMk l Z a0 hw hEL wS p4 T69.heap n0 (Nat.le_trans Z0 K69.1) zc (S_CS.ext (own_ext K69)) hzc) X69 hx hZ hown rfl hEL RR69 hS (Nat.le_refl _) (hw _ (List.mem_of_getElem? (i := 7) rfl)) (hw _ (List.mem_of_getElem? (i := 8) rfl)) (hw _ (List.mem_of_getElem? (i := 2) rfl)) (hw _ (List.mem_of_getElem? (i := 9) rfl)) (by decide) rfl (by rw [hml]; rfl) (argsL := [(.int p4)]) (rest := []) (lenOf pd_28I29Ljava2flang2fString3b rfl) rfl (hb hby at_73) (W := 0) (by show 2 * 0 + _ ≤ _; exact Nat.le_of_eq rfl) (by decide) (by decide) (by decide) (by decide)
          have E70_0 := E69_0.keep Kc70
          have E70_1 := Ec69.keep Kc70
          have F70_2 := F69_1.keep Kc70 nin0
          have F70_3 := F69_2.keep Kc70 nin0
          have F70_4 := Cc69.keep Kc70 nin0
          have F70_5 := Vc69.keep Kc70 nin0
          have V70_6 := V69_3.keep Kc70 nin0
          have V70_7 := Bc69.keep Kc70 nin0
          have K70 := K69.trans Kc70 all0
          have N70 := Fr.app N69 Nc70
          have ne_s68_s70 : s68 ≠ s70 := Nat.ne_of_lt (Nat.lt_of_lt_of_le E69_0.lt lec70)
          have ne_tv68_s70 : tv68 ≠ s70 := Nat.ne_of_lt (Nat.lt_of_lt_of_le V69_3.lt lec70)
          have ne_s69_s70 : s69 ≠ s70 := Nat.ne_of_lt (Nat.lt_of_lt_of_le Ec69.lt lec70)
          have ne_tv69_s70 : tv69 ≠ s70 := Nat.ne_of_lt (Nat.lt_of_lt_of_le Bc69.lt lec70)
          refine Go.st st70 ?_
          show Go p e below _ T70 (mkF m 76 #[.val (.int p1), .val (.int p2), .val (.int p3), .val (.int p4), .val (.int p5), .val (.int (3 : Int32)), .val (.int (own_key p2)), .val (.int (own_key p3)), .val (.int (own_key p4)), .val (.ref s68), .val (.ref s69), .unset, .unset, .unset, .unset, .unset, .unset, .unset, .unset] [(.ref s70)])
          refine Go.st (fun _ h => XS.astore X70.here hx rfl (hb hby at_76) rfl rfl (l' := #[.val (.int p1), .val (.int p2), .val (.int p3), .val (.int p4), .val (.int p5), .val (.int (3 : Int32)), .val (.int (own_key p2)), .val (.int (own_key p3)), .val (.int (own_key p4)), .val (.ref s68), .val (.ref s69), .val (.ref s70), .unset, .unset, .unset, .unset, .unset, .unset, .unset]) rfl h) ?_
          show Go p e below _ T70 (mkF m 78 #[.val (.int p1), .val (.int p2), .val (.int p3), .val (.int p4), .val (.int p5), .val (.int (3 : Int32)), .val (.int (own_key p2)), .val (.int (own_key p3)), .val (.int (own_key p4)), .val (.ref s68), .val (.ref s69), .val (.ref s70), .unset, .unset, .unset, .unset, .unset, .unset, .unset] [])
          refine Go.st (fun _ h => XS.iload X70.here hx rfl (hb hby at_78) rfl h) ?_
          show Go p e below _ T70 (mkF m 80 #[.val (.int p1), .val (.int p2), .val (.int p3), .val (.int p4), .val (.int p5), .val (.int (3 : Int32)), .val (.int (own_key p2)), .val (.int (own_key p3)), .val (.int (own_key p4)), .val (.ref s68), .val (.ref s69), .val (.ref s70), .unset, .unset, .unset, .unset, .unset, .unset, .unset] [(.int (3 : Int32))])
          refine Go.st (fun _ h => XS.ifYes X70.here hx rfl (pc0 := 80) (pc' := 92) rfl (hb hby at_80) rfl (by decide) (by decide) (by decide) h) ?_
          show Go p e below _ T70 (mkF m 92 #[.val (.int p1), .val (.int p2), .val (.int p3), .val (.int p4), .val (.int p5), .val (.int (3 : Int32)), .val (.int (own_key p2)), .val (.int (own_key p3)), .val (.int (own_key p4)), .val (.ref s68), .val (.ref s69), .val (.ref s70), .unset, .unset, .unset, .unset, .unset, .unset, .unset] [])
          refine Go.st (fun _ h => XS.iload X70.here hx rfl (hb hby at_92) rfl h) ?_
          show Go p e below _ T70 (mkF m 94 #[.val (.int p1), .val (.int p2), .val (.int p3), .val (.int p4), .val (.int p5), .val (.int (3 : Int32)), .val (.int (own_key p2)), .val (.int (own_key p3)), .val (.int (own_key p4)), .val (.ref s68), .val (.ref s69), .val (.ref s70), .unset, .unset, .unset, .unset, .unset, .unset, .unset] [(.int (3 : Int32))])
          refine Go.st (fun _ h => XT.iconstV X70.here hx rfl (1 : Int32) (hb hby at_94) (by decide) h) ?_
          show Go p e below _ T70 (mkF m 95 #[.val (.int p1), .val (.int p2), .val (.int p3), .val (.int p4), .val (.int p5), .val (.int (3 : Int32)), .val (.int (own_key p2)), .val (.int (own_key p3)), .val (.int (own_key p4)), .val (.ref s68), .val (.ref s69), .val (.ref s70), .unset, .unset, .unset, .unset, .unset, .unset, .unset] [(.int (1 : Int32)), (.int (3 : Int32))])
          refine Go.st (fun _ h => XS.icmpYes X70.here hx rfl (pc0 := 95) (pc' := 117) rfl (hb hby at_95) rfl (by decide) (by decide) (by decide) h) ?_
          show Go p e below _ T70 (mkF m 117 #[.val (.int p1), .val (.int p2), .val (.int p3), .val (.int p4), .val (.int p5), .val (.int (3 : Int32)), .val (.int (own_key p2)), .val (.int (own_key p3)), .val (.int (own_key p4)), .val (.ref s68), .val (.ref s69), .val (.ref s70), .unset, .unset, .unset, .unset, .unset, .unset, .unset] [])
          refine Go.st (fun _ h => XS.iload X70.here hx rfl (hb hby at_117) rfl h) ?_
          show Go p e below _ T70 (mkF m 119 #[.val (.int p1), .val (.int p2), .val (.int p3), .val (.int p4), .val (.int p5), .val (.int (3 : Int32)), .val (.int (own_key p2)), .val (.int (own_key p3)), .val (.int (own_key p4)), .val (.ref s68), .val (.ref s69), .val (.ref s70), .unset, .unset, .unset, .unset, .unset, .unset, .unset] [(.int (3 : Int32))])
          refine Go.st (fun _ h => XT.iconstV X70.here hx rfl (2 : Int32) (hb hby at_119) (by decide) h) ?_
          show Go p e below _ T70 (mkF m 120 #[.val (.int p1), .val (.int p2), .val (.int p3), .val (.int p4), .val (.int p5), .val (.int (3 : Int32)), .val (.int (own_key p2)), .val (.int (own_key p3)), .val (.int (own_key p4)), .val (.ref s68), .val (.ref s69), .val (.ref s70), .unset, .unset, .unset, .unset, .unset, .unset, .unset] [(.int (2 : Int32)), (.int (3 : Int32))])
          refine Go.st (fun _ h => XS.icmpYes X70.here hx rfl (pc0 := 120) (pc' := 152) rfl (hb hby at_120) rfl (by decide) (by decide) (by decide) h) ?_
          show Go p e below _ T70 (mkF m 152 #[.val (.int p1), .val (.int p2), .val (.int p3), .val (.int p4), .val (.int p5), .val (.int (3 : Int32)), .val (.int (own_key p2)), .val (.int (own_key p3)), .val (.int (own_key p4)), .val (.ref s68), .val (.ref s69), .val (.ref s70), .unset, .unset, .unset, .unset, .unset, .unset, .unset] [])
          refine Go.st (fun _ h => XT.bipushV X70.here hx rfl (6 : Int32) (hb hby at_152) (by decide) h) ?_
          show Go p e below _ T70 (mkF m 154 #[.val (.int p1), .val (.int p2), .val (.int p3), .val (.int p4), .val (.int p5), .val (.int (3 : Int32)), .val (.int (own_key p2)), .val (.int (own_key p3)), .val (.int (own_key p4)), .val (.ref s68), .val (.ref s69), .val (.ref s70), .unset, .unset, .unset, .unset, .unset, .unset, .unset] [(.int (6 : Int32))])
          obtain ⟨T71, h71, k71, X71, e71, E71, A71, O71, st71⟩ := newR X70 hx hZ hown (hw _ (List.mem_of_getElem? (i := 10) rfl)) (hw _ (List.mem_of_getElem? (i := 40) rfl)) rfl (g := (mkF m 154 #[.val (.int p1), .val (.int p2), .val (.int p3), .val (.int p4), .val (.int p5), .val (.int (3 : Int32)), .val (.int (own_key p2)), .val (.int (own_key p3)), .val (.int (own_key p4)), .val (.ref s68), .val (.ref s69), .val (.ref s70), .unset, .unset, .unset, .unset, .unset, .unset, .unset] [(.int (6 : Int32))])) rfl (hb hby at_154) rfl (by decide) (cap := 6) (by decide) (by decide) (by decide) (by decide)
          obtain ⟨o71, g71⟩ : ∃ z, z = T70.heap.size := ⟨_, rfl⟩
          rw [← g71] at A71 st71
          have ne_s68_o71 : s68 ≠ o71 := by rw [g71]; exact Nat.ne_of_lt E70_0.lt
          have ne_s69_o71 : s69 ≠ o71 := by rw [g71]; exact Nat.ne_of_lt E70_1.lt
          have ne_s70_o71 : s70 ≠ o71 := by rw [g71]; exact Nat.ne_of_lt Ec70.lt
          have ne_tv68_o71 : tv68 ≠ o71 := by rw [g71]; exact Nat.ne_of_lt V70_6.lt
          have ne_tv69_o71 : tv69 ≠ o71 := by rw [g71]; exact Nat.ne_of_lt V70_7.lt
          have ne_tv70_o71 : tv70 ≠ o71 := by rw [g71]; exact Nat.ne_of_lt Bc70.lt
          have le_o71 : h0.size ≤ o71 := by rw [g71]; exact K70.1
          have Q71_ : Safe Z consts_1 _ T70.heap o71 := Safe.new (vm := T70.vm) (by rw [g71]; exact Nat.le_refl _)
          have E71_0 := E70_0.ext E71
          have E71_1 := E70_1.ext E71
          have E71_2 := Ec70.ext E71
          have F71_3 := F70_2.ext E71
          have F71_4 := F70_3.ext E71
          have F71_5 := F70_4.ext E71
          have F71_6 := F70_5.ext E71
          have F71_7 := Cc70.ext E71
          have F71_8 := Vc70.ext E71
          have Q71_9 := Safe.ext E71 RR70.1 Q71_
          have V71_10 := V70_6.ext E71
          have V71_11 := V70_7.ext E71
          have V71_12 := Bc70.ext E71
          have K71 := K70.ext E71
          have RR71 := RR70.trans (CHr.ext E71 RR70.1)
          have hkS71 := Nat.le_trans (Nat.le_refl _) E71.1
          have V71 : Arv Z h71 o71 k71 (.object "java/lang/String") (6 : Int32) [.null, .null, .null, .null, .null, .null] .null := (Arv.new A71 (by decide)).pad (pad_rep [] .null 6)
          refine Go.st st71 ?_
          show Go p e below _ T71 (mkF m 157 #[.val (.int p1), .val (.int p2), .val (.int p3), .val (.int p4), .val (.int p5), .val (.int (3 : Int32)), .val (.int (own_key p2)), .val (.int (own_key p3)), .val (.int (own_key p4)), .val (.ref s68), .val (.ref s69), .val (.ref s70), .unset, .unset, .unset, .unset, .unset, .unset, .unset] [(.ref o71)])
          refine Go.st (fun _ h => XS.dup X71.here hx rfl (hb hby at_157) rfl rfl h) ?_
          show Go p e below _ T71 (mkF m 158 #[.val (.int p1), .val (.int p2), .val (.int p3), .val (.int p4), .val (.int p5), .val (.int (3 : Int32)), .val (.int (own_key p2)), .val (.int (own_key p3)), .val (.int (own_key p4)), .val (.ref s68), .val (.ref s69), .val (.ref s70), .unset, .unset, .unset, .unset, .unset, .unset, .unset] [(.ref o71), (.ref o71)])
          refine Go.st (fun _ h => XT.iconstV X71.here hx rfl (0 : Int32) (hb hby at_158) (by decide) h) ?_
          show Go p e below _ T71 (mkF m 159 #[.val (.int p1), .val (.int p2), .val (.int p3), .val (.int p4), .val (.int p5), .val (.int (3 : Int32)), .val (.int (own_key p2)), .val (.int (own_key p3)), .val (.int (own_key p4)), .val (.ref s68), .val (.ref s69), .val (.ref s70), .unset, .unset, .unset, .unset, .unset, .unset, .unset] [(.int (0 : Int32)), (.ref o71), (.ref o71)])
          refine Go.st (fun _ h => XS.aload X71.here hx rfl (hb hby at_159) rfl rfl h) ?_
          show Go p e below _ T71 (mkF m 161 #[.val (.int p1), .val (.int p2), .val (.int p3), .val (.int p4), .val (.int p5), .val (.int (3 : Int32)), .val (.int (own_key p2)), .val (.int (own_key p3)), .val (.int (own_key p4)), .val (.ref s68), .val (.ref s69), .val (.ref s70), .unset, .unset, .unset, .unset, .unset, .unset, .unset] [(.ref s68), (.int (0 : Int32)), (.ref o71), (.ref o71)])
          obtain ⟨T72, h72, X72, e72, W72, V72, st72⟩ := own_stR X71 hx hZ e71 (j := (0 : Int32)) V71 O71 (Ins.self E71_0) (by decide) (by decide) 0 (by decide) (by simp) (g := (mkF m 161 #[.val (.int p1), .val (.int p2), .val (.int p3), .val (.int p4), .val (.int p5), .val (.int (3 : Int32)), .val (.int (own_key p2)), .val (.int (own_key p3)), .val (.int (own_key p4)), .val (.ref s68), .val (.ref s69), .val (.ref s70), .unset, .unset, .unset, .unset, .unset, .unset, .unset] [(.ref s68), (.int (0 : Int32)), (.ref o71), (.ref o71)])) rfl rfl (hb hby at_161)
          have N72 := Fr.snoc X72 N70 (Nat.le_trans Z0 le_o71)
          have E72_0 := E71_0.wr W72
          have E72_1 := E71_1.wr W72
          have E72_2 := E71_2.wr W72
          have F72_3 := F71_3.other W72 (Or.inl ne_s68_o71)
          have F72_4 := F71_4.other W72 (Or.inl ne_s68_o71)
          have F72_5 := F71_5.other W72 (Or.inl ne_s69_o71)
          have F72_6 := F71_6.other W72 (Or.inl ne_s69_o71)
          have F72_7 := F71_7.other W72 (Or.inl ne_s70_o71)
          have F72_8 := F71_8.other W72 (Or.inl ne_s70_o71)
          have Q72_9 := Safe.wr W72 Q71_9 RR71.1 Q71_9
          have V72_11 := V71_10.other W72 ne_tv68_o71
          have V72_12 := V71_11.other W72 ne_tv69_o71
          have V72_13 := V71_12.other W72 ne_tv70_o71
          have K72 := K71.wr W72 (Or.inr le_o71)
          have RR72 := RR71.trans (CHr.wr W72 Q71_9 RR71.1)
          have hkS72 := Nat.le_trans hkS71 (Nat.le_of_eq W72.size.symm)
          have V72' : Arv Z h72 o71 k71 (.object "java/lang/String") (6 : Int32) [(.ref s68), .null, .null, .null, .null, .null] .null := V72
          refine Go.st st72 ?_
          show Go p e below _ T72 (mkF m 162 #[.val (.int p1), .val (.int p2), .val (.int p3), .val (.int p4), .val (.int p5), .val (.int (3 : Int32)), .val (.int (own_key p2)), .val (.int (own_key p3)), .val (.int (own_key p4)), .val (.ref s68), .val (.ref s69), .val (.ref s70), .unset, .unset, .unset, .unset, .unset, .unset, .unset] [(.ref o71)])
          refine Go.st (fun _ h => XS.dup X72.here hx rfl (hb hby at_162) rfl rfl h) ?_
          show Go p e below _ T72 (mkF m 163 #[.val (.int p1), .val (.int p2), .val (.int p3), .val (.int p4), .val (.int p5), .val (.int (3 : Int32)), .val (.int (own_key p2)), .val (.int (own_key p3)), .val (.int (own_key p4)), .val (.ref s68), .val (.ref s69), .val (.ref s70), .unset, .unset, .unset, .unset, .unset, .unset, .unset] [(.ref o71), (.ref o71)])
          refine Go.st (fun _ h => XT.iconstV X72.here hx rfl (1 : Int32) (hb hby at_163) (by decide) h) ?_
          show Go p e below _ T72 (mkF m 164 #[.val (.int p1), .val (.int p2), .val (.int p3), .val (.int p4), .val (.int p5), .val (.int (3 : Int32)), .val (.int (own_key p2)), .val (.int (own_key p3)), .val (.int (own_key p4)), .val (.ref s68), .val (.ref s69), .val (.ref s70), .unset, .unset, .unset, .unset, .unset, .unset, .unset] [(.int (1 : Int32)), (.ref o71), (.ref o71)])
          obtain ⟨c73, T73, h73, k73, t73, q73, X73, e73, E73, hS, hkS73, hZ, hown, A73, C73, V73, B73, lt73, lu73, CC73, -, nc73, st73⟩ := ldcCH (s := s) X72 hx hZ hown (hw _ (List.mem_of_getElem? (i := 48) rfl)) wS e72 hS hkS72 hEL (List.mem_of_getElem? (i := 0) rfl) RR72.1 (vs := [(.int (117 : Int32)), (.int (48 : Int32))]) (z := (2 : Int32)) ⟨by decide, by decide⟩ (by decide) (by decide) (g := (mkF m 164 #[.val (.int p1), .val (.int p2), .val (.int p3), .val (.int p4), .val (.int p5), .val (.int (3 : Int32)), .val (.int (own_key p2)), .val (.int (own_key p3)), .val (.int (own_key p4)), .val (.ref s68), .val (.ref s69), .val (.ref s70), .unset, .unset, .unset, .unset, .unset, .unset, .unset] [(.int (1 : Int32)), (.ref o71), (.ref o71)])) rfl (hb hby at_164) (n := 8) (by decide) (by decide) (by decide) (by decide)
          have E73_0 := E72_0.ext E73
          have E73_1 := E72_1.ext E73
          have E73_2 := E72_2.ext E73
          have F73_3 := F72_3.ext E73
          have F73_4 := F72_4.ext E73
          have F73_5 := F72_5.ext E73
          have F73_6 := F72_6.ext E73
          have F73_7 := F72_7.ext E73
          have F73_8 := F72_8.ext E73
          have Q73_9 := CC73.safe V72'.lt Q72_9
          have V73_10 := V72'.ext E73
          have V73_11 := V72_11.ext E73
          have V73_12 := V72_12.ext E73
          have V73_13 := V72_13.ext E73
          have K73 := K72.ext E73
          have RR73 := RR72.trans CC73
          have nc_o71_73 := nc73 _ Q73_9
          refine Go.st st73 ?_
          show Go p e below _ T73 (mkF m 166 #[.val (.int p1), .val (.int p2), .val (.int p3), .val (.int p4), .val (.int p5), .val (.int (3 : Int32)), .val (.int (own_key p2)), .val (.int (own_key p3)), .val (.int (own_key p4)), .val (.ref s68), .val (.ref s69), .val (.ref s70), .unset, .unset, .unset, .unset, .unset, .unset, .unset] [(.ref c73), (.int (1 : Int32)), (.ref o71), (.ref o71)])
          obtain ⟨T74, h74, X74, e74, W74, V74, st74⟩ := own_stR X73 hx hZ e73 (j := (1 : Int32)) V73_10 O71 (Ins.self A73) (by decide) (by decide) 1 (by decide) (by simp) (g := (mkF m 166 #[.val (.int p1), .val (.int p2), .val (.int p3), .val (.int p4), .val (.int p5), .val (.int (3 : Int32)), .val (.int (own_key p2)), .val (.int (own_key p3)), .val (.int (own_key p4)), .val (.ref s68), .val (.ref s69), .val (.ref s70), .unset, .unset, .unset, .unset, .unset, .unset, .unset] [(.ref c73), (.int (1 : Int32)), (.ref o71), (.ref o71)])) rfl rfl (hb hby at_166)
          have N74 := Fr.snoc X74 N72 (Nat.le_trans Z0 le_o71)
          have E74_0 := A73.wr W74
          have E74_1 := E73_0.wr W74
          have E74_2 := E73_1.wr W74
          have E74_3 := E73_2.wr W74
          have F74_4 := C73.other W74 (Or.inl (Ne.symm nc_o71_73.1))
          have F74_5 := V73.other W74 (Or.inl (Ne.symm nc_o71_73.1))
          have F74_6 := F73_3.other W74 (Or.inl ne_s68_o71)
          have F74_7 := F73_4.other W74 (Or.inl ne_s68_o71)
          have F74_8 := F73_5.other W74 (Or.inl ne_s69_o71)
          have F74_9 := F73_6.other W74 (Or.inl ne_s69_o71)
          have F74_10 := F73_7.other W74 (Or.inl ne_s70_o71)
          have F74_11 := F73_8.other W74 (Or.inl ne_s70_o71)
          have Q74_12 := Safe.wr W74 Q73_9 RR73.1 Q73_9
          have V74_14 := B73.other W74 (Ne.symm nc_o71_73.2)
          have V74_15 := V73_11.other W74 ne_tv68_o71
          have V74_16 := V73_12.other W74 ne_tv69_o71
          have V74_17 := V73_13.other W74 ne_tv70_o71
          have K74 := K73.wr W74 (Or.inr le_o71)
          have RR74 := RR73.trans (CHr.wr W74 Q73_9 RR73.1)
          have hkS74 := Nat.le_trans hkS73 (Nat.le_of_eq W74.size.symm)
          have V74' : Arv Z h74 o71 k71 (.object "java/lang/String") (6 : Int32) [(.ref s68), (.ref c73), .null, .null, .null, .null] .null := V74
          refine Go.st st74 ?_
          show Go p e below _ T74 (mkF m 167 #[.val (.int p1), .val (.int p2), .val (.int p3), .val (.int p4), .val (.int p5), .val (.int (3 : Int32)), .val (.int (own_key p2)), .val (.int (own_key p3)), .val (.int (own_key p4)), .val (.ref s68), .val (.ref s69), .val (.ref s70), .unset, .unset, .unset, .unset, .unset, .unset, .unset] [(.ref o71)])
          refine Go.st (fun _ h => XS.dup X74.here hx rfl (hb hby at_167) rfl rfl h) ?_
          show Go p e below _ T74 (mkF m 168 #[.val (.int p1), .val (.int p2), .val (.int p3), .val (.int p4), .val (.int p5), .val (.int (3 : Int32)), .val (.int (own_key p2)), .val (.int (own_key p3)), .val (.int (own_key p4)), .val (.ref s68), .val (.ref s69), .val (.ref s70), .unset, .unset, .unset, .unset, .unset, .unset, .unset] [(.ref o71), (.ref o71)])
          refine Go.st (fun _ h => XT.iconstV X74.here hx rfl (2 : Int32) (hb hby at_168) (by decide) h) ?_
          show Go p e below _ T74 (mkF m 169 #[.val (.int p1), .val (.int p2), .val (.int p3), .val (.int p4), .val (.int p5), .val (.int (3 : Int32)), .val (.int (own_key p2)), .val (.int (own_key p3)), .val (.int (own_key p4)), .val (.ref s68), .val (.ref s69), .val (.ref s70), .unset, .unset, .unset, .unset, .unset, .unset, .unset] [(.int (2 : Int32)), (.ref o71), (.ref o71)])
          refine Go.st (fun _ h => XS.aload X74.here hx rfl (hb hby at_169) rfl rfl h) ?_
          show Go p e below _ T74 (mkF m 171 #[.val (.int p1), .val (.int p2), .val (.int p3), .val (.int p4), .val (.int p5), .val (.int (3 : Int32)), .val (.int (own_key p2)), .val (.int (own_key p3)), .val (.int (own_key p4)), .val (.ref s68), .val (.ref s69), .val (.ref s70), .unset, .unset, .unset, .unset, .unset, .unset, .unset] [(.ref s69), (.int (2 : Int32)), (.ref o71), (.ref o71)])
          obtain ⟨T75, h75, X75, e75, W75, V75, st75⟩ := own_stR X74 hx hZ e74 (j := (2 : Int32)) V74' O71 (Ins.self E74_2) (by decide) (by decide) 2 (by decide) (by simp) (g := (mkF m 171 #[.val (.int p1), .val (.int p2), .val (.int p3), .val (.int p4), .val (.int p5), .val (.int (3 : Int32)), .val (.int (own_key p2)), .val (.int (own_key p3)), .val (.int (own_key p4)), .val (.ref s68), .val (.ref s69), .val (.ref s70), .unset, .unset, .unset, .unset, .unset, .unset, .unset] [(.ref s69), (.int (2 : Int32)), (.ref o71), (.ref o71)])) rfl rfl (hb hby at_171)
          have N75 := Fr.snoc X75 N74 (Nat.le_trans Z0 le_o71)
          have E75_0 := E74_0.wr W75
          have E75_1 := E74_1.wr W75
          have E75_2 := E74_2.wr W75
          have E75_3 := E74_3.wr W75
          have F75_4 := F74_4.other W75 (Or.inl (Ne.symm nc_o71_73.1))
          have F75_5 := F74_5.other W75 (Or.inl (Ne.symm nc_o71_73.1))
          have F75_6 := F74_6.other W75 (Or.inl ne_s68_o71)
          have F75_7 := F74_7.other W75 (Or.inl ne_s68_o71)
          have F75_8 := F74_8.other W75 (Or.inl ne_s69_o71)
          have F75_9 := F74_9.other W75 (Or.inl ne_s69_o71)
          have F75_10 := F74_10.other W75 (Or.inl ne_s70_o71)
          have F75_11 := F74_11.other W75 (Or.inl ne_s70_o71)
          have Q75_12 := Safe.wr W75 Q74_12 RR74.1 Q74_12
          have V75_14 := V74_14.other W75 (Ne.symm nc_o71_73.2)
          have V75_15 := V74_15.other W75 ne_tv68_o71
          have V75_16 := V74_16.other W75 ne_tv69_o71
          have V75_17 := V74_17.other W75 ne_tv70_o71
          have K75 := K74.wr W75 (Or.inr le_o71)
          have RR75 := RR74.trans (CHr.wr W75 Q74_12 RR74.1)
          have hkS75 := Nat.le_trans hkS74 (Nat.le_of_eq W75.size.symm)
          have V75' : Arv Z h75 o71 k71 (.object "java/lang/String") (6 : Int32) [(.ref s68), (.ref c73), (.ref s69), .null, .null, .null] .null := V75
          refine Go.st st75 ?_
          show Go p e below _ T75 (mkF m 172 #[.val (.int p1), .val (.int p2), .val (.int p3), .val (.int p4), .val (.int p5), .val (.int (3 : Int32)), .val (.int (own_key p2)), .val (.int (own_key p3)), .val (.int (own_key p4)), .val (.ref s68), .val (.ref s69), .val (.ref s70), .unset, .unset, .unset, .unset, .unset, .unset, .unset] [(.ref o71)])
          refine Go.st (fun _ h => XS.dup X75.here hx rfl (hb hby at_172) rfl rfl h) ?_
          show Go p e below _ T75 (mkF m 173 #[.val (.int p1), .val (.int p2), .val (.int p3), .val (.int p4), .val (.int p5), .val (.int (3 : Int32)), .val (.int (own_key p2)), .val (.int (own_key p3)), .val (.int (own_key p4)), .val (.ref s68), .val (.ref s69), .val (.ref s70), .unset, .unset, .unset, .unset, .unset, .unset, .unset] [(.ref o71), (.ref o71)])
          refine Go.st (fun _ h => XT.iconstV X75.here hx rfl (3 : Int32) (hb hby at_173) (by decide) h) ?_
          show Go p e below _ T75 (mkF m 174 #[.val (.int p1), .val (.int p2), .val (.int p3), .val (.int p4), .val (.int p5), .val (.int (3 : Int32)), .val (.int (own_key p2)), .val (.int (own_key p3)), .val (.int (own_key p4)), .val (.ref s68), .val (.ref s69), .val (.ref s70), .unset, .unset, .unset, .unset, .unset, .unset, .unset] [(.int (3 : Int32)), (.ref o71), (.ref o71)])
          obtain ⟨c76, T76, h76, k76, t76, q76, X76, e76, E76, hS, hkS76, hZ, hown, A76, C76, V76, B76, lt76, lu76, CC76, -, nc76, st76⟩ := ldcCH (s := s) X75 hx hZ hown (hw _ (List.mem_of_getElem? (i := 49) rfl)) wS e75 hS hkS75 hEL (List.mem_of_getElem? (i := 1) rfl) RR75.1 (vs := [(.int (117 : Int32)), (.int (49 : Int32))]) (z := (2 : Int32)) ⟨by decide, by decide⟩ (by decide) (by decide) (g := (mkF m 174 #[.val (.int p1), .val (.int p2), .val (.int p3), .val (.int p4), .val (.int p5), .val (.int (3 : Int32)), .val (.int (own_key p2)), .val (.int (own_key p3)), .val (.int (own_key p4)), .val (.ref s68), .val (.ref s69), .val (.ref s70), .unset, .unset, .unset, .unset, .unset, .unset, .unset] [(.int (3 : Int32)), (.ref o71), (.ref o71)])) rfl (hb hby at_174) (n := 8) (by decide) (by decide) (by decide) (by decide)
          have E76_0 := E75_0.ext E76
          have E76_1 := E75_1.ext E76
          have E76_2 := E75_2.ext E76
          have E76_3 := E75_3.ext E76
          have F76_4 := F75_4.ext E76
          have F76_5 := F75_5.ext E76
          have F76_6 := F75_6.ext E76
          have F76_7 := F75_7.ext E76
          have F76_8 := F75_8.ext E76
          have F76_9 := F75_9.ext E76
          have F76_10 := F75_10.ext E76
          have F76_11 := F75_11.ext E76
          have Q76_12 := CC76.safe V75'.lt Q75_12
          have V76_13 := V75'.ext E76
          have V76_14 := V75_14.ext E76
          have V76_15 := V75_15.ext E76
          have V76_16 := V75_16.ext E76
          have V76_17 := V75_17.ext E76
          have K76 := K75.ext E76
          have RR76 := RR75.trans CC76
          have nc_o71_76 := nc76 _ Q76_12
          refine Go.st st76 ?_
          show Go p e below _ T76 (mkF m 176 #[.val (.int p1), .val (.int p2), .val (.int p3), .val (.int p4), .val (.int p5), .val (.int (3 : Int32)), .val (.int (own_key p2)), .val (.int (own_key p3)), .val (.int (own_key p4)), .val (.ref s68), .val (.ref s69), .val (.ref s70), .unset, .unset, .unset, .unset, .unset, .unset, .unset] [(.ref c76), (.int (3 : Int32)), (.ref o71), (.ref o71)])
          obtain ⟨T77, h77, X77, e77, W77, V77, st77⟩ := own_stR X76 hx hZ e76 (j := (3 : Int32)) V76_13 O71 (Ins.self A76) (by decide) (by decide) 3 (by decide) (by simp) (g := (mkF m 176 #[.val (.int p1), .val (.int p2), .val (.int p3), .val (.int p4), .val (.int p5), .val (.int (3 : Int32)), .val (.int (own_key p2)), .val (.int (own_key p3)), .val (.int (own_key p4)), .val (.ref s68), .val (.ref s69), .val (.ref s70), .unset, .unset, .unset, .unset, .unset, .unset, .unset] [(.ref c76), (.int (3 : Int32)), (.ref o71), (.ref o71)])) rfl rfl (hb hby at_176)
          have N77 := Fr.snoc X77 N75 (Nat.le_trans Z0 le_o71)
          have E77_0 := E76_0.wr W77
          have E77_1 := A76.wr W77
          have E77_2 := E76_1.wr W77
          have E77_3 := E76_2.wr W77
          have E77_4 := E76_3.wr W77
          have F77_5 := F76_4.other W77 (Or.inl (Ne.symm nc_o71_73.1))
          have F77_6 := F76_5.other W77 (Or.inl (Ne.symm nc_o71_73.1))
          have F77_7 := C76.other W77 (Or.inl (Ne.symm nc_o71_76.1))
          have F77_8 := V76.other W77 (Or.inl (Ne.symm nc_o71_76.1))
          have F77_9 := F76_6.other W77 (Or.inl ne_s68_o71)
          have F77_10 := F76_7.other W77 (Or.inl ne_s68_o71)
          have F77_11 := F76_8.other W77 (Or.inl ne_s69_o71)
          have F77_12 := F76_9.other W77 (Or.inl ne_s69_o71)
          have F77_13 := F76_10.other W77 (Or.inl ne_s70_o71)
          have F77_14 := F76_11.other W77 (Or.inl ne_s70_o71)
          have Q77_15 := Safe.wr W77 Q76_12 RR76.1 Q76_12
          have V77_17 := V76_14.other W77 (Ne.symm nc_o71_73.2)
          have V77_18 := B76.other W77 (Ne.symm nc_o71_76.2)
          have V77_19 := V76_15.other W77 ne_tv68_o71
          have V77_20 := V76_16.other W77 ne_tv69_o71
          have V77_21 := V76_17.other W77 ne_tv70_o71
          have K77 := K76.wr W77 (Or.inr le_o71)
          have RR77 := RR76.trans (CHr.wr W77 Q76_12 RR76.1)
          have hkS77 := Nat.le_trans hkS76 (Nat.le_of_eq W77.size.symm)
          have V77' : Arv Z h77 o71 k71 (.object "java/lang/String") (6 : Int32) [(.ref s68), (.ref c73), (.ref s69), (.ref c76), .null, .null] .null := V77
          refine Go.st st77 ?_
          show Go p e below _ T77 (mkF m 177 #[.val (.int p1), .val (.int p2), .val (.int p3), .val (.int p4), .val (.int p5), .val (.int (3 : Int32)), .val (.int (own_key p2)), .val (.int (own_key p3)), .val (.int (own_key p4)), .val (.ref s68), .val (.ref s69), .val (.ref s70), .unset, .unset, .unset, .unset, .unset, .unset, .unset] [(.ref o71)])
          refine Go.st (fun _ h => XS.dup X77.here hx rfl (hb hby at_177) rfl rfl h) ?_
          show Go p e below _ T77 (mkF m 178 #[.val (.int p1), .val (.int p2), .val (.int p3), .val (.int p4), .val (.int p5), .val (.int (3 : Int32)), .val (.int (own_key p2)), .val (.int (own_key p3)), .val (.int (own_key p4)), .val (.ref s68), .val (.ref s69), .val (.ref s70), .unset, .unset, .unset, .unset, .unset, .unset, .unset] [(.ref o71), (.ref o71)])
          refine Go.st (fun _ h => XT.iconstV X77.here hx rfl (4 : Int32) (hb hby at_178) (by decide) h) ?_
          show Go p e below _ T77 (mkF m 179 #[.val (.int p1), .val (.int p2), .val (.int p3), .val (.int p4), .val (.int p5), .val (.int (3 : Int32)), .val (.int (own_key p2)), .val (.int (own_key p3)), .val (.int (own_key p4)), .val (.ref s68), .val (.ref s69), .val (.ref s70), .unset, .unset, .unset, .unset, .unset, .unset, .unset] [(.int (4 : Int32)), (.ref o71), (.ref o71)])
          refine Go.st (fun _ h => XS.aload X77.here hx rfl (hb hby at_179) rfl rfl h) ?_
          show Go p e below _ T77 (mkF m 181 #[.val (.int p1), .val (.int p2), .val (.int p3), .val (.int p4), .val (.int p5), .val (.int (3 : Int32)), .val (.int (own_key p2)), .val (.int (own_key p3)), .val (.int (own_key p4)), .val (.ref s68), .val (.ref s69), .val (.ref s70), .unset, .unset, .unset, .unset, .unset, .unset, .unset] [(.ref s70), (.int (4 : Int32)), (.ref o71), (.ref o71)])
          obtain ⟨T78, h78, X78, e78, W78, V78, st78⟩ := own_stR X77 hx hZ e77 (j := (4 : Int32)) V77' O71 (Ins.self E77_4) (by decide) (by decide) 4 (by decide) (by simp) (g := (mkF m 181 #[.val (.int p1), .val (.int p2), .val (.int p3), .val (.int p4), .val (.int p5), .val (.int (3 : Int32)), .val (.int (own_key p2)), .val (.int (own_key p3)), .val (.int (own_key p4)), .val (.ref s68), .val (.ref s69), .val (.ref s70), .unset, .unset, .unset, .unset, .unset, .unset, .unset] [(.ref s70), (.int (4 : Int32)), (.ref o71), (.ref o71)])) rfl rfl (hb hby at_181)
          have N78 := Fr.snoc X78 N77 (Nat.le_trans Z0 le_o71)
          have E78_0 := E77_0.wr W78
          have E78_1 := E77_1.wr W78
          have E78_2 := E77_2.wr W78
          have E78_3 := E77_3.wr W78
          have E78_4 := E77_4.wr W78
          have F78_5 := F77_5.other W78 (Or.inl (Ne.symm nc_o71_73.1))
          have F78_6 := F77_6.other W78 (Or.inl (Ne.symm nc_o71_73.1))
          have F78_7 := F77_7.other W78 (Or.inl (Ne.symm nc_o71_76.1))
          have F78_8 := F77_8.other W78 (Or.inl (Ne.symm nc_o71_76.1))
          have F78_9 := F77_9.other W78 (Or.inl ne_s68_o71)
          have F78_10 := F77_10.other W78 (Or.inl ne_s68_o71)
          have F78_11 := F77_11.other W78 (Or.inl ne_s69_o71)
          have F78_12 := F77_12.other W78 (Or.inl ne_s69_o71)
          have F78_13 := F77_13.other W78 (Or.inl ne_s70_o71)
          have F78_14 := F77_14.other W78 (Or.inl ne_s70_o71)
          have Q78_15 := Safe.wr W78 Q77_15 RR77.1 Q77_15
          have V78_17 := V77_17.other W78 (Ne.symm nc_o71_73.2)
          have V78_18 := V77_18.other W78 (Ne.symm nc_o71_76.2)
          have V78_19 := V77_19.other W78 ne_tv68_o71
          have V78_20 := V77_20.other W78 ne_tv69_o71
          have V78_21 := V77_21.other W78 ne_tv70_o71
          have K78 := K77.wr W78 (Or.inr le_o71)
          have RR78 := RR77.trans (CHr.wr W78 Q77_15 RR77.1)
          have hkS78 := Nat.le_trans hkS77 (Nat.le_of_eq W78.size.symm)
          have V78' : Arv Z h78 o71 k71 (.object "java/lang/String") (6 : Int32) [(.ref s68), (.ref c73), (.ref s69), (.ref c76), (.ref s70), .null] .null := V78
          refine Go.st st78 ?_
          show Go p e below _ T78 (mkF m 182 #[.val (.int p1), .val (.int p2), .val (.int p3), .val (.int p4), .val (.int p5), .val (.int (3 : Int32)), .val (.int (own_key p2)), .val (.int (own_key p3)), .val (.int (own_key p4)), .val (.ref s68), .val (.ref s69), .val (.ref s70), .unset, .unset, .unset, .unset, .unset, .unset, .unset] [(.ref o71)])
          refine Go.st (fun _ h => XS.dup X78.here hx rfl (hb hby at_182) rfl rfl h) ?_
          show Go p e below _ T78 (mkF m 183 #[.val (.int p1), .val (.int p2), .val (.int p3), .val (.int p4), .val (.int p5), .val (.int (3 : Int32)), .val (.int (own_key p2)), .val (.int (own_key p3)), .val (.int (own_key p4)), .val (.ref s68), .val (.ref s69), .val (.ref s70), .unset, .unset, .unset, .unset, .unset, .unset, .unset] [(.ref o71), (.ref o71)])
          refine Go.st (fun _ h => XT.iconstV X78.here hx rfl (5 : Int32) (hb hby at_183) (by decide) h) ?_
          show Go p e below _ T78 (mkF m 184 #[.val (.int p1), .val (.int p2), .val (.int p3), .val (.int p4), .val (.int p5), .val (.int (3 : Int32)), .val (.int (own_key p2)), .val (.int (own_key p3)), .val (.int (own_key p4)), .val (.ref s68), .val (.ref s69), .val (.ref s70), .unset, .unset, .unset, .unset, .unset, .unset, .unset] [(.int (5 : Int32)), (.ref o71), (.ref o71)])
          obtain ⟨c79, T79, h79, k79, t79, q79, X79, e79, E79, hS, hkS79, hZ, hown, A79, C79, V79, B79, lt79, lu79, CC79, -, nc79, st79⟩ := ldcCH (s := s) X78 hx hZ hown (hw _ (List.mem_of_getElem? (i := 50) rfl)) wS e78 hS hkS78 hEL (List.mem_of_getElem? (i := 2) rfl) RR78.1 (vs := [(.int (117 : Int32)), (.int (50 : Int32))]) (z := (2 : Int32)) ⟨by decide, by decide⟩ (by decide) (by decide) (g := (mkF m 184 #[.val (.int p1), .val (.int p2), .val (.int p3), .val (.int p4), .val (.int p5), .val (.int (3 : Int32)), .val (.int (own_key p2)), .val (.int (own_key p3)), .val (.int (own_key p4)), .val (.ref s68), .val (.ref s69), .val (.ref s70), .unset, .unset, .unset, .unset, .unset, .unset, .unset] [(.int (5 : Int32)), (.ref o71), (.ref o71)])) rfl (hb hby at_184) (n := 8) (by decide) (by decide) (by decide) (by decide)
          have E79_0 := E78_0.ext E79
          have E79_1 := E78_1.ext E79
          have E79_2 := E78_2.ext E79
          have E79_3 := E78_3.ext E79
          have E79_4 := E78_4.ext E79
          have F79_5 := F78_5.ext E79
          have F79_6 := F78_6.ext E79
          have F79_7 := F78_7.ext E79
          have F79_8 := F78_8.ext E79
          have F79_9 := F78_9.ext E79
          have F79_10 := F78_10.ext E79
          have F79_11 := F78_11.ext E79
          have F79_12 := F78_12.ext E79
          have F79_13 := F78_13.ext E79
          have F79_14 := F78_14.ext E79
          have Q79_15 := CC79.safe V78'.lt Q78_15
          have V79_16 := V78'.ext E79
          have V79_17 := V78_17.ext E79
          have V79_18 := V78_18.ext E79
          have V79_19 := V78_19.ext E79
          have V79_20 := V78_20.ext E79
          have V79_21 := V78_21.ext E79
          have K79 := K78.ext E79
          have RR79 := RR78.trans CC79
          have nc_o71_79 := nc79 _ Q79_15
          refine Go.st st79 ?_
          show Go p e below _ T79 (mkF m 186 #[.val (.int p1), .val (.int p2), .val (.int p3), .val (.int p4), .val (.int p5), .val (.int (3 : Int32)), .val (.int (own_key p2)), .val (.int (own_key p3)), .val (.int (own_key p4)), .val (.ref s68), .val (.ref s69), .val (.ref s70), .unset, .unset, .unset, .unset, .unset, .unset, .unset] [(.ref c79), (.int (5 : Int32)), (.ref o71), (.ref o71)])
          obtain ⟨T80, h80, X80, e80, W80, V80, st80⟩ := own_stR X79 hx hZ e79 (j := (5 : Int32)) V79_16 O71 (Ins.self A79) (by decide) (by decide) 5 (by decide) (by simp) (g := (mkF m 186 #[.val (.int p1), .val (.int p2), .val (.int p3), .val (.int p4), .val (.int p5), .val (.int (3 : Int32)), .val (.int (own_key p2)), .val (.int (own_key p3)), .val (.int (own_key p4)), .val (.ref s68), .val (.ref s69), .val (.ref s70), .unset, .unset, .unset, .unset, .unset, .unset, .unset] [(.ref c79), (.int (5 : Int32)), (.ref o71), (.ref o71)])) rfl rfl (hb hby at_186)
          have N80 := Fr.snoc X80 N78 (Nat.le_trans Z0 le_o71)
          have E80_0 := E79_0.wr W80
          have E80_1 := E79_1.wr W80
          have E80_2 := A79.wr W80
          have E80_3 := E79_2.wr W80
          have E80_4 := E79_3.wr W80
          have E80_5 := E79_4.wr W80
          have F80_6 := F79_5.other W80 (Or.inl (Ne.symm nc_o71_73.1))
          have F80_7 := F79_6.other W80 (Or.inl (Ne.symm nc_o71_73.1))
          have F80_8 := F79_7.other W80 (Or.inl (Ne.symm nc_o71_76.1))
          have F80_9 := F79_8.other W80 (Or.inl (Ne.symm nc_o71_76.1))
          have F80_10 := C79.other W80 (Or.inl (Ne.symm nc_o71_79.1))
          have F80_11 := V79.other W80 (Or.inl (Ne.symm nc_o71_79.1))
          have F80_12 := F79_9.other W80 (Or.inl ne_s68_o71)
          have F80_13 := F79_10.other W80 (Or.inl ne_s68_o71)
          have F80_14 := F79_11.other W80 (Or.inl ne_s69_o71)
          have F80_15 := F79_12.other W80 (Or.inl ne_s69_o71)
          have F80_16 := F79_13.other W80 (Or.inl ne_s70_o71)
          have F80_17 := F79_14.other W80 (Or.inl ne_s70_o71)
          have Q80_18 := Safe.wr W80 Q79_15 RR79.1 Q79_15
          have V80_20 := V79_17.other W80 (Ne.symm nc_o71_73.2)
          have V80_21 := V79_18.other W80 (Ne.symm nc_o71_76.2)
          have V80_22 := B79.other W80 (Ne.symm nc_o71_79.2)
          have V80_23 := V79_19.other W80 ne_tv68_o71
          have V80_24 := V79_20.other W80 ne_tv69_o71
          have V80_25 := V79_21.other W80 ne_tv70_o71
          have K80 := K79.wr W80 (Or.inr le_o71)
          have RR80 := RR79.trans (CHr.wr W80 Q79_15 RR79.1)
          have hkS80 := Nat.le_trans hkS79 (Nat.le_of_eq W80.size.symm)
          have V80' : Arv Z h80 o71 k71 (.object "java/lang/String") (6 : Int32) [(.ref s68), (.ref c73), (.ref s69), (.ref c76), (.ref s70), (.ref c79)] .null := V80
          refine Go.st st80 ?_
          show Go p e below _ T80 (mkF m 187 #[.val (.int p1), .val (.int p2), .val (.int p3), .val (.int p4), .val (.int p5), .val (.int (3 : Int32)), .val (.int (own_key p2)), .val (.int (own_key p3)), .val (.int (own_key p4)), .val (.ref s68), .val (.ref s69), .val (.ref s70), .unset, .unset, .unset, .unset, .unset, .unset, .unset] [(.ref o71)])
          refine Go.st (fun _ h => XS.astore X80.here hx rfl (hb hby at_187) rfl rfl (l' := #[.val (.int p1), .val (.int p2), .val (.int p3), .val (.int p4), .val (.int p5), .val (.int (3 : Int32)), .val (.int (own_key p2)), .val (.int (own_key p3)), .val (.int (own_key p4)), .val (.ref s68), .val (.ref s69), .val (.ref s70), .val (.ref o71), .unset, .unset, .unset, .unset, .unset, .unset]) rfl h) ?_
          show Go p e below _ T80 (mkF m 189 #[.val (.int p1), .val (.int p2), .val (.int p3), .val (.int p4), .val (.int p5), .val (.int (3 : Int32)), .val (.int (own_key p2)), .val (.int (own_key p3)), .val (.int (own_key p4)), .val (.ref s68), .val (.ref s69), .val (.ref s70), .val (.ref o71), .unset, .unset, .unset, .unset, .unset, .unset] [])
          refine Go.st (fun _ h => XS.iload X80.here hx rfl (hb hby at_189) rfl h) ?_
          show Go p e below _ T80 (mkF m 191 #[.val (.int p1), .val (.int p2), .val (.int p3), .val (.int p4), .val (.int p5), .val (.int (3 : Int32)), .val (.int (own_key p2)), .val (.int (own_key p3)), .val (.int (own_key p4)), .val (.ref s68), .val (.ref s69), .val (.ref s70), .val (.ref o71), .unset, .unset, .unset, .unset, .unset, .unset] [(.int p5)])
          refine Go.st (fun _ h => XT.iconstV X80.here hx rfl (3 : Int32) (hb hby at_191) (by decide) h) ?_
          show Go p e below _ T80 (mkF m 192 #[.val (.int p1), .val (.int p2), .val (.int p3), .val (.int p4), .val (.int p5), .val (.int (3 : Int32)), .val (.int (own_key p2)), .val (.int (own_key p3)), .val (.int (own_key p4)), .val (.ref s68), .val (.ref s69), .val (.ref s70), .val (.ref o71), .unset, .unset, .unset, .unset, .unset, .unset] [(.int (3 : Int32)), (.int p5)])
          refine Go.st (fun _ h => XS.iand X80.here hx rfl (hb hby at_192) rfl h) ?_
          show Go p e below _ T80 (mkF m 193 #[.val (.int p1), .val (.int p2), .val (.int p3), .val (.int p4), .val (.int p5), .val (.int (3 : Int32)), .val (.int (own_key p2)), .val (.int (own_key p3)), .val (.int (own_key p4)), .val (.ref s68), .val (.ref s69), .val (.ref s70), .val (.ref o71), .unset, .unset, .unset, .unset, .unset, .unset] [(.int (p5 &&& (3 : Int32)))])
          refine Go.st (fun _ h => XS.istore X80.here hx rfl (hb hby at_193) rfl (l' := #[.val (.int p1), .val (.int p2), .val (.int p3), .val (.int p4), .val (.int p5), .val (.int (3 : Int32)), .val (.int (own_key p2)), .val (.int (own_key p3)), .val (.int (own_key p4)), .val (.ref s68), .val (.ref s69), .val (.ref s70), .val (.ref o71), .val (.int (p5 &&& (3 : Int32))), .unset, .unset, .unset, .unset, .unset]) rfl h) ?_
          show Go p e below _ T80 (mkF m 195 #[.val (.int p1), .val (.int p2), .val (.int p3), .val (.int p4), .val (.int p5), .val (.int (3 : Int32)), .val (.int (own_key p2)), .val (.int (own_key p3)), .val (.int (own_key p4)), .val (.ref s68), .val (.ref s69), .val (.ref s70), .val (.ref o71), .val (.int (p5 &&& (3 : Int32))), .unset, .unset, .unset, .unset, .unset] [])
          have KK : ∀ z : Int32, Go p e below (EndsH Z consts_1 s room_1.cells room_1.slots (fun v h L => v = some (.int 1) ∧ Fr n0 L)) T80 (mkF m 236 #[.val (.int p1), .val (.int p2), .val (.int p3), .val (.int p4), .val (.int p5), .val (.int (3 : Int32)), .val (.int (own_key p2)), .val (.int (own_key p3)), .val (.int (own_key p4)), .val (.ref s68), .val (.ref s69), .val (.ref s70), .val (.ref o71), .val (.int (p5 &&& (3 : Int32))), .val (.int z), .unset, .unset, .unset, .unset] []) := by
            intro z
            refine Go.st (fun _ h => XS.iload X80.here hx rfl (hb hby at_236) rfl h) ?_
            show Go p e below _ T80 (mkF m 238 #[.val (.int p1), .val (.int p2), .val (.int p3), .val (.int p4), .val (.int p5), .val (.int (3 : Int32)), .val (.int (own_key p2)), .val (.int (own_key p3)), .val (.int (own_key p4)), .val (.ref s68), .val (.ref s69), .val (.ref s70), .val (.ref o71), .val (.int (p5 &&& (3 : Int32))), .val (.int z), .unset, .unset, .unset, .unset] [(.int z)])
            obtain ⟨_, T81, L81, X81, hZ, hown, hS, RR81, ⟨s81, tv81, kv81, rfl, Nc81, Kc81, lec81, Ec81, Cc81, Vc81, Bc81⟩, st81⟩ := DoesH.static (s := s) (y := (⟨"com/example/tenon/tenon/core/XmlElementDeclaredPinLaw", "mk", "(I)Ljava/lang/String;"⟩ : MethodName)) (g := (mkF m 238 #[.val (.int p1), .val (.int p2), .val (.int p3), .val (.int p4), .val (.int p5), .val (.int (3 : Int32)), .val (.int (own_key p2)), .val (.int (own_key p3)), .val (.int (own_key p4)), .val (.ref s68), .val (.ref s69), .val (.ref s70), .val (.ref o71), .val (.int (p5 &&& (3 : Int32))), .val (.int z), .unset, .unset, .unset, .unset] [(.int z)])) (rmMk l Z a0 hw hEL wS z h80 n0 (Nat.le_trans Z0 K80.1) zc (S_CS.ext (own_ext K80)) hzc) X80 hx hZ hown e80 hEL RR80 hS hkS80 (hw _ (List.mem_of_getElem? (i := 7) rfl)) (hw _ (List.mem_of_getElem? (i := 8) rfl)) (hw _ (List.mem_of_getElem? (i := 2) rfl)) (hw _ (List.mem_of_getElem? (i := 9) rfl)) (by decide) rfl (by rw [hml]; rfl) (argsL := [(.int z)]) (rest := []) (lenOf pd_28I29Ljava2flang2fString3b rfl) rfl (hb hby at_238) (W := 0) (by show 2 * 0 + _ ≤ _; exact Nat.le_of_eq rfl) (by decide) (by decide) (by decide) (by decide)
            have E81_0 := E80_0.keep Kc81
            have E81_1 := E80_1.keep Kc81
            have E81_2 := E80_2.keep Kc81
            have E81_3 := E80_3.keep Kc81
            have E81_4 := E80_4.keep Kc81
            have E81_5 := E80_5.keep Kc81
            have F81_6 := F80_6.keep Kc81 nin0
            have F81_7 := F80_7.keep Kc81 nin0
            have F81_8 := F80_8.keep Kc81 nin0
            have F81_9 := F80_9.keep Kc81 nin0
            have F81_10 := F80_10.keep Kc81 nin0
            have F81_11 := F80_11.keep Kc81 nin0
            have F81_12 := F80_12.keep Kc81 nin0
            have F81_13 := F80_13.keep Kc81 nin0
            have F81_14 := F80_14.keep Kc81 nin0
            have F81_15 := F80_15.keep Kc81 nin0
            have F81_16 := F80_16.keep Kc81 nin0
            have F81_17 := F80_17.keep Kc81 nin0
            have V81_19 := V80'.keep Kc81 nin0
            have V81_20 := V80_20.keep Kc81 nin0
            have V81_21 := V80_21.keep Kc81 nin0
            have V81_22 := V80_22.keep Kc81 nin0
            have V81_23 := V80_23.keep Kc81 nin0
            have V81_24 := V80_24.keep Kc81 nin0
            have V81_25 := V80_25.keep Kc81 nin0
            have K81 := K80.trans Kc81 all0
            have N81 := Fr.app N80 Nc81
            have ne_c73_s81 : c73 ≠ s81 := Nat.ne_of_lt (Nat.lt_of_lt_of_le E80_0.lt lec81)
            have ne_c76_s81 : c76 ≠ s81 := Nat.ne_of_lt (Nat.lt_of_lt_of_le E80_1.lt lec81)
            have ne_c79_s81 : c79 ≠ s81 := Nat.ne_of_lt (Nat.lt_of_lt_of_le E80_2.lt lec81)
            have ne_s68_s81 : s68 ≠ s81 := Nat.ne_of_lt (Nat.lt_of_lt_of_le E80_3.lt lec81)
            have ne_s69_s81 : s69 ≠ s81 := Nat.ne_of_lt (Nat.lt_of_lt_of_le E80_4.lt lec81)
            have ne_s70_s81 : s70 ≠ s81 := Nat.ne_of_lt (Nat.lt_of_lt_of_le E80_5.lt lec81)
            have ne_t73_s81 : t73 ≠ s81 := Nat.ne_of_lt (Nat.lt_of_lt_of_le V80_20.lt lec81)
            have ne_t76_s81 : t76 ≠ s81 := Nat.ne_of_lt (Nat.lt_of_lt_of_le V80_21.lt lec81)
            have ne_t79_s81 : t79 ≠ s81 := Nat.ne_of_lt (Nat.lt_of_lt_of_le V80_22.lt lec81)
            have ne_tv68_s81 : tv68 ≠ s81 := Nat.ne_of_lt (Nat.lt_of_lt_of_le V80_23.lt lec81)
            have ne_tv69_s81 : tv69 ≠ s81 := Nat.ne_of_lt (Nat.lt_of_lt_of_le V80_24.lt lec81)
            have ne_tv70_s81 : tv70 ≠ s81 := Nat.ne_of_lt (Nat.lt_of_lt_of_le V80_25.lt lec81)
            have ne_o71_s81 : o71 ≠ s81 := Nat.ne_of_lt (Nat.lt_of_lt_of_le V80'.lt lec81)
            refine Go.st st81 ?_
            show Go p e below _ T81 (mkF m 241 #[.val (.int p1), .val (.int p2), .val (.int p3), .val (.int p4), .val (.int p5), .val (.int (3 : Int32)), .val (.int (own_key p2)), .val (.int (own_key p3)), .val (.int (own_key p4)), .val (.ref s68), .val (.ref s69), .val (.ref s70), .val (.ref o71), .val (.int (p5 &&& (3 : Int32))), .val (.int z), .unset, .unset, .unset, .unset] [(.ref s81)])
            refine Go.st (fun _ h => XS.astore X81.here hx rfl (hb hby at_241) rfl rfl (l' := #[.val (.int p1), .val (.int p2), .val (.int p3), .val (.int p4), .val (.int p5), .val (.int (3 : Int32)), .val (.int (own_key p2)), .val (.int (own_key p3)), .val (.int (own_key p4)), .val (.ref s68), .val (.ref s69), .val (.ref s70), .val (.ref o71), .val (.int (p5 &&& (3 : Int32))), .val (.int z), .val (.ref s81), .unset, .unset, .unset]) rfl h) ?_
            show Go p e below _ T81 (mkF m 243 #[.val (.int p1), .val (.int p2), .val (.int p3), .val (.int p4), .val (.int p5), .val (.int (3 : Int32)), .val (.int (own_key p2)), .val (.int (own_key p3)), .val (.int (own_key p4)), .val (.ref s68), .val (.ref s69), .val (.ref s70), .val (.ref o71), .val (.int (p5 &&& (3 : Int32))), .val (.int z), .val (.ref s81), .unset, .unset, .unset] [])
            refine Go.st (fun _ h => XS.iload X81.here hx rfl (hb hby at_243) rfl h) ?_
            show Go p e below _ T81 (mkF m 245 #[.val (.int p1), .val (.int p2), .val (.int p3), .val (.int p4), .val (.int p5), .val (.int (3 : Int32)), .val (.int (own_key p2)), .val (.int (own_key p3)), .val (.int (own_key p4)), .val (.ref s68), .val (.ref s69), .val (.ref s70), .val (.ref o71), .val (.int (p5 &&& (3 : Int32))), .val (.int z), .val (.ref s81), .unset, .unset, .unset] [(.int z)])
            obtain ⟨T82, X82, e82, st82⟩ := own_still rfl rfl (Does.static (y := (⟨"com/example/tenon/tenon/core/XmlElementDeclaredPinLaw", "key", "(I)I"⟩ : MethodName)) (g := (mkF m 245 #[.val (.int p1), .val (.int p2), .val (.int p3), .val (.int p4), .val (.int p5), .val (.int (3 : Int32)), .val (.int (own_key p2)), .val (.int (own_key p3)), .val (.int (own_key p4)), .val (.ref s68), .val (.ref s69), .val (.ref s70), .val (.ref o71), .val (.int (p5 &&& (3 : Int32))), .val (.int z), .val (.ref s81), .unset, .unset, .unset] [(.int z)])) (rmKey l Z a0 hw z T81.heap) X81 hx hZ hown rfl (hw _ (List.mem_of_getElem? (i := 0) rfl)) (hw _ (List.mem_of_getElem? (i := 1) rfl)) (hw _ (List.mem_of_getElem? (i := 2) rfl)) (hw _ (List.mem_of_getElem? (i := 3) rfl)) (by decide) rfl (by rw [hml]; rfl) (argsL := [(.int z)]) (rest := []) (lenOf pd_28I29I rfl) rfl (hb hby at_245) (W := 0) (by show 2 * 0 + _ ≤ _; exact Nat.le_of_eq rfl) (by decide) (by decide) (by decide) (by decide))
            refine Go.st st82 ?_
            show Go p e below _ T82 (mkF m 248 #[.val (.int p1), .val (.int p2), .val (.int p3), .val (.int p4), .val (.int p5), .val (.int (3 : Int32)), .val (.int (own_key p2)), .val (.int (own_key p3)), .val (.int (own_key p4)), .val (.ref s68), .val (.ref s69), .val (.ref s70), .val (.ref o71), .val (.int (p5 &&& (3 : Int32))), .val (.int z), .val (.ref s81), .unset, .unset, .unset] [(.int (own_key z))])
            refine Go.st (fun _ h => XS.istore X82.here hx rfl (hb hby at_248) rfl (l' := #[.val (.int p1), .val (.int p2), .val (.int p3), .val (.int p4), .val (.int p5), .val (.int (3 : Int32)), .val (.int (own_key p2)), .val (.int (own_key p3)), .val (.int (own_key p4)), .val (.ref s68), .val (.ref s69), .val (.ref s70), .val (.ref o71), .val (.int (p5 &&& (3 : Int32))), .val (.int z), .val (.ref s81), .val (.int (own_key z)), .unset, .unset]) rfl h) ?_
            show Go p e below _ T82 (mkF m 250 #[.val (.int p1), .val (.int p2), .val (.int p3), .val (.int p4), .val (.int p5), .val (.int (3 : Int32)), .val (.int (own_key p2)), .val (.int (own_key p3)), .val (.int (own_key p4)), .val (.ref s68), .val (.ref s69), .val (.ref s70), .val (.ref o71), .val (.int (p5 &&& (3 : Int32))), .val (.int z), .val (.ref s81), .val (.int (own_key z)), .unset, .unset] [])
            refine Go.st (fun _ h => XS.aconstNull X82.here hx rfl (hb hby at_250) h) ?_
            show Go p e below _ T82 (mkF m 251 #[.val (.int p1), .val (.int p2), .val (.int p3), .val (.int p4), .val (.int p5), .val (.int (3 : Int32)), .val (.int (own_key p2)), .val (.int (own_key p3)), .val (.int (own_key p4)), .val (.ref s68), .val (.ref s69), .val (.ref s70), .val (.ref o71), .val (.int (p5 &&& (3 : Int32))), .val (.int z), .val (.ref s81), .val (.int (own_key z)), .unset, .unset] [.null])
            refine Go.st (fun _ h => XS.astore X82.here hx rfl (hb hby at_251) rfl rfl (l' := #[.val (.int p1), .val (.int p2), .val (.int p3), .val (.int p4), .val (.int p5), .val (.int (3 : Int32)), .val (.int (own_key p2)), .val (.int (own_key p3)), .val (.int (own_key p4)), .val (.ref s68), .val (.ref s69), .val (.ref s70), .val (.ref o71), .val (.int (p5 &&& (3 : Int32))), .val (.int z), .val (.ref s81), .val (.int (own_key z)), .val .null, .unset]) rfl h) ?_
            show Go p e below _ T82 (mkF m 253 #[.val (.int p1), .val (.int p2), .val (.int p3), .val (.int p4), .val (.int p5), .val (.int (3 : Int32)), .val (.int (own_key p2)), .val (.int (own_key p3)), .val (.int (own_key p4)), .val (.ref s68), .val (.ref s69), .val (.ref s70), .val (.ref o71), .val (.int (p5 &&& (3 : Int32))), .val (.int z), .val (.ref s81), .val (.int (own_key z)), .val .null, .unset] [])
            refine Go.st (fun _ h => XS.iload X82.here hx rfl (hb hby at_253) rfl h) ?_
            show Go p e below _ T82 (mkF m 255 #[.val (.int p1), .val (.int p2), .val (.int p3), .val (.int p4), .val (.int p5), .val (.int (3 : Int32)), .val (.int (own_key p2)), .val (.int (own_key p3)), .val (.int (own_key p4)), .val (.ref s68), .val (.ref s69), .val (.ref s70), .val (.ref o71), .val (.int (p5 &&& (3 : Int32))), .val (.int z), .val (.ref s81), .val (.int (own_key z)), .val .null, .unset] [(.int (3 : Int32))])
            refine Go.st (fun _ h => XT.iconstV X82.here hx rfl (1 : Int32) (hb hby at_255) (by decide) h) ?_
            show Go p e below _ T82 (mkF m 256 #[.val (.int p1), .val (.int p2), .val (.int p3), .val (.int p4), .val (.int p5), .val (.int (3 : Int32)), .val (.int (own_key p2)), .val (.int (own_key p3)), .val (.int (own_key p4)), .val (.ref s68), .val (.ref s69), .val (.ref s70), .val (.ref o71), .val (.int (p5 &&& (3 : Int32))), .val (.int z), .val (.ref s81), .val (.int (own_key z)), .val .null, .unset] [(.int (1 : Int32)), (.int (3 : Int32))])
            refine Go.st (fun _ h => XS.icmpNo X82.here hx rfl (hb hby at_256) rfl (by decide) h) ?_
            show Go p e below _ T82 (mkF m 259 #[.val (.int p1), .val (.int p2), .val (.int p3), .val (.int p4), .val (.int p5), .val (.int (3 : Int32)), .val (.int (own_key p2)), .val (.int (own_key p3)), .val (.int (own_key p4)), .val (.ref s68), .val (.ref s69), .val (.ref s70), .val (.ref o71), .val (.int (p5 &&& (3 : Int32))), .val (.int z), .val (.ref s81), .val (.int (own_key z)), .val .null, .unset] [])
            refine Go.st (fun _ h => XS.iload X82.here hx rfl (hb hby at_259) rfl h) ?_
            show Go p e below _ T82 (mkF m 261 #[.val (.int p1), .val (.int p2), .val (.int p3), .val (.int p4), .val (.int p5), .val (.int (3 : Int32)), .val (.int (own_key p2)), .val (.int (own_key p3)), .val (.int (own_key p4)), .val (.ref s68), .val (.ref s69), .val (.ref s70), .val (.ref o71), .val (.int (p5 &&& (3 : Int32))), .val (.int z), .val (.ref s81), .val (.int (own_key z)), .val .null, .unset] [(.int (own_key z))])
            refine Go.st (fun _ h => XS.iload X82.here hx rfl (hb hby at_261) rfl h) ?_
            show Go p e below _ T82 (mkF m 263 #[.val (.int p1), .val (.int p2), .val (.int p3), .val (.int p4), .val (.int p5), .val (.int (3 : Int32)), .val (.int (own_key p2)), .val (.int (own_key p3)), .val (.int (own_key p4)), .val (.ref s68), .val (.ref s69), .val (.ref s70), .val (.ref o71), .val (.int (p5 &&& (3 : Int32))), .val (.int z), .val (.ref s81), .val (.int (own_key z)), .val .null, .unset] [(.int (own_key p2)), (.int (own_key z))])
            by_cases hc83 : (own_key z) = (own_key p2)
            · refine Go.st (fun _ h => XS.icmpNo X82.here hx rfl (hb hby at_263) rfl ((teq hc83).2) h) ?_
              show Go p e below _ T82 (mkF m 266 #[.val (.int p1), .val (.int p2), .val (.int p3), .val (.int p4), .val (.int p5), .val (.int (3 : Int32)), .val (.int (own_key p2)), .val (.int (own_key p3)), .val (.int (own_key p4)), .val (.ref s68), .val (.ref s69), .val (.ref s70), .val (.ref o71), .val (.int (p5 &&& (3 : Int32))), .val (.int z), .val (.ref s81), .val (.int (own_key z)), .val .null, .unset] [])
              obtain ⟨c84, T84, h84, k84, t84, q84, X84, e84, E84, hS, hkS84, hZ, hown, A84, C84, V84, B84, lt84, lu84, CC84, -, nc84, st84⟩ := ldcCH (s := s) X82 hx hZ hown (hw _ (List.mem_of_getElem? (i := 48) rfl)) wS e82 hS (Nat.le_refl _) hEL (List.mem_of_getElem? (i := 0) rfl) RR81.1 (vs := [(.int (117 : Int32)), (.int (48 : Int32))]) (z := (2 : Int32)) ⟨by decide, by decide⟩ (by decide) (by decide) (g := (mkF m 266 #[.val (.int p1), .val (.int p2), .val (.int p3), .val (.int p4), .val (.int p5), .val (.int (3 : Int32)), .val (.int (own_key p2)), .val (.int (own_key p3)), .val (.int (own_key p4)), .val (.ref s68), .val (.ref s69), .val (.ref s70), .val (.ref o71), .val (.int (p5 &&& (3 : Int32))), .val (.int z), .val (.ref s81), .val (.int (own_key z)), .val .null, .unset] [])) rfl (hb hby at_266) (n := 8) (by decide) (by decide) (by decide) (by decide)
              have E84_0 := E81_0.ext E84
              have E84_1 := E81_1.ext E84
              have E84_2 := E81_2.ext E84
              have E84_3 := E81_3.ext E84
              have E84_4 := E81_4.ext E84
              have E84_5 := E81_5.ext E84
              have E84_6 := Ec81.ext E84
              have F84_7 := F81_6.ext E84
              have F84_8 := F81_7.ext E84
              have F84_9 := F81_8.ext E84
              have F84_10 := F81_9.ext E84
              have F84_11 := F81_10.ext E84
              have F84_12 := F81_11.ext E84
              have F84_13 := F81_12.ext E84
              have F84_14 := F81_13.ext E84
              have F84_15 := F81_14.ext E84
              have F84_16 := F81_15.ext E84
              have F84_17 := F81_16.ext E84
              have F84_18 := F81_17.ext E84
              have F84_19 := Cc81.ext E84
              have F84_20 := Vc81.ext E84
              have V84_21 := V81_19.ext E84
              have V84_22 := V81_20.ext E84
              have V84_23 := V81_21.ext E84
              have V84_24 := V81_22.ext E84
              have V84_25 := V81_23.ext E84
              have V84_26 := V81_24.ext E84
              have V84_27 := V81_25.ext E84
              have V84_28 := Bc81.ext E84
              have K84 := K81.ext E84
              have RR84 := RR81.trans CC84
              refine Go.st st84 ?_
              show Go p e below _ T84 (mkF m 268 #[.val (.int p1), .val (.int p2), .val (.int p3), .val (.int p4), .val (.int p5), .val (.int (3 : Int32)), .val (.int (own_key p2)), .val (.int (own_key p3)), .val (.int (own_key p4)), .val (.ref s68), .val (.ref s69), .val (.ref s70), .val (.ref o71), .val (.int (p5 &&& (3 : Int32))), .val (.int z), .val (.ref s81), .val (.int (own_key z)), .val .null, .unset] [(.ref c84)])
              refine Go.st (fun _ h => XS.astore X84.here hx rfl (hb hby at_268) rfl rfl (l' := #[.val (.int p1), .val (.int p2), .val (.int p3), .val (.int p4), .val (.int p5), .val (.int (3 : Int32)), .val (.int (own_key p2)), .val (.int (own_key p3)), .val (.int (own_key p4)), .val (.ref s68), .val (.ref s69), .val (.ref s70), .val (.ref o71), .val (.int (p5 &&& (3 : Int32))), .val (.int z), .val (.ref s81), .val (.int (own_key z)), .val (.ref c84), .unset]) rfl h) ?_
              show Go p e below _ T84 (mkF m 270 #[.val (.int p1), .val (.int p2), .val (.int p3), .val (.int p4), .val (.int p5), .val (.int (3 : Int32)), .val (.int (own_key p2)), .val (.int (own_key p3)), .val (.int (own_key p4)), .val (.ref s68), .val (.ref s69), .val (.ref s70), .val (.ref o71), .val (.int (p5 &&& (3 : Int32))), .val (.int z), .val (.ref s81), .val (.int (own_key z)), .val (.ref c84), .unset] [])
              refine Go.st (fun _ h => XS.goto X84.here hx rfl (pc0 := 270) (pc' := 310) rfl (hb hby at_270) (by decide) (by decide) h) ?_
              show Go p e below _ T84 (mkF m 310 #[.val (.int p1), .val (.int p2), .val (.int p3), .val (.int p4), .val (.int p5), .val (.int (3 : Int32)), .val (.int (own_key p2)), .val (.int (own_key p3)), .val (.int (own_key p4)), .val (.ref s68), .val (.ref s69), .val (.ref s70), .val (.ref o71), .val (.int (p5 &&& (3 : Int32))), .val (.int z), .val (.ref s81), .val (.int (own_key z)), .val (.ref c84), .unset] [])
              refine Go.st (fun _ h => XS.aload X84.here hx rfl (hb hby at_310) rfl rfl h) ?_
              show Go p e below _ T84 (mkF m 312 #[.val (.int p1), .val (.int p2), .val (.int p3), .val (.int p4), .val (.int p5), .val (.int (3 : Int32)), .val (.int (own_key p2)), .val (.int (own_key p3)), .val (.int (own_key p4)), .val (.ref s68), .val (.ref s69), .val (.ref s70), .val (.ref o71), .val (.int (p5 &&& (3 : Int32))), .val (.int z), .val (.ref s81), .val (.int (own_key z)), .val (.ref c84), .unset] [(.ref o71)])
              refine Go.st (fun _ h => XS.aload X84.here hx rfl (hb hby at_312) rfl rfl h) ?_
              show Go p e below _ T84 (mkF m 314 #[.val (.int p1), .val (.int p2), .val (.int p3), .val (.int p4), .val (.int p5), .val (.int (3 : Int32)), .val (.int (own_key p2)), .val (.int (own_key p3)), .val (.int (own_key p4)), .val (.ref s68), .val (.ref s69), .val (.ref s70), .val (.ref o71), .val (.int (p5 &&& (3 : Int32))), .val (.int z), .val (.ref s81), .val (.int (own_key z)), .val (.ref c84), .unset] [(.ref s81), (.ref o71)])
              obtain ⟨T85, X85, e85, st85⟩ := own_still rfl rfl (Does.static (y := (⟨"com/example/tenon/tenon/core/XmlElement", "declared", "([Ljava/lang/String;Ljava/lang/String;)Ljava/lang/String;"⟩ : MethodName)) (g := (mkF m 314 #[.val (.int p1), .val (.int p2), .val (.int p3), .val (.int p4), .val (.int p5), .val (.int (3 : Int32)), .val (.int (own_key p2)), .val (.int (own_key p3)), .val (.int (own_key p4)), .val (.ref s68), .val (.ref s69), .val (.ref s70), .val (.ref o71), .val (.int (p5 &&& (3 : Int32))), .val (.int z), .val (.ref s81), .val (.int (own_key z)), .val (.ref c84), .unset] [(.ref s81), (.ref o71)])) (rmDecl3_0 l Z a0 hw o71 s81 tv81 k71 kv81 (own_str z) (own_str2 _) s68 c73 tv68 kv68 (own_str p2) (own_str2 _) ne_s68_s81 s69 c76 tv69 kv69 (own_str p3) (own_str2 _) ne_s69_s81 s70 c79 tv70 kv70 (own_str p4) (own_str2 _) ne_s70_s81 h84 E84_6 F84_19 F84_20 V84_28 E84_3 F84_13 F84_14 V84_25 E84_4 F84_15 F84_16 V84_26 E84_5 F84_17 F84_18 V84_27 V84_21 zc (S_CS.ext (own_ext K84)) hzc (own_inj.mp hc83).symm) X84 hx hZ hown e84 (hw _ (List.mem_of_getElem? (i := 41) rfl)) (hw _ (List.mem_of_getElem? (i := 42) rfl)) (hw _ (List.mem_of_getElem? (i := 43) rfl)) (hw _ (List.mem_of_getElem? (i := 44) rfl)) (by decide) rfl (by rw [hml]; rfl) (argsL := [(.ref o71), (.ref s81)]) (rest := []) (lenOf pd_285bLjava2flang2fString3bLjava2flang2fString3b29Ljava2flang2fString3b rfl) rfl (hb hby at_314) (W := 0) (by show 2 * 0 + _ ≤ _; exact Nat.le_of_eq rfl) (by decide) (by decide) (by decide) (by decide))
              refine Go.st st85 ?_
              show Go p e below _ T85 (mkF m 317 #[.val (.int p1), .val (.int p2), .val (.int p3), .val (.int p4), .val (.int p5), .val (.int (3 : Int32)), .val (.int (own_key p2)), .val (.int (own_key p3)), .val (.int (own_key p4)), .val (.ref s68), .val (.ref s69), .val (.ref s70), .val (.ref o71), .val (.int (p5 &&& (3 : Int32))), .val (.int z), .val (.ref s81), .val (.int (own_key z)), .val (.ref c84), .unset] [(.ref c73)])
              refine Go.st (fun _ h => XS.astore X85.here hx rfl (hb hby at_317) rfl rfl (l' := #[.val (.int p1), .val (.int p2), .val (.int p3), .val (.int p4), .val (.int p5), .val (.int (3 : Int32)), .val (.int (own_key p2)), .val (.int (own_key p3)), .val (.int (own_key p4)), .val (.ref s68), .val (.ref s69), .val (.ref s70), .val (.ref o71), .val (.int (p5 &&& (3 : Int32))), .val (.int z), .val (.ref s81), .val (.int (own_key z)), .val (.ref c84), .val (.ref c73)]) rfl h) ?_
              show Go p e below _ T85 (mkF m 319 #[.val (.int p1), .val (.int p2), .val (.int p3), .val (.int p4), .val (.int p5), .val (.int (3 : Int32)), .val (.int (own_key p2)), .val (.int (own_key p3)), .val (.int (own_key p4)), .val (.ref s68), .val (.ref s69), .val (.ref s70), .val (.ref o71), .val (.int (p5 &&& (3 : Int32))), .val (.int z), .val (.ref s81), .val (.int (own_key z)), .val (.ref c84), .val (.ref c73)] [])
              refine Go.st (fun _ h => XS.aload X85.here hx rfl (hb hby at_319) rfl rfl h) ?_
              show Go p e below _ T85 (mkF m 321 #[.val (.int p1), .val (.int p2), .val (.int p3), .val (.int p4), .val (.int p5), .val (.int (3 : Int32)), .val (.int (own_key p2)), .val (.int (own_key p3)), .val (.int (own_key p4)), .val (.ref s68), .val (.ref s69), .val (.ref s70), .val (.ref o71), .val (.int (p5 &&& (3 : Int32))), .val (.int z), .val (.ref s81), .val (.int (own_key z)), .val (.ref c84), .val (.ref c73)] [(.ref c84)])
              refine Go.st (fun _ h => XT.ifnonnullYes X85.here hx rfl (pc0 := 321) (pc' := 335) rfl (hb hby at_321) rfl (by decide) (by decide) h) ?_
              show Go p e below _ T85 (mkF m 335 #[.val (.int p1), .val (.int p2), .val (.int p3), .val (.int p4), .val (.int p5), .val (.int (3 : Int32)), .val (.int (own_key p2)), .val (.int (own_key p3)), .val (.int (own_key p4)), .val (.ref s68), .val (.ref s69), .val (.ref s70), .val (.ref o71), .val (.int (p5 &&& (3 : Int32))), .val (.int z), .val (.ref s81), .val (.int (own_key z)), .val (.ref c84), .val (.ref c73)] [])
              refine Go.st (fun _ h => XS.aload X85.here hx rfl (hb hby at_335) rfl rfl h) ?_
              show Go p e below _ T85 (mkF m 337 #[.val (.int p1), .val (.int p2), .val (.int p3), .val (.int p4), .val (.int p5), .val (.int (3 : Int32)), .val (.int (own_key p2)), .val (.int (own_key p3)), .val (.int (own_key p4)), .val (.ref s68), .val (.ref s69), .val (.ref s70), .val (.ref o71), .val (.int (p5 &&& (3 : Int32))), .val (.int z), .val (.ref s81), .val (.int (own_key z)), .val (.ref c84), .val (.ref c73)] [(.ref c84)])
              refine Go.st (fun _ h => XS.aload X85.here hx rfl (hb hby at_337) rfl rfl h) ?_
              show Go p e below _ T85 (mkF m 339 #[.val (.int p1), .val (.int p2), .val (.int p3), .val (.int p4), .val (.int p5), .val (.int (3 : Int32)), .val (.int (own_key p2)), .val (.int (own_key p3)), .val (.int (own_key p4)), .val (.ref s68), .val (.ref s69), .val (.ref s70), .val (.ref o71), .val (.int (p5 &&& (3 : Int32))), .val (.int z), .val (.ref s81), .val (.int (own_key z)), .val (.ref c84), .val (.ref c73)] [(.ref c73), (.ref c84)])
              obtain ⟨T86, X86, e86, st86⟩ := own_still rfl rfl (Does.virtual (y := (⟨"java/lang/String", "equals", "(Ljava/lang/Object;)Z"⟩ : MethodName)) (g := (mkF m 339 #[.val (.int p1), .val (.int p2), .val (.int p3), .val (.int p4), .val (.int p5), .val (.int (3 : Int32)), .val (.int (own_key p2)), .val (.int (own_key p3)), .val (.int (own_key p4)), .val (.ref s68), .val (.ref s69), .val (.ref s70), .val (.ref o71), .val (.int (p5 &&& (3 : Int32))), .val (.int z), .val (.ref s81), .val (.int (own_key z)), .val (.ref c84), .val (.ref c73)] [(.ref c73), (.ref c84)])) (a := c84) (rmEq_u0 l Z a0 hw c84 c73 t84 t73 q84 q73 h84 A84 C84 V84 E84_0 F84_7 F84_8 B84 V84_22 zc (S_CS.ext (own_ext K84)) hzc) X85 hx hZ hown e85 A84 (hw _ (List.mem_of_getElem? (i := 61) rfl)) (hw _ (List.mem_of_getElem? (i := 52) rfl)) (hw _ (List.mem_of_getElem? (i := 54) rfl)) (hw _ (List.mem_of_getElem? (i := 53) rfl)) (hw _ (List.mem_of_getElem? (i := 12) rfl)) (hw _ (List.mem_of_getElem? (i := 55) rfl)) (by decide) rfl (by rw [hml]; rfl) (argsL := [(.ref c73)]) (rest := []) (lenOf pd_28Ljava2flang2fObject3b29Z rfl) rfl (hb hby at_339) (W := 0) (by show 2 * 0 + _ ≤ _; exact Nat.le_of_eq rfl) (by decide) (by decide) (by decide) (by decide))
              refine Go.st st86 ?_
              show Go p e below _ T86 (mkF m 342 #[.val (.int p1), .val (.int p2), .val (.int p3), .val (.int p4), .val (.int p5), .val (.int (3 : Int32)), .val (.int (own_key p2)), .val (.int (own_key p3)), .val (.int (own_key p4)), .val (.ref s68), .val (.ref s69), .val (.ref s70), .val (.ref o71), .val (.int (p5 &&& (3 : Int32))), .val (.int z), .val (.ref s81), .val (.int (own_key z)), .val (.ref c84), .val (.ref c73)] [(.int (1 : Int32))])
              refine Go.retH X86 hx hlk hZ hEL RR84 e86 hS hkS84 hret rfl (Or.inl ⟨rfl, Or.inr (Or.inl rfl), _, rfl⟩) (hb hby at_342) (by decide) (by decide) ?_
              exact ⟨rfl, N81⟩
            · refine Go.st (fun _ h => XS.icmpYes X82.here hx rfl (pc0 := 263) (pc' := 273) rfl (hb hby at_263) rfl ((feq hc83).2) (by decide) (by decide) h) ?_
              show Go p e below _ T82 (mkF m 273 #[.val (.int p1), .val (.int p2), .val (.int p3), .val (.int p4), .val (.int p5), .val (.int (3 : Int32)), .val (.int (own_key p2)), .val (.int (own_key p3)), .val (.int (own_key p4)), .val (.ref s68), .val (.ref s69), .val (.ref s70), .val (.ref o71), .val (.int (p5 &&& (3 : Int32))), .val (.int z), .val (.ref s81), .val (.int (own_key z)), .val .null, .unset] [])
              refine Go.st (fun _ h => XS.iload X82.here hx rfl (hb hby at_273) rfl h) ?_
              show Go p e below _ T82 (mkF m 275 #[.val (.int p1), .val (.int p2), .val (.int p3), .val (.int p4), .val (.int p5), .val (.int (3 : Int32)), .val (.int (own_key p2)), .val (.int (own_key p3)), .val (.int (own_key p4)), .val (.ref s68), .val (.ref s69), .val (.ref s70), .val (.ref o71), .val (.int (p5 &&& (3 : Int32))), .val (.int z), .val (.ref s81), .val (.int (own_key z)), .val .null, .unset] [(.int (3 : Int32))])
              refine Go.st (fun _ h => XT.iconstV X82.here hx rfl (2 : Int32) (hb hby at_275) (by decide) h) ?_
              show Go p e below _ T82 (mkF m 276 #[.val (.int p1), .val (.int p2), .val (.int p3), .val (.int p4), .val (.int p5), .val (.int (3 : Int32)), .val (.int (own_key p2)), .val (.int (own_key p3)), .val (.int (own_key p4)), .val (.ref s68), .val (.ref s69), .val (.ref s70), .val (.ref o71), .val (.int (p5 &&& (3 : Int32))), .val (.int z), .val (.ref s81), .val (.int (own_key z)), .val .null, .unset] [(.int (2 : Int32)), (.int (3 : Int32))])
              refine Go.st (fun _ h => XS.icmpNo X82.here hx rfl (hb hby at_276) rfl (by decide) h) ?_
              show Go p e below _ T82 (mkF m 279 #[.val (.int p1), .val (.int p2), .val (.int p3), .val (.int p4), .val (.int p5), .val (.int (3 : Int32)), .val (.int (own_key p2)), .val (.int (own_key p3)), .val (.int (own_key p4)), .val (.ref s68), .val (.ref s69), .val (.ref s70), .val (.ref o71), .val (.int (p5 &&& (3 : Int32))), .val (.int z), .val (.ref s81), .val (.int (own_key z)), .val .null, .unset] [])
              refine Go.st (fun _ h => XS.iload X82.here hx rfl (hb hby at_279) rfl h) ?_
              show Go p e below _ T82 (mkF m 281 #[.val (.int p1), .val (.int p2), .val (.int p3), .val (.int p4), .val (.int p5), .val (.int (3 : Int32)), .val (.int (own_key p2)), .val (.int (own_key p3)), .val (.int (own_key p4)), .val (.ref s68), .val (.ref s69), .val (.ref s70), .val (.ref o71), .val (.int (p5 &&& (3 : Int32))), .val (.int z), .val (.ref s81), .val (.int (own_key z)), .val .null, .unset] [(.int (own_key z))])
              refine Go.st (fun _ h => XS.iload X82.here hx rfl (hb hby at_281) rfl h) ?_
              show Go p e below _ T82 (mkF m 283 #[.val (.int p1), .val (.int p2), .val (.int p3), .val (.int p4), .val (.int p5), .val (.int (3 : Int32)), .val (.int (own_key p2)), .val (.int (own_key p3)), .val (.int (own_key p4)), .val (.ref s68), .val (.ref s69), .val (.ref s70), .val (.ref o71), .val (.int (p5 &&& (3 : Int32))), .val (.int z), .val (.ref s81), .val (.int (own_key z)), .val .null, .unset] [(.int (own_key p3)), (.int (own_key z))])
              by_cases hc87 : (own_key z) = (own_key p3)
              · refine Go.st (fun _ h => XS.icmpNo X82.here hx rfl (hb hby at_283) rfl ((teq hc87).2) h) ?_
                show Go p e below _ T82 (mkF m 286 #[.val (.int p1), .val (.int p2), .val (.int p3), .val (.int p4), .val (.int p5), .val (.int (3 : Int32)), .val (.int (own_key p2)), .val (.int (own_key p3)), .val (.int (own_key p4)), .val (.ref s68), .val (.ref s69), .val (.ref s70), .val (.ref o71), .val (.int (p5 &&& (3 : Int32))), .val (.int z), .val (.ref s81), .val (.int (own_key z)), .val .null, .unset] [])
                obtain ⟨c88, T88, h88, k88, t88, q88, X88, e88, E88, hS, hkS88, hZ, hown, A88, C88, V88, B88, lt88, lu88, CC88, -, nc88, st88⟩ := ldcCH (s := s) X82 hx hZ hown (hw _ (List.mem_of_getElem? (i := 49) rfl)) wS e82 hS (Nat.le_refl _) hEL (List.mem_of_getElem? (i := 1) rfl) RR81.1 (vs := [(.int (117 : Int32)), (.int (49 : Int32))]) (z := (2 : Int32)) ⟨by decide, by decide⟩ (by decide) (by decide) (g := (mkF m 286 #[.val (.int p1), .val (.int p2), .val (.int p3), .val (.int p4), .val (.int p5), .val (.int (3 : Int32)), .val (.int (own_key p2)), .val (.int (own_key p3)), .val (.int (own_key p4)), .val (.ref s68), .val (.ref s69), .val (.ref s70), .val (.ref o71), .val (.int (p5 &&& (3 : Int32))), .val (.int z), .val (.ref s81), .val (.int (own_key z)), .val .null, .unset] [])) rfl (hb hby at_286) (n := 8) (by decide) (by decide) (by decide) (by decide)
                have E88_0 := E81_0.ext E88
                have E88_1 := E81_1.ext E88
                have E88_2 := E81_2.ext E88
                have E88_3 := E81_3.ext E88
                have E88_4 := E81_4.ext E88
                have E88_5 := E81_5.ext E88
                have E88_6 := Ec81.ext E88
                have F88_7 := F81_6.ext E88
                have F88_8 := F81_7.ext E88
                have F88_9 := F81_8.ext E88
                have F88_10 := F81_9.ext E88
                have F88_11 := F81_10.ext E88
                have F88_12 := F81_11.ext E88
                have F88_13 := F81_12.ext E88
                have F88_14 := F81_13.ext E88
                have F88_15 := F81_14.ext E88
                have F88_16 := F81_15.ext E88
                have F88_17 := F81_16.ext E88
                have F88_18 := F81_17.ext E88
                have F88_19 := Cc81.ext E88
                have F88_20 := Vc81.ext E88
                have V88_21 := V81_19.ext E88
                have V88_22 := V81_20.ext E88
                have V88_23 := V81_21.ext E88
                have V88_24 := V81_22.ext E88
                have V88_25 := V81_23.ext E88
                have V88_26 := V81_24.ext E88
                have V88_27 := V81_25.ext E88
                have V88_28 := Bc81.ext E88
                have K88 := K81.ext E88
                have RR88 := RR81.trans CC88
                refine Go.st st88 ?_
                show Go p e below _ T88 (mkF m 288 #[.val (.int p1), .val (.int p2), .val (.int p3), .val (.int p4), .val (.int p5), .val (.int (3 : Int32)), .val (.int (own_key p2)), .val (.int (own_key p3)), .val (.int (own_key p4)), .val (.ref s68), .val (.ref s69), .val (.ref s70), .val (.ref o71), .val (.int (p5 &&& (3 : Int32))), .val (.int z), .val (.ref s81), .val (.int (own_key z)), .val .null, .unset] [(.ref c88)])
                refine Go.st (fun _ h => XS.astore X88.here hx rfl (hb hby at_288) rfl rfl (l' := #[.val (.int p1), .val (.int p2), .val (.int p3), .val (.int p4), .val (.int p5), .val (.int (3 : Int32)), .val (.int (own_key p2)), .val (.int (own_key p3)), .val (.int (own_key p4)), .val (.ref s68), .val (.ref s69), .val (.ref s70), .val (.ref o71), .val (.int (p5 &&& (3 : Int32))), .val (.int z), .val (.ref s81), .val (.int (own_key z)), .val (.ref c88), .unset]) rfl h) ?_
                show Go p e below _ T88 (mkF m 290 #[.val (.int p1), .val (.int p2), .val (.int p3), .val (.int p4), .val (.int p5), .val (.int (3 : Int32)), .val (.int (own_key p2)), .val (.int (own_key p3)), .val (.int (own_key p4)), .val (.ref s68), .val (.ref s69), .val (.ref s70), .val (.ref o71), .val (.int (p5 &&& (3 : Int32))), .val (.int z), .val (.ref s81), .val (.int (own_key z)), .val (.ref c88), .unset] [])
                refine Go.st (fun _ h => XS.goto X88.here hx rfl (pc0 := 290) (pc' := 310) rfl (hb hby at_290) (by decide) (by decide) h) ?_
                show Go p e below _ T88 (mkF m 310 #[.val (.int p1), .val (.int p2), .val (.int p3), .val (.int p4), .val (.int p5), .val (.int (3 : Int32)), .val (.int (own_key p2)), .val (.int (own_key p3)), .val (.int (own_key p4)), .val (.ref s68), .val (.ref s69), .val (.ref s70), .val (.ref o71), .val (.int (p5 &&& (3 : Int32))), .val (.int z), .val (.ref s81), .val (.int (own_key z)), .val (.ref c88), .unset] [])
                refine Go.st (fun _ h => XS.aload X88.here hx rfl (hb hby at_310) rfl rfl h) ?_
                show Go p e below _ T88 (mkF m 312 #[.val (.int p1), .val (.int p2), .val (.int p3), .val (.int p4), .val (.int p5), .val (.int (3 : Int32)), .val (.int (own_key p2)), .val (.int (own_key p3)), .val (.int (own_key p4)), .val (.ref s68), .val (.ref s69), .val (.ref s70), .val (.ref o71), .val (.int (p5 &&& (3 : Int32))), .val (.int z), .val (.ref s81), .val (.int (own_key z)), .val (.ref c88), .unset] [(.ref o71)])
                refine Go.st (fun _ h => XS.aload X88.here hx rfl (hb hby at_312) rfl rfl h) ?_
                show Go p e below _ T88 (mkF m 314 #[.val (.int p1), .val (.int p2), .val (.int p3), .val (.int p4), .val (.int p5), .val (.int (3 : Int32)), .val (.int (own_key p2)), .val (.int (own_key p3)), .val (.int (own_key p4)), .val (.ref s68), .val (.ref s69), .val (.ref s70), .val (.ref o71), .val (.int (p5 &&& (3 : Int32))), .val (.int z), .val (.ref s81), .val (.int (own_key z)), .val (.ref c88), .unset] [(.ref s81), (.ref o71)])
                obtain ⟨T89, X89, e89, st89⟩ := own_still rfl rfl (Does.static (y := (⟨"com/example/tenon/tenon/core/XmlElement", "declared", "([Ljava/lang/String;Ljava/lang/String;)Ljava/lang/String;"⟩ : MethodName)) (g := (mkF m 314 #[.val (.int p1), .val (.int p2), .val (.int p3), .val (.int p4), .val (.int p5), .val (.int (3 : Int32)), .val (.int (own_key p2)), .val (.int (own_key p3)), .val (.int (own_key p4)), .val (.ref s68), .val (.ref s69), .val (.ref s70), .val (.ref o71), .val (.int (p5 &&& (3 : Int32))), .val (.int z), .val (.ref s81), .val (.int (own_key z)), .val (.ref c88), .unset] [(.ref s81), (.ref o71)])) (rmDecl3_1 l Z a0 hw o71 s81 tv81 k71 kv81 (own_str z) (own_str2 _) s68 c73 tv68 kv68 (own_str p2) (own_str2 _) ne_s68_s81 s69 c76 tv69 kv69 (own_str p3) (own_str2 _) ne_s69_s81 s70 c79 tv70 kv70 (own_str p4) (own_str2 _) ne_s70_s81 h88 E88_6 F88_19 F88_20 V88_28 E88_3 F88_13 F88_14 V88_25 E88_4 F88_15 F88_16 V88_26 E88_5 F88_17 F88_18 V88_27 V88_21 zc (S_CS.ext (own_ext K88)) hzc (fun q => hc83 (own_inj.mpr q.symm)) (own_inj.mp hc87).symm) X88 hx hZ hown e88 (hw _ (List.mem_of_getElem? (i := 41) rfl)) (hw _ (List.mem_of_getElem? (i := 42) rfl)) (hw _ (List.mem_of_getElem? (i := 43) rfl)) (hw _ (List.mem_of_getElem? (i := 44) rfl)) (by decide) rfl (by rw [hml]; rfl) (argsL := [(.ref o71), (.ref s81)]) (rest := []) (lenOf pd_285bLjava2flang2fString3bLjava2flang2fString3b29Ljava2flang2fString3b rfl) rfl (hb hby at_314) (W := 0) (by show 2 * 0 + _ ≤ _; exact Nat.le_of_eq rfl) (by decide) (by decide) (by decide) (by decide))
                refine Go.st st89 ?_
                show Go p e below _ T89 (mkF m 317 #[.val (.int p1), .val (.int p2), .val (.int p3), .val (.int p4), .val (.int p5), .val (.int (3 : Int32)), .val (.int (own_key p2)), .val (.int (own_key p3)), .val (.int (own_key p4)), .val (.ref s68), .val (.ref s69), .val (.ref s70), .val (.ref o71), .val (.int (p5 &&& (3 : Int32))), .val (.int z), .val (.ref s81), .val (.int (own_key z)), .val (.ref c88), .unset] [(.ref c76)])
                refine Go.st (fun _ h => XS.astore X89.here hx rfl (hb hby at_317) rfl rfl (l' := #[.val (.int p1), .val (.int p2), .val (.int p3), .val (.int p4), .val (.int p5), .val (.int (3 : Int32)), .val (.int (own_key p2)), .val (.int (own_key p3)), .val (.int (own_key p4)), .val (.ref s68), .val (.ref s69), .val (.ref s70), .val (.ref o71), .val (.int (p5 &&& (3 : Int32))), .val (.int z), .val (.ref s81), .val (.int (own_key z)), .val (.ref c88), .val (.ref c76)]) rfl h) ?_
                show Go p e below _ T89 (mkF m 319 #[.val (.int p1), .val (.int p2), .val (.int p3), .val (.int p4), .val (.int p5), .val (.int (3 : Int32)), .val (.int (own_key p2)), .val (.int (own_key p3)), .val (.int (own_key p4)), .val (.ref s68), .val (.ref s69), .val (.ref s70), .val (.ref o71), .val (.int (p5 &&& (3 : Int32))), .val (.int z), .val (.ref s81), .val (.int (own_key z)), .val (.ref c88), .val (.ref c76)] [])
                refine Go.st (fun _ h => XS.aload X89.here hx rfl (hb hby at_319) rfl rfl h) ?_
                show Go p e below _ T89 (mkF m 321 #[.val (.int p1), .val (.int p2), .val (.int p3), .val (.int p4), .val (.int p5), .val (.int (3 : Int32)), .val (.int (own_key p2)), .val (.int (own_key p3)), .val (.int (own_key p4)), .val (.ref s68), .val (.ref s69), .val (.ref s70), .val (.ref o71), .val (.int (p5 &&& (3 : Int32))), .val (.int z), .val (.ref s81), .val (.int (own_key z)), .val (.ref c88), .val (.ref c76)] [(.ref c88)])
                refine Go.st (fun _ h => XT.ifnonnullYes X89.here hx rfl (pc0 := 321) (pc' := 335) rfl (hb hby at_321) rfl (by decide) (by decide) h) ?_
                show Go p e below _ T89 (mkF m 335 #[.val (.int p1), .val (.int p2), .val (.int p3), .val (.int p4), .val (.int p5), .val (.int (3 : Int32)), .val (.int (own_key p2)), .val (.int (own_key p3)), .val (.int (own_key p4)), .val (.ref s68), .val (.ref s69), .val (.ref s70), .val (.ref o71), .val (.int (p5 &&& (3 : Int32))), .val (.int z), .val (.ref s81), .val (.int (own_key z)), .val (.ref c88), .val (.ref c76)] [])
                refine Go.st (fun _ h => XS.aload X89.here hx rfl (hb hby at_335) rfl rfl h) ?_
                show Go p e below _ T89 (mkF m 337 #[.val (.int p1), .val (.int p2), .val (.int p3), .val (.int p4), .val (.int p5), .val (.int (3 : Int32)), .val (.int (own_key p2)), .val (.int (own_key p3)), .val (.int (own_key p4)), .val (.ref s68), .val (.ref s69), .val (.ref s70), .val (.ref o71), .val (.int (p5 &&& (3 : Int32))), .val (.int z), .val (.ref s81), .val (.int (own_key z)), .val (.ref c88), .val (.ref c76)] [(.ref c88)])
                refine Go.st (fun _ h => XS.aload X89.here hx rfl (hb hby at_337) rfl rfl h) ?_
                show Go p e below _ T89 (mkF m 339 #[.val (.int p1), .val (.int p2), .val (.int p3), .val (.int p4), .val (.int p5), .val (.int (3 : Int32)), .val (.int (own_key p2)), .val (.int (own_key p3)), .val (.int (own_key p4)), .val (.ref s68), .val (.ref s69), .val (.ref s70), .val (.ref o71), .val (.int (p5 &&& (3 : Int32))), .val (.int z), .val (.ref s81), .val (.int (own_key z)), .val (.ref c88), .val (.ref c76)] [(.ref c76), (.ref c88)])
                obtain ⟨T90, X90, e90, st90⟩ := own_still rfl rfl (Does.virtual (y := (⟨"java/lang/String", "equals", "(Ljava/lang/Object;)Z"⟩ : MethodName)) (g := (mkF m 339 #[.val (.int p1), .val (.int p2), .val (.int p3), .val (.int p4), .val (.int p5), .val (.int (3 : Int32)), .val (.int (own_key p2)), .val (.int (own_key p3)), .val (.int (own_key p4)), .val (.ref s68), .val (.ref s69), .val (.ref s70), .val (.ref o71), .val (.int (p5 &&& (3 : Int32))), .val (.int z), .val (.ref s81), .val (.int (own_key z)), .val (.ref c88), .val (.ref c76)] [(.ref c76), (.ref c88)])) (a := c88) (rmEq_u1 l Z a0 hw c88 c76 t88 t76 q88 q76 h88 A88 C88 V88 E88_1 F88_9 F88_10 B88 V88_23 zc (S_CS.ext (own_ext K88)) hzc) X89 hx hZ hown e89 A88 (hw _ (List.mem_of_getElem? (i := 61) rfl)) (hw _ (List.mem_of_getElem? (i := 52) rfl)) (hw _ (List.mem_of_getElem? (i := 54) rfl)) (hw _ (List.mem_of_getElem? (i := 53) rfl)) (hw _ (List.mem_of_getElem? (i := 12) rfl)) (hw _ (List.mem_of_getElem? (i := 55) rfl)) (by decide) rfl (by rw [hml]; rfl) (argsL := [(.ref c76)]) (rest := []) (lenOf pd_28Ljava2flang2fObject3b29Z rfl) rfl (hb hby at_339) (W := 0) (by show 2 * 0 + _ ≤ _; exact Nat.le_of_eq rfl) (by decide) (by decide) (by decide) (by decide))
                refine Go.st st90 ?_
                show Go p e below _ T90 (mkF m 342 #[.val (.int p1), .val (.int p2), .val (.int p3), .val (.int p4), .val (.int p5), .val (.int (3 : Int32)), .val (.int (own_key p2)), .val (.int (own_key p3)), .val (.int (own_key p4)), .val (.ref s68), .val (.ref s69), .val (.ref s70), .val (.ref o71), .val (.int (p5 &&& (3 : Int32))), .val (.int z), .val (.ref s81), .val (.int (own_key z)), .val (.ref c88), .val (.ref c76)] [(.int (1 : Int32))])
                refine Go.retH X90 hx hlk hZ hEL RR88 e90 hS hkS88 hret rfl (Or.inl ⟨rfl, Or.inr (Or.inl rfl), _, rfl⟩) (hb hby at_342) (by decide) (by decide) ?_
                exact ⟨rfl, N81⟩
              · refine Go.st (fun _ h => XS.icmpYes X82.here hx rfl (pc0 := 283) (pc' := 293) rfl (hb hby at_283) rfl ((feq hc87).2) (by decide) (by decide) h) ?_
                show Go p e below _ T82 (mkF m 293 #[.val (.int p1), .val (.int p2), .val (.int p3), .val (.int p4), .val (.int p5), .val (.int (3 : Int32)), .val (.int (own_key p2)), .val (.int (own_key p3)), .val (.int (own_key p4)), .val (.ref s68), .val (.ref s69), .val (.ref s70), .val (.ref o71), .val (.int (p5 &&& (3 : Int32))), .val (.int z), .val (.ref s81), .val (.int (own_key z)), .val .null, .unset] [])
                refine Go.st (fun _ h => XS.iload X82.here hx rfl (hb hby at_293) rfl h) ?_
                show Go p e below _ T82 (mkF m 295 #[.val (.int p1), .val (.int p2), .val (.int p3), .val (.int p4), .val (.int p5), .val (.int (3 : Int32)), .val (.int (own_key p2)), .val (.int (own_key p3)), .val (.int (own_key p4)), .val (.ref s68), .val (.ref s69), .val (.ref s70), .val (.ref o71), .val (.int (p5 &&& (3 : Int32))), .val (.int z), .val (.ref s81), .val (.int (own_key z)), .val .null, .unset] [(.int (3 : Int32))])
                refine Go.st (fun _ h => XT.iconstV X82.here hx rfl (3 : Int32) (hb hby at_295) (by decide) h) ?_
                show Go p e below _ T82 (mkF m 296 #[.val (.int p1), .val (.int p2), .val (.int p3), .val (.int p4), .val (.int p5), .val (.int (3 : Int32)), .val (.int (own_key p2)), .val (.int (own_key p3)), .val (.int (own_key p4)), .val (.ref s68), .val (.ref s69), .val (.ref s70), .val (.ref o71), .val (.int (p5 &&& (3 : Int32))), .val (.int z), .val (.ref s81), .val (.int (own_key z)), .val .null, .unset] [(.int (3 : Int32)), (.int (3 : Int32))])
                refine Go.st (fun _ h => XS.icmpNo X82.here hx rfl (hb hby at_296) rfl (by decide) h) ?_
                show Go p e below _ T82 (mkF m 299 #[.val (.int p1), .val (.int p2), .val (.int p3), .val (.int p4), .val (.int p5), .val (.int (3 : Int32)), .val (.int (own_key p2)), .val (.int (own_key p3)), .val (.int (own_key p4)), .val (.ref s68), .val (.ref s69), .val (.ref s70), .val (.ref o71), .val (.int (p5 &&& (3 : Int32))), .val (.int z), .val (.ref s81), .val (.int (own_key z)), .val .null, .unset] [])
                refine Go.st (fun _ h => XS.iload X82.here hx rfl (hb hby at_299) rfl h) ?_
                show Go p e below _ T82 (mkF m 301 #[.val (.int p1), .val (.int p2), .val (.int p3), .val (.int p4), .val (.int p5), .val (.int (3 : Int32)), .val (.int (own_key p2)), .val (.int (own_key p3)), .val (.int (own_key p4)), .val (.ref s68), .val (.ref s69), .val (.ref s70), .val (.ref o71), .val (.int (p5 &&& (3 : Int32))), .val (.int z), .val (.ref s81), .val (.int (own_key z)), .val .null, .unset] [(.int (own_key z))])
                refine Go.st (fun _ h => XS.iload X82.here hx rfl (hb hby at_301) rfl h) ?_
                show Go p e below _ T82 (mkF m 303 #[.val (.int p1), .val (.int p2), .val (.int p3), .val (.int p4), .val (.int p5), .val (.int (3 : Int32)), .val (.int (own_key p2)), .val (.int (own_key p3)), .val (.int (own_key p4)), .val (.ref s68), .val (.ref s69), .val (.ref s70), .val (.ref o71), .val (.int (p5 &&& (3 : Int32))), .val (.int z), .val (.ref s81), .val (.int (own_key z)), .val .null, .unset] [(.int (own_key p4)), (.int (own_key z))])
                by_cases hc91 : (own_key z) = (own_key p4)
                · refine Go.st (fun _ h => XS.icmpNo X82.here hx rfl (hb hby at_303) rfl ((teq hc91).2) h) ?_
                  show Go p e below _ T82 (mkF m 306 #[.val (.int p1), .val (.int p2), .val (.int p3), .val (.int p4), .val (.int p5), .val (.int (3 : Int32)), .val (.int (own_key p2)), .val (.int (own_key p3)), .val (.int (own_key p4)), .val (.ref s68), .val (.ref s69), .val (.ref s70), .val (.ref o71), .val (.int (p5 &&& (3 : Int32))), .val (.int z), .val (.ref s81), .val (.int (own_key z)), .val .null, .unset] [])
                  obtain ⟨c92, T92, h92, k92, t92, q92, X92, e92, E92, hS, hkS92, hZ, hown, A92, C92, V92, B92, lt92, lu92, CC92, -, nc92, st92⟩ := ldcCH (s := s) X82 hx hZ hown (hw _ (List.mem_of_getElem? (i := 50) rfl)) wS e82 hS (Nat.le_refl _) hEL (List.mem_of_getElem? (i := 2) rfl) RR81.1 (vs := [(.int (117 : Int32)), (.int (50 : Int32))]) (z := (2 : Int32)) ⟨by decide, by decide⟩ (by decide) (by decide) (g := (mkF m 306 #[.val (.int p1), .val (.int p2), .val (.int p3), .val (.int p4), .val (.int p5), .val (.int (3 : Int32)), .val (.int (own_key p2)), .val (.int (own_key p3)), .val (.int (own_key p4)), .val (.ref s68), .val (.ref s69), .val (.ref s70), .val (.ref o71), .val (.int (p5 &&& (3 : Int32))), .val (.int z), .val (.ref s81), .val (.int (own_key z)), .val .null, .unset] [])) rfl (hb hby at_306) (n := 8) (by decide) (by decide) (by decide) (by decide)
                  have E92_0 := E81_0.ext E92
                  have E92_1 := E81_1.ext E92
                  have E92_2 := E81_2.ext E92
                  have E92_3 := E81_3.ext E92
                  have E92_4 := E81_4.ext E92
                  have E92_5 := E81_5.ext E92
                  have E92_6 := Ec81.ext E92
                  have F92_7 := F81_6.ext E92
                  have F92_8 := F81_7.ext E92
                  have F92_9 := F81_8.ext E92
                  have F92_10 := F81_9.ext E92
                  have F92_11 := F81_10.ext E92
                  have F92_12 := F81_11.ext E92
                  have F92_13 := F81_12.ext E92
                  have F92_14 := F81_13.ext E92
                  have F92_15 := F81_14.ext E92
                  have F92_16 := F81_15.ext E92
                  have F92_17 := F81_16.ext E92
                  have F92_18 := F81_17.ext E92
                  have F92_19 := Cc81.ext E92
                  have F92_20 := Vc81.ext E92
                  have V92_21 := V81_19.ext E92
                  have V92_22 := V81_20.ext E92
                  have V92_23 := V81_21.ext E92
                  have V92_24 := V81_22.ext E92
                  have V92_25 := V81_23.ext E92
                  have V92_26 := V81_24.ext E92
                  have V92_27 := V81_25.ext E92
                  have V92_28 := Bc81.ext E92
                  have K92 := K81.ext E92
                  have RR92 := RR81.trans CC92
                  refine Go.st st92 ?_
                  show Go p e below _ T92 (mkF m 308 #[.val (.int p1), .val (.int p2), .val (.int p3), .val (.int p4), .val (.int p5), .val (.int (3 : Int32)), .val (.int (own_key p2)), .val (.int (own_key p3)), .val (.int (own_key p4)), .val (.ref s68), .val (.ref s69), .val (.ref s70), .val (.ref o71), .val (.int (p5 &&& (3 : Int32))), .val (.int z), .val (.ref s81), .val (.int (own_key z)), .val .null, .unset] [(.ref c92)])
                  refine Go.st (fun _ h => XS.astore X92.here hx rfl (hb hby at_308) rfl rfl (l' := #[.val (.int p1), .val (.int p2), .val (.int p3), .val (.int p4), .val (.int p5), .val (.int (3 : Int32)), .val (.int (own_key p2)), .val (.int (own_key p3)), .val (.int (own_key p4)), .val (.ref s68), .val (.ref s69), .val (.ref s70), .val (.ref o71), .val (.int (p5 &&& (3 : Int32))), .val (.int z), .val (.ref s81), .val (.int (own_key z)), .val (.ref c92), .unset]) rfl h) ?_
                  show Go p e below _ T92 (mkF m 310 #[.val (.int p1), .val (.int p2), .val (.int p3), .val (.int p4), .val (.int p5), .val (.int (3 : Int32)), .val (.int (own_key p2)), .val (.int (own_key p3)), .val (.int (own_key p4)), .val (.ref s68), .val (.ref s69), .val (.ref s70), .val (.ref o71), .val (.int (p5 &&& (3 : Int32))), .val (.int z), .val (.ref s81), .val (.int (own_key z)), .val (.ref c92), .unset] [])
                  refine Go.st (fun _ h => XS.aload X92.here hx rfl (hb hby at_310) rfl rfl h) ?_
                  show Go p e below _ T92 (mkF m 312 #[.val (.int p1), .val (.int p2), .val (.int p3), .val (.int p4), .val (.int p5), .val (.int (3 : Int32)), .val (.int (own_key p2)), .val (.int (own_key p3)), .val (.int (own_key p4)), .val (.ref s68), .val (.ref s69), .val (.ref s70), .val (.ref o71), .val (.int (p5 &&& (3 : Int32))), .val (.int z), .val (.ref s81), .val (.int (own_key z)), .val (.ref c92), .unset] [(.ref o71)])
                  refine Go.st (fun _ h => XS.aload X92.here hx rfl (hb hby at_312) rfl rfl h) ?_
                  show Go p e below _ T92 (mkF m 314 #[.val (.int p1), .val (.int p2), .val (.int p3), .val (.int p4), .val (.int p5), .val (.int (3 : Int32)), .val (.int (own_key p2)), .val (.int (own_key p3)), .val (.int (own_key p4)), .val (.ref s68), .val (.ref s69), .val (.ref s70), .val (.ref o71), .val (.int (p5 &&& (3 : Int32))), .val (.int z), .val (.ref s81), .val (.int (own_key z)), .val (.ref c92), .unset] [(.ref s81), (.ref o71)])
                  obtain ⟨T93, X93, e93, st93⟩ := own_still rfl rfl (Does.static (y := (⟨"com/example/tenon/tenon/core/XmlElement", "declared", "([Ljava/lang/String;Ljava/lang/String;)Ljava/lang/String;"⟩ : MethodName)) (g := (mkF m 314 #[.val (.int p1), .val (.int p2), .val (.int p3), .val (.int p4), .val (.int p5), .val (.int (3 : Int32)), .val (.int (own_key p2)), .val (.int (own_key p3)), .val (.int (own_key p4)), .val (.ref s68), .val (.ref s69), .val (.ref s70), .val (.ref o71), .val (.int (p5 &&& (3 : Int32))), .val (.int z), .val (.ref s81), .val (.int (own_key z)), .val (.ref c92), .unset] [(.ref s81), (.ref o71)])) (rmDecl3_2 l Z a0 hw o71 s81 tv81 k71 kv81 (own_str z) (own_str2 _) s68 c73 tv68 kv68 (own_str p2) (own_str2 _) ne_s68_s81 s69 c76 tv69 kv69 (own_str p3) (own_str2 _) ne_s69_s81 s70 c79 tv70 kv70 (own_str p4) (own_str2 _) ne_s70_s81 h92 E92_6 F92_19 F92_20 V92_28 E92_3 F92_13 F92_14 V92_25 E92_4 F92_15 F92_16 V92_26 E92_5 F92_17 F92_18 V92_27 V92_21 zc (S_CS.ext (own_ext K92)) hzc (fun q => hc83 (own_inj.mpr q.symm)) (fun q => hc87 (own_inj.mpr q.symm)) (own_inj.mp hc91).symm) X92 hx hZ hown e92 (hw _ (List.mem_of_getElem? (i := 41) rfl)) (hw _ (List.mem_of_getElem? (i := 42) rfl)) (hw _ (List.mem_of_getElem? (i := 43) rfl)) (hw _ (List.mem_of_getElem? (i := 44) rfl)) (by decide) rfl (by rw [hml]; rfl) (argsL := [(.ref o71), (.ref s81)]) (rest := []) (lenOf pd_285bLjava2flang2fString3bLjava2flang2fString3b29Ljava2flang2fString3b rfl) rfl (hb hby at_314) (W := 0) (by show 2 * 0 + _ ≤ _; exact Nat.le_of_eq rfl) (by decide) (by decide) (by decide) (by decide))
                  refine Go.st st93 ?_
                  show Go p e below _ T93 (mkF m 317 #[.val (.int p1), .val (.int p2), .val (.int p3), .val (.int p4), .val (.int p5), .val (.int (3 : Int32)), .val (.int (own_key p2)), .val (.int (own_key p3)), .val (.int (own_key p4)), .val (.ref s68), .val (.ref s69), .val (.ref s70), .val (.ref o71), .val (.int (p5 &&& (3 : Int32))), .val (.int z), .val (.ref s81), .val (.int (own_key z)), .val (.ref c92), .unset] [(.ref c79)])
                  refine Go.st (fun _ h => XS.astore X93.here hx rfl (hb hby at_317) rfl rfl (l' := #[.val (.int p1), .val (.int p2), .val (.int p3), .val (.int p4), .val (.int p5), .val (.int (3 : Int32)), .val (.int (own_key p2)), .val (.int (own_key p3)), .val (.int (own_key p4)), .val (.ref s68), .val (.ref s69), .val (.ref s70), .val (.ref o71), .val (.int (p5 &&& (3 : Int32))), .val (.int z), .val (.ref s81), .val (.int (own_key z)), .val (.ref c92), .val (.ref c79)]) rfl h) ?_
                  show Go p e below _ T93 (mkF m 319 #[.val (.int p1), .val (.int p2), .val (.int p3), .val (.int p4), .val (.int p5), .val (.int (3 : Int32)), .val (.int (own_key p2)), .val (.int (own_key p3)), .val (.int (own_key p4)), .val (.ref s68), .val (.ref s69), .val (.ref s70), .val (.ref o71), .val (.int (p5 &&& (3 : Int32))), .val (.int z), .val (.ref s81), .val (.int (own_key z)), .val (.ref c92), .val (.ref c79)] [])
                  refine Go.st (fun _ h => XS.aload X93.here hx rfl (hb hby at_319) rfl rfl h) ?_
                  show Go p e below _ T93 (mkF m 321 #[.val (.int p1), .val (.int p2), .val (.int p3), .val (.int p4), .val (.int p5), .val (.int (3 : Int32)), .val (.int (own_key p2)), .val (.int (own_key p3)), .val (.int (own_key p4)), .val (.ref s68), .val (.ref s69), .val (.ref s70), .val (.ref o71), .val (.int (p5 &&& (3 : Int32))), .val (.int z), .val (.ref s81), .val (.int (own_key z)), .val (.ref c92), .val (.ref c79)] [(.ref c92)])
                  refine Go.st (fun _ h => XT.ifnonnullYes X93.here hx rfl (pc0 := 321) (pc' := 335) rfl (hb hby at_321) rfl (by decide) (by decide) h) ?_
                  show Go p e below _ T93 (mkF m 335 #[.val (.int p1), .val (.int p2), .val (.int p3), .val (.int p4), .val (.int p5), .val (.int (3 : Int32)), .val (.int (own_key p2)), .val (.int (own_key p3)), .val (.int (own_key p4)), .val (.ref s68), .val (.ref s69), .val (.ref s70), .val (.ref o71), .val (.int (p5 &&& (3 : Int32))), .val (.int z), .val (.ref s81), .val (.int (own_key z)), .val (.ref c92), .val (.ref c79)] [])
                  refine Go.st (fun _ h => XS.aload X93.here hx rfl (hb hby at_335) rfl rfl h) ?_
                  show Go p e below _ T93 (mkF m 337 #[.val (.int p1), .val (.int p2), .val (.int p3), .val (.int p4), .val (.int p5), .val (.int (3 : Int32)), .val (.int (own_key p2)), .val (.int (own_key p3)), .val (.int (own_key p4)), .val (.ref s68), .val (.ref s69), .val (.ref s70), .val (.ref o71), .val (.int (p5 &&& (3 : Int32))), .val (.int z), .val (.ref s81), .val (.int (own_key z)), .val (.ref c92), .val (.ref c79)] [(.ref c92)])
                  refine Go.st (fun _ h => XS.aload X93.here hx rfl (hb hby at_337) rfl rfl h) ?_
                  show Go p e below _ T93 (mkF m 339 #[.val (.int p1), .val (.int p2), .val (.int p3), .val (.int p4), .val (.int p5), .val (.int (3 : Int32)), .val (.int (own_key p2)), .val (.int (own_key p3)), .val (.int (own_key p4)), .val (.ref s68), .val (.ref s69), .val (.ref s70), .val (.ref o71), .val (.int (p5 &&& (3 : Int32))), .val (.int z), .val (.ref s81), .val (.int (own_key z)), .val (.ref c92), .val (.ref c79)] [(.ref c79), (.ref c92)])
                  obtain ⟨T94, X94, e94, st94⟩ := own_still rfl rfl (Does.virtual (y := (⟨"java/lang/String", "equals", "(Ljava/lang/Object;)Z"⟩ : MethodName)) (g := (mkF m 339 #[.val (.int p1), .val (.int p2), .val (.int p3), .val (.int p4), .val (.int p5), .val (.int (3 : Int32)), .val (.int (own_key p2)), .val (.int (own_key p3)), .val (.int (own_key p4)), .val (.ref s68), .val (.ref s69), .val (.ref s70), .val (.ref o71), .val (.int (p5 &&& (3 : Int32))), .val (.int z), .val (.ref s81), .val (.int (own_key z)), .val (.ref c92), .val (.ref c79)] [(.ref c79), (.ref c92)])) (a := c92) (rmEq_u2 l Z a0 hw c92 c79 t92 t79 q92 q79 h92 A92 C92 V92 E92_2 F92_11 F92_12 B92 V92_24 zc (S_CS.ext (own_ext K92)) hzc) X93 hx hZ hown e93 A92 (hw _ (List.mem_of_getElem? (i := 61) rfl)) (hw _ (List.mem_of_getElem? (i := 52) rfl)) (hw _ (List.mem_of_getElem? (i := 54) rfl)) (hw _ (List.mem_of_getElem? (i := 53) rfl)) (hw _ (List.mem_of_getElem? (i := 12) rfl)) (hw _ (List.mem_of_getElem? (i := 55) rfl)) (by decide) rfl (by rw [hml]; rfl) (argsL := [(.ref c79)]) (rest := []) (lenOf pd_28Ljava2flang2fObject3b29Z rfl) rfl (hb hby at_339) (W := 0) (by show 2 * 0 + _ ≤ _; exact Nat.le_of_eq rfl) (by decide) (by decide) (by decide) (by decide))
                  refine Go.st st94 ?_
                  show Go p e below _ T94 (mkF m 342 #[.val (.int p1), .val (.int p2), .val (.int p3), .val (.int p4), .val (.int p5), .val (.int (3 : Int32)), .val (.int (own_key p2)), .val (.int (own_key p3)), .val (.int (own_key p4)), .val (.ref s68), .val (.ref s69), .val (.ref s70), .val (.ref o71), .val (.int (p5 &&& (3 : Int32))), .val (.int z), .val (.ref s81), .val (.int (own_key z)), .val (.ref c92), .val (.ref c79)] [(.int (1 : Int32))])
                  refine Go.retH X94 hx hlk hZ hEL RR92 e94 hS hkS92 hret rfl (Or.inl ⟨rfl, Or.inr (Or.inl rfl), _, rfl⟩) (hb hby at_342) (by decide) (by decide) ?_
                  exact ⟨rfl, N81⟩
                · refine Go.st (fun _ h => XS.icmpYes X82.here hx rfl (pc0 := 303) (pc' := 310) rfl (hb hby at_303) rfl ((feq hc91).2) (by decide) (by decide) h) ?_
                  show Go p e below _ T82 (mkF m 310 #[.val (.int p1), .val (.int p2), .val (.int p3), .val (.int p4), .val (.int p5), .val (.int (3 : Int32)), .val (.int (own_key p2)), .val (.int (own_key p3)), .val (.int (own_key p4)), .val (.ref s68), .val (.ref s69), .val (.ref s70), .val (.ref o71), .val (.int (p5 &&& (3 : Int32))), .val (.int z), .val (.ref s81), .val (.int (own_key z)), .val .null, .unset] [])
                  refine Go.st (fun _ h => XS.aload X82.here hx rfl (hb hby at_310) rfl rfl h) ?_
                  show Go p e below _ T82 (mkF m 312 #[.val (.int p1), .val (.int p2), .val (.int p3), .val (.int p4), .val (.int p5), .val (.int (3 : Int32)), .val (.int (own_key p2)), .val (.int (own_key p3)), .val (.int (own_key p4)), .val (.ref s68), .val (.ref s69), .val (.ref s70), .val (.ref o71), .val (.int (p5 &&& (3 : Int32))), .val (.int z), .val (.ref s81), .val (.int (own_key z)), .val .null, .unset] [(.ref o71)])
                  refine Go.st (fun _ h => XS.aload X82.here hx rfl (hb hby at_312) rfl rfl h) ?_
                  show Go p e below _ T82 (mkF m 314 #[.val (.int p1), .val (.int p2), .val (.int p3), .val (.int p4), .val (.int p5), .val (.int (3 : Int32)), .val (.int (own_key p2)), .val (.int (own_key p3)), .val (.int (own_key p4)), .val (.ref s68), .val (.ref s69), .val (.ref s70), .val (.ref o71), .val (.int (p5 &&& (3 : Int32))), .val (.int z), .val (.ref s81), .val (.int (own_key z)), .val .null, .unset] [(.ref s81), (.ref o71)])
                  obtain ⟨T95, X95, e95, st95⟩ := own_still rfl rfl (Does.static (y := (⟨"com/example/tenon/tenon/core/XmlElement", "declared", "([Ljava/lang/String;Ljava/lang/String;)Ljava/lang/String;"⟩ : MethodName)) (g := (mkF m 314 #[.val (.int p1), .val (.int p2), .val (.int p3), .val (.int p4), .val (.int p5), .val (.int (3 : Int32)), .val (.int (own_key p2)), .val (.int (own_key p3)), .val (.int (own_key p4)), .val (.ref s68), .val (.ref s69), .val (.ref s70), .val (.ref o71), .val (.int (p5 &&& (3 : Int32))), .val (.int z), .val (.ref s81), .val (.int (own_key z)), .val .null, .unset] [(.ref s81), (.ref o71)])) (rmDecl3_n l Z a0 hw o71 s81 tv81 k71 kv81 (own_str z) (own_str2 _) s68 c73 tv68 kv68 (own_str p2) (own_str2 _) ne_s68_s81 s69 c76 tv69 kv69 (own_str p3) (own_str2 _) ne_s69_s81 s70 c79 tv70 kv70 (own_str p4) (own_str2 _) ne_s70_s81 T81.heap Ec81 Cc81 Vc81 Bc81 E81_3 F81_12 F81_13 V81_23 E81_4 F81_14 F81_15 V81_24 E81_5 F81_16 F81_17 V81_25 V81_19 zc (S_CS.ext (own_ext K81)) hzc (fun q => hc83 (own_inj.mpr q.symm)) (fun q => hc87 (own_inj.mpr q.symm)) (fun q => hc91 (own_inj.mpr q.symm))) X82 hx hZ hown e82 (hw _ (List.mem_of_getElem? (i := 41) rfl)) (hw _ (List.mem_of_getElem? (i := 42) rfl)) (hw _ (List.mem_of_getElem? (i := 43) rfl)) (hw _ (List.mem_of_getElem? (i := 44) rfl)) (by decide) rfl (by rw [hml]; rfl) (argsL := [(.ref o71), (.ref s81)]) (rest := []) (lenOf pd_285bLjava2flang2fString3bLjava2flang2fString3b29Ljava2flang2fString3b rfl) rfl (hb hby at_314) (W := 0) (by show 2 * 0 + _ ≤ _; exact Nat.le_of_eq rfl) (by decide) (by decide) (by decide) (by decide))
                  refine Go.st st95 ?_
                  show Go p e below _ T95 (mkF m 317 #[.val (.int p1), .val (.int p2), .val (.int p3), .val (.int p4), .val (.int p5), .val (.int (3 : Int32)), .val (.int (own_key p2)), .val (.int (own_key p3)), .val (.int (own_key p4)), .val (.ref s68), .val (.ref s69), .val (.ref s70), .val (.ref o71), .val (.int (p5 &&& (3 : Int32))), .val (.int z), .val (.ref s81), .val (.int (own_key z)), .val .null, .unset] [.null])
                  refine Go.st (fun _ h => XS.astore X95.here hx rfl (hb hby at_317) rfl rfl (l' := #[.val (.int p1), .val (.int p2), .val (.int p3), .val (.int p4), .val (.int p5), .val (.int (3 : Int32)), .val (.int (own_key p2)), .val (.int (own_key p3)), .val (.int (own_key p4)), .val (.ref s68), .val (.ref s69), .val (.ref s70), .val (.ref o71), .val (.int (p5 &&& (3 : Int32))), .val (.int z), .val (.ref s81), .val (.int (own_key z)), .val .null, .val .null]) rfl h) ?_
                  show Go p e below _ T95 (mkF m 319 #[.val (.int p1), .val (.int p2), .val (.int p3), .val (.int p4), .val (.int p5), .val (.int (3 : Int32)), .val (.int (own_key p2)), .val (.int (own_key p3)), .val (.int (own_key p4)), .val (.ref s68), .val (.ref s69), .val (.ref s70), .val (.ref o71), .val (.int (p5 &&& (3 : Int32))), .val (.int z), .val (.ref s81), .val (.int (own_key z)), .val .null, .val .null] [])
                  refine Go.st (fun _ h => XS.aload X95.here hx rfl (hb hby at_319) rfl rfl h) ?_
                  show Go p e below _ T95 (mkF m 321 #[.val (.int p1), .val (.int p2), .val (.int p3), .val (.int p4), .val (.int p5), .val (.int (3 : Int32)), .val (.int (own_key p2)), .val (.int (own_key p3)), .val (.int (own_key p4)), .val (.ref s68), .val (.ref s69), .val (.ref s70), .val (.ref o71), .val (.int (p5 &&& (3 : Int32))), .val (.int z), .val (.ref s81), .val (.int (own_key z)), .val .null, .val .null] [.null])
                  refine Go.st (fun _ h => XT.ifnonnullNo X95.here hx rfl (hb hby at_321) rfl h) ?_
                  show Go p e below _ T95 (mkF m 324 #[.val (.int p1), .val (.int p2), .val (.int p3), .val (.int p4), .val (.int p5), .val (.int (3 : Int32)), .val (.int (own_key p2)), .val (.int (own_key p3)), .val (.int (own_key p4)), .val (.ref s68), .val (.ref s69), .val (.ref s70), .val (.ref o71), .val (.int (p5 &&& (3 : Int32))), .val (.int z), .val (.ref s81), .val (.int (own_key z)), .val .null, .val .null] [])
                  refine Go.st (fun _ h => XS.aload X95.here hx rfl (hb hby at_324) rfl rfl h) ?_
                  show Go p e below _ T95 (mkF m 326 #[.val (.int p1), .val (.int p2), .val (.int p3), .val (.int p4), .val (.int p5), .val (.int (3 : Int32)), .val (.int (own_key p2)), .val (.int (own_key p3)), .val (.int (own_key p4)), .val (.ref s68), .val (.ref s69), .val (.ref s70), .val (.ref o71), .val (.int (p5 &&& (3 : Int32))), .val (.int z), .val (.ref s81), .val (.int (own_key z)), .val .null, .val .null] [.null])
                  refine Go.st (fun _ h => XT.ifnonnullNo X95.here hx rfl (hb hby at_326) rfl h) ?_
                  show Go p e below _ T95 (mkF m 329 #[.val (.int p1), .val (.int p2), .val (.int p3), .val (.int p4), .val (.int p5), .val (.int (3 : Int32)), .val (.int (own_key p2)), .val (.int (own_key p3)), .val (.int (own_key p4)), .val (.ref s68), .val (.ref s69), .val (.ref s70), .val (.ref o71), .val (.int (p5 &&& (3 : Int32))), .val (.int z), .val (.ref s81), .val (.int (own_key z)), .val .null, .val .null] [])
                  refine Go.st (fun _ h => XT.iconstV X95.here hx rfl (1 : Int32) (hb hby at_329) (by decide) h) ?_
                  show Go p e below _ T95 (mkF m 330 #[.val (.int p1), .val (.int p2), .val (.int p3), .val (.int p4), .val (.int p5), .val (.int (3 : Int32)), .val (.int (own_key p2)), .val (.int (own_key p3)), .val (.int (own_key p4)), .val (.ref s68), .val (.ref s69), .val (.ref s70), .val (.ref o71), .val (.int (p5 &&& (3 : Int32))), .val (.int z), .val (.ref s81), .val (.int (own_key z)), .val .null, .val .null] [(.int (1 : Int32))])
                  refine Go.st (fun _ h => XS.goto X95.here hx rfl (pc0 := 330) (pc' := 334) rfl (hb hby at_330) (by decide) (by decide) h) ?_
                  show Go p e below _ T95 (mkF m 334 #[.val (.int p1), .val (.int p2), .val (.int p3), .val (.int p4), .val (.int p5), .val (.int (3 : Int32)), .val (.int (own_key p2)), .val (.int (own_key p3)), .val (.int (own_key p4)), .val (.ref s68), .val (.ref s69), .val (.ref s70), .val (.ref o71), .val (.int (p5 &&& (3 : Int32))), .val (.int z), .val (.ref s81), .val (.int (own_key z)), .val .null, .val .null] [(.int (1 : Int32))])
                  refine Go.retH X95 hx hlk hZ hEL RR81 e95 hS (Nat.le_refl _) hret rfl (Or.inl ⟨rfl, Or.inr (Or.inl rfl), _, rfl⟩) (hb hby at_334) (by decide) (by decide) ?_
                  exact ⟨rfl, N81⟩
          refine Go.st (fun _ h => XS.iload X80.here hx rfl (hb hby at_195) rfl h) ?_
          show Go p e below _ T80 (mkF m 197 #[.val (.int p1), .val (.int p2), .val (.int p3), .val (.int p4), .val (.int p5), .val (.int (3 : Int32)), .val (.int (own_key p2)), .val (.int (own_key p3)), .val (.int (own_key p4)), .val (.ref s68), .val (.ref s69), .val (.ref s70), .val (.ref o71), .val (.int (p5 &&& (3 : Int32))), .unset, .unset, .unset, .unset, .unset] [(.int (p5 &&& (3 : Int32)))])
          by_cases hc96 : (p5 &&& (3 : Int32)) = (0 : Int32)
          · refine Go.st (fun _ h => XS.ifNo X80.here hx rfl (hb hby at_197) rfl ((if0 _ _).trans (teq hc96).2) h) ?_
            show Go p e below _ T80 (mkF m 200 #[.val (.int p1), .val (.int p2), .val (.int p3), .val (.int p4), .val (.int p5), .val (.int (3 : Int32)), .val (.int (own_key p2)), .val (.int (own_key p3)), .val (.int (own_key p4)), .val (.ref s68), .val (.ref s69), .val (.ref s70), .val (.ref o71), .val (.int (p5 &&& (3 : Int32))), .unset, .unset, .unset, .unset, .unset] [])
            refine Go.st (fun _ h => XS.iloadN X80.here hx rfl (hb hby at_200) rfl h) ?_
            show Go p e below _ T80 (mkF m 201 #[.val (.int p1), .val (.int p2), .val (.int p3), .val (.int p4), .val (.int p5), .val (.int (3 : Int32)), .val (.int (own_key p2)), .val (.int (own_key p3)), .val (.int (own_key p4)), .val (.ref s68), .val (.ref s69), .val (.ref s70), .val (.ref o71), .val (.int (p5 &&& (3 : Int32))), .unset, .unset, .unset, .unset, .unset] [(.int p2)])
            refine Go.st (fun _ h => XS.istore X80.here hx rfl (hb hby at_201) rfl (l' := #[.val (.int p1), .val (.int p2), .val (.int p3), .val (.int p4), .val (.int p5), .val (.int (3 : Int32)), .val (.int (own_key p2)), .val (.int (own_key p3)), .val (.int (own_key p4)), .val (.ref s68), .val (.ref s69), .val (.ref s70), .val (.ref o71), .val (.int (p5 &&& (3 : Int32))), .val (.int p2), .unset, .unset, .unset, .unset]) rfl h) ?_
            show Go p e below _ T80 (mkF m 203 #[.val (.int p1), .val (.int p2), .val (.int p3), .val (.int p4), .val (.int p5), .val (.int (3 : Int32)), .val (.int (own_key p2)), .val (.int (own_key p3)), .val (.int (own_key p4)), .val (.ref s68), .val (.ref s69), .val (.ref s70), .val (.ref o71), .val (.int (p5 &&& (3 : Int32))), .val (.int p2), .unset, .unset, .unset, .unset] [])
            refine Go.st (fun _ h => XS.goto X80.here hx rfl (pc0 := 203) (pc' := 236) rfl (hb hby at_203) (by decide) (by decide) h) ?_
            show Go p e below _ T80 (mkF m 236 #[.val (.int p1), .val (.int p2), .val (.int p3), .val (.int p4), .val (.int p5), .val (.int (3 : Int32)), .val (.int (own_key p2)), .val (.int (own_key p3)), .val (.int (own_key p4)), .val (.ref s68), .val (.ref s69), .val (.ref s70), .val (.ref o71), .val (.int (p5 &&& (3 : Int32))), .val (.int p2), .unset, .unset, .unset, .unset] [])
            exact KK _
          · refine Go.st (fun _ h => XS.ifYes X80.here hx rfl (pc0 := 197) (pc' := 206) rfl (hb hby at_197) rfl ((if0 _ _).trans (feq hc96).2) (by decide) (by decide) h) ?_
            show Go p e below _ T80 (mkF m 206 #[.val (.int p1), .val (.int p2), .val (.int p3), .val (.int p4), .val (.int p5), .val (.int (3 : Int32)), .val (.int (own_key p2)), .val (.int (own_key p3)), .val (.int (own_key p4)), .val (.ref s68), .val (.ref s69), .val (.ref s70), .val (.ref o71), .val (.int (p5 &&& (3 : Int32))), .unset, .unset, .unset, .unset, .unset] [])
            refine Go.st (fun _ h => XS.iload X80.here hx rfl (hb hby at_206) rfl h) ?_
            show Go p e below _ T80 (mkF m 208 #[.val (.int p1), .val (.int p2), .val (.int p3), .val (.int p4), .val (.int p5), .val (.int (3 : Int32)), .val (.int (own_key p2)), .val (.int (own_key p3)), .val (.int (own_key p4)), .val (.ref s68), .val (.ref s69), .val (.ref s70), .val (.ref o71), .val (.int (p5 &&& (3 : Int32))), .unset, .unset, .unset, .unset, .unset] [(.int (p5 &&& (3 : Int32)))])
            refine Go.st (fun _ h => XT.iconstV X80.here hx rfl (1 : Int32) (hb hby at_208) (by decide) h) ?_
            show Go p e below _ T80 (mkF m 209 #[.val (.int p1), .val (.int p2), .val (.int p3), .val (.int p4), .val (.int p5), .val (.int (3 : Int32)), .val (.int (own_key p2)), .val (.int (own_key p3)), .val (.int (own_key p4)), .val (.ref s68), .val (.ref s69), .val (.ref s70), .val (.ref o71), .val (.int (p5 &&& (3 : Int32))), .unset, .unset, .unset, .unset, .unset] [(.int (1 : Int32)), (.int (p5 &&& (3 : Int32)))])
            by_cases hc97 : (p5 &&& (3 : Int32)) = (1 : Int32)
            · refine Go.st (fun _ h => XS.icmpNo X80.here hx rfl (hb hby at_209) rfl ((teq hc97).2) h) ?_
              show Go p e below _ T80 (mkF m 212 #[.val (.int p1), .val (.int p2), .val (.int p3), .val (.int p4), .val (.int p5), .val (.int (3 : Int32)), .val (.int (own_key p2)), .val (.int (own_key p3)), .val (.int (own_key p4)), .val (.ref s68), .val (.ref s69), .val (.ref s70), .val (.ref o71), .val (.int (p5 &&& (3 : Int32))), .unset, .unset, .unset, .unset, .unset] [])
              refine Go.st (fun _ h => XS.iloadN X80.here hx rfl (hb hby at_212) rfl h) ?_
              show Go p e below _ T80 (mkF m 213 #[.val (.int p1), .val (.int p2), .val (.int p3), .val (.int p4), .val (.int p5), .val (.int (3 : Int32)), .val (.int (own_key p2)), .val (.int (own_key p3)), .val (.int (own_key p4)), .val (.ref s68), .val (.ref s69), .val (.ref s70), .val (.ref o71), .val (.int (p5 &&& (3 : Int32))), .unset, .unset, .unset, .unset, .unset] [(.int p3)])
              refine Go.st (fun _ h => XS.istore X80.here hx rfl (hb hby at_213) rfl (l' := #[.val (.int p1), .val (.int p2), .val (.int p3), .val (.int p4), .val (.int p5), .val (.int (3 : Int32)), .val (.int (own_key p2)), .val (.int (own_key p3)), .val (.int (own_key p4)), .val (.ref s68), .val (.ref s69), .val (.ref s70), .val (.ref o71), .val (.int (p5 &&& (3 : Int32))), .val (.int p3), .unset, .unset, .unset, .unset]) rfl h) ?_
              show Go p e below _ T80 (mkF m 215 #[.val (.int p1), .val (.int p2), .val (.int p3), .val (.int p4), .val (.int p5), .val (.int (3 : Int32)), .val (.int (own_key p2)), .val (.int (own_key p3)), .val (.int (own_key p4)), .val (.ref s68), .val (.ref s69), .val (.ref s70), .val (.ref o71), .val (.int (p5 &&& (3 : Int32))), .val (.int p3), .unset, .unset, .unset, .unset] [])
              refine Go.st (fun _ h => XS.goto X80.here hx rfl (pc0 := 215) (pc' := 236) rfl (hb hby at_215) (by decide) (by decide) h) ?_
              show Go p e below _ T80 (mkF m 236 #[.val (.int p1), .val (.int p2), .val (.int p3), .val (.int p4), .val (.int p5), .val (.int (3 : Int32)), .val (.int (own_key p2)), .val (.int (own_key p3)), .val (.int (own_key p4)), .val (.ref s68), .val (.ref s69), .val (.ref s70), .val (.ref o71), .val (.int (p5 &&& (3 : Int32))), .val (.int p3), .unset, .unset, .unset, .unset] [])
              exact KK _
            · refine Go.st (fun _ h => XS.icmpYes X80.here hx rfl (pc0 := 209) (pc' := 218) rfl (hb hby at_209) rfl ((feq hc97).2) (by decide) (by decide) h) ?_
              show Go p e below _ T80 (mkF m 218 #[.val (.int p1), .val (.int p2), .val (.int p3), .val (.int p4), .val (.int p5), .val (.int (3 : Int32)), .val (.int (own_key p2)), .val (.int (own_key p3)), .val (.int (own_key p4)), .val (.ref s68), .val (.ref s69), .val (.ref s70), .val (.ref o71), .val (.int (p5 &&& (3 : Int32))), .unset, .unset, .unset, .unset, .unset] [])
              refine Go.st (fun _ h => XS.iload X80.here hx rfl (hb hby at_218) rfl h) ?_
              show Go p e below _ T80 (mkF m 220 #[.val (.int p1), .val (.int p2), .val (.int p3), .val (.int p4), .val (.int p5), .val (.int (3 : Int32)), .val (.int (own_key p2)), .val (.int (own_key p3)), .val (.int (own_key p4)), .val (.ref s68), .val (.ref s69), .val (.ref s70), .val (.ref o71), .val (.int (p5 &&& (3 : Int32))), .unset, .unset, .unset, .unset, .unset] [(.int (p5 &&& (3 : Int32)))])
              refine Go.st (fun _ h => XT.iconstV X80.here hx rfl (2 : Int32) (hb hby at_220) (by decide) h) ?_
              show Go p e below _ T80 (mkF m 221 #[.val (.int p1), .val (.int p2), .val (.int p3), .val (.int p4), .val (.int p5), .val (.int (3 : Int32)), .val (.int (own_key p2)), .val (.int (own_key p3)), .val (.int (own_key p4)), .val (.ref s68), .val (.ref s69), .val (.ref s70), .val (.ref o71), .val (.int (p5 &&& (3 : Int32))), .unset, .unset, .unset, .unset, .unset] [(.int (2 : Int32)), (.int (p5 &&& (3 : Int32)))])
              by_cases hc98 : (p5 &&& (3 : Int32)) = (2 : Int32)
              · refine Go.st (fun _ h => XS.icmpNo X80.here hx rfl (hb hby at_221) rfl ((teq hc98).2) h) ?_
                show Go p e below _ T80 (mkF m 224 #[.val (.int p1), .val (.int p2), .val (.int p3), .val (.int p4), .val (.int p5), .val (.int (3 : Int32)), .val (.int (own_key p2)), .val (.int (own_key p3)), .val (.int (own_key p4)), .val (.ref s68), .val (.ref s69), .val (.ref s70), .val (.ref o71), .val (.int (p5 &&& (3 : Int32))), .unset, .unset, .unset, .unset, .unset] [])
                refine Go.st (fun _ h => XS.iloadN X80.here hx rfl (hb hby at_224) rfl h) ?_
                show Go p e below _ T80 (mkF m 225 #[.val (.int p1), .val (.int p2), .val (.int p3), .val (.int p4), .val (.int p5), .val (.int (3 : Int32)), .val (.int (own_key p2)), .val (.int (own_key p3)), .val (.int (own_key p4)), .val (.ref s68), .val (.ref s69), .val (.ref s70), .val (.ref o71), .val (.int (p5 &&& (3 : Int32))), .unset, .unset, .unset, .unset, .unset] [(.int p4)])
                refine Go.st (fun _ h => XS.istore X80.here hx rfl (hb hby at_225) rfl (l' := #[.val (.int p1), .val (.int p2), .val (.int p3), .val (.int p4), .val (.int p5), .val (.int (3 : Int32)), .val (.int (own_key p2)), .val (.int (own_key p3)), .val (.int (own_key p4)), .val (.ref s68), .val (.ref s69), .val (.ref s70), .val (.ref o71), .val (.int (p5 &&& (3 : Int32))), .val (.int p4), .unset, .unset, .unset, .unset]) rfl h) ?_
                show Go p e below _ T80 (mkF m 227 #[.val (.int p1), .val (.int p2), .val (.int p3), .val (.int p4), .val (.int p5), .val (.int (3 : Int32)), .val (.int (own_key p2)), .val (.int (own_key p3)), .val (.int (own_key p4)), .val (.ref s68), .val (.ref s69), .val (.ref s70), .val (.ref o71), .val (.int (p5 &&& (3 : Int32))), .val (.int p4), .unset, .unset, .unset, .unset] [])
                refine Go.st (fun _ h => XS.goto X80.here hx rfl (pc0 := 227) (pc' := 236) rfl (hb hby at_227) (by decide) (by decide) h) ?_
                show Go p e below _ T80 (mkF m 236 #[.val (.int p1), .val (.int p2), .val (.int p3), .val (.int p4), .val (.int p5), .val (.int (3 : Int32)), .val (.int (own_key p2)), .val (.int (own_key p3)), .val (.int (own_key p4)), .val (.ref s68), .val (.ref s69), .val (.ref s70), .val (.ref o71), .val (.int (p5 &&& (3 : Int32))), .val (.int p4), .unset, .unset, .unset, .unset] [])
                exact KK _
              · refine Go.st (fun _ h => XS.icmpYes X80.here hx rfl (pc0 := 221) (pc' := 230) rfl (hb hby at_221) rfl ((feq hc98).2) (by decide) (by decide) h) ?_
                show Go p e below _ T80 (mkF m 230 #[.val (.int p1), .val (.int p2), .val (.int p3), .val (.int p4), .val (.int p5), .val (.int (3 : Int32)), .val (.int (own_key p2)), .val (.int (own_key p3)), .val (.int (own_key p4)), .val (.ref s68), .val (.ref s69), .val (.ref s70), .val (.ref o71), .val (.int (p5 &&& (3 : Int32))), .unset, .unset, .unset, .unset, .unset] [])
                refine Go.st (fun _ h => XS.iload X80.here hx rfl (hb hby at_230) rfl h) ?_
                show Go p e below _ T80 (mkF m 232 #[.val (.int p1), .val (.int p2), .val (.int p3), .val (.int p4), .val (.int p5), .val (.int (3 : Int32)), .val (.int (own_key p2)), .val (.int (own_key p3)), .val (.int (own_key p4)), .val (.ref s68), .val (.ref s69), .val (.ref s70), .val (.ref o71), .val (.int (p5 &&& (3 : Int32))), .unset, .unset, .unset, .unset, .unset] [(.int p5)])
                refine Go.st (fun _ h => XT.iconstV X80.here hx rfl (2 : Int32) (hb hby at_232) (by decide) h) ?_
                show Go p e below _ T80 (mkF m 233 #[.val (.int p1), .val (.int p2), .val (.int p3), .val (.int p4), .val (.int p5), .val (.int (3 : Int32)), .val (.int (own_key p2)), .val (.int (own_key p3)), .val (.int (own_key p4)), .val (.ref s68), .val (.ref s69), .val (.ref s70), .val (.ref o71), .val (.int (p5 &&& (3 : Int32))), .unset, .unset, .unset, .unset, .unset] [(.int (2 : Int32)), (.int p5)])
                refine Go.st (fun _ h => XT.iushr X80.here hx rfl (hb hby at_233) rfl h) ?_
                show Go p e below _ T80 (mkF m 234 #[.val (.int p1), .val (.int p2), .val (.int p3), .val (.int p4), .val (.int p5), .val (.int (3 : Int32)), .val (.int (own_key p2)), .val (.int (own_key p3)), .val (.int (own_key p4)), .val (.ref s68), .val (.ref s69), .val (.ref s70), .val (.ref o71), .val (.int (p5 &&& (3 : Int32))), .unset, .unset, .unset, .unset, .unset] [(.int (XT.ushr p5 (2 : Int32)))])
                refine Go.st (fun _ h => XS.istore X80.here hx rfl (hb hby at_234) rfl (l' := #[.val (.int p1), .val (.int p2), .val (.int p3), .val (.int p4), .val (.int p5), .val (.int (3 : Int32)), .val (.int (own_key p2)), .val (.int (own_key p3)), .val (.int (own_key p4)), .val (.ref s68), .val (.ref s69), .val (.ref s70), .val (.ref o71), .val (.int (p5 &&& (3 : Int32))), .val (.int (XT.ushr p5 (2 : Int32))), .unset, .unset, .unset, .unset]) rfl h) ?_
                show Go p e below _ T80 (mkF m 236 #[.val (.int p1), .val (.int p2), .val (.int p3), .val (.int p4), .val (.int p5), .val (.int (3 : Int32)), .val (.int (own_key p2)), .val (.int (own_key p3)), .val (.int (own_key p4)), .val (.ref s68), .val (.ref s69), .val (.ref s70), .val (.ref o71), .val (.int (p5 &&& (3 : Int32))), .val (.int (XT.ushr p5 (2 : Int32))), .unset, .unset, .unset, .unset] [])
                exact KK _
set_option maxRecDepth 65536 in
set_option maxHeartbeats 40000000 in
theorem comes_1 {Post : Tables → Env → Array Value → State → Outcome → State → Prop} (hpost : ∀ tb e args s v u, (limb_1_1.after args s (.returned v) u = true ∧ limb_1_2.after args s (.returned v) u = true ∧ True) → Jvm.D.FramedW s (.returned v) u (Jvm.fieldLocs frame_1_writes args s ++ Jvm.arrayLocs frame_1_arrays args s ++ Jvm.staticLocs frame_1_statics s) 48 4288 → Post tb e args s (.returned v) u) :
    ArmFor flags0 classFile x code maxLocals ret World_1 tables_1 room_1 Calls_1 rest_1 Pre_1 Post := by
  intro l hfl _ _ p e ha hc hk s m args below hf hA hF happ hP
  obtain ⟨hcalls, hrest, hpre⟩ := hP
  obtain ⟨-, -, -, hnamed, -, -, -, hat⟩ := (Spec.applies_iff hf).mp happ
  obtain ⟨hg, hn⟩ := and_e (Cond.before_iff.mp (show (Jvm.Cond.and given_1 narrow_1).before args s = true from hpre))
  obtain ⟨g0, hg⟩ := and_e hg
  obtain ⟨g1, hg⟩ := and_e hg
  obtain ⟨g2, hg⟩ := and_e hg
  obtain ⟨g3, hg⟩ := and_e hg
  obtain ⟨g4, hg⟩ := and_e hg
  obtain ⟨w0, w1, w2, w3, w4, rfl⟩ : ∃ w0 w1 w2 w3 w4 : Value, args = #[w0, w1, w2, w3, w4] := by
    have hs : args.size = 5 := by simpa [Cond.value, given_1] using g0
    obtain ⟨L⟩ := args
    match L, hs with
    | [w0, w1, w2, w3, w4], _ => exact ⟨w0, w1, w2, w3, w4, rfl⟩
  have hw := fun d (hd : d ∈ tables_1) => atoms_spec (ws := Jvm.Cond.code x code maxLocals ret :: tables_1) hat d (List.mem_cons_of_mem _ hd)
  obtain ⟨hsets, hown0⟩ := atoms_of _ (rest_1_c_eq ▸ (show rest_1_c.before _ s = true from hrest))
  have hfit : Fit s := fun {y c} hc i hi => by
    obtain ⟨ha, rfl⟩ := Array.getElem?_eq_some_iff.mp hc
    have q := List.all_eq_true.mp ((Array.all_eq_true_iff_forall_mem.mp hF) _ (Array.getElem_mem ha)) i (List.mem_range.mpr hi)
    simpa [Array.getElem?_eq_getElem hi] using q
  obtain ⟨i0, q0⟩ := is_v g1
  obtain rfl : w0 = (.int i0) := Option.some.inj q0
  obtain ⟨i1, q1⟩ := is_v g2
  obtain rfl : w1 = (.int i1) := Option.some.inj q1
  obtain ⟨i2, q2⟩ := is_v g3
  obtain rfl : w2 = (.int i2) := Option.some.inj q2
  obtain ⟨i3, q3⟩ := is_v g4
  obtain rfl : w3 = (.int i3) := Option.some.inj q3
  obtain ⟨i4, q4⟩ := is_v hg
  obtain rfl : w4 = (.int i4) := Option.some.inj q4
  have hcw := hsets _ (List.mem_of_getElem? (i := 2) rfl)
  have n5 := not_v (Cond.before_iff.mp hcw)
  obtain ⟨zc, e10⟩ := is_v (Cond.before_iff.mp (hsets _ (List.mem_of_getElem? (i := 1) rfl)))
  have S_CS : Sta s s.heap "java/lang/String" "COMPACT_STRINGS" "Z" (.int zc) := Sta.start e10 (Or.inl (hsets _ (List.mem_of_getElem? (i := 0) rfl)))
  have hzc : ¬ (zc = (0 : Int32)) := gotF (Cond.eq_ints e10 (Term.int_eval (0))) n5
  have hheld : ∀ q ∈ consts_1, Jvm.Lit.constHeld s q.1 q.2 := hcalls.1
  have wS : ∀ a ∈ Bundle.stringAtoms, a.before _ s = true := fun d hd => hw d ((by decide +kernel : ∀ d ∈ Bundle.stringAtoms, d ∈ tables_1) d hd)
  have hEL : EW s _ consts_1 := EW.cons (text := "u0") (hw _ (List.mem_of_getElem? (i := 48) rfl)) (by decide) (EW.cons (text := "u1") (hw _ (List.mem_of_getElem? (i := 49) rfl)) (by decide) (EW.cons (text := "u2") (hw _ (List.mem_of_getElem? (i := 50) rfl)) (by decide) (EW.cons (text := "") (hw _ (List.mem_of_getElem? (i := 45) rfl)) (by decide) EW.nil)))
  obtain ⟨n, o, h1, h2, h3, v, L, rfl, hP, -, hq⟩ := rmLaw l s _ hw hEL wS i0 i1 i2 i3 i4 s.heap s.heap.size (Nat.le_refl _) zc S_CS hzc p e ha hc hk s m _ below hf ((Spec.applies_iff_loose hf).mp happ).1 ⟨rfl, State.Warmed39.refl s, rfl, CHv.start hEL hheld hcw (hw _ (List.mem_of_getElem? (i := 29) rfl)) (hw _ (List.mem_of_getElem? (i := 11) rfl))⟩ trivial
  obtain ⟨rfl, N⟩ := hP
  refine ⟨n, _, h1, h2, h3, hpost _ _ _ _ _ _ ⟨Cond.after_iff.mpr rfl, Cond.after_iff.mpr (eq_i res_at (Term.int_eval (1)) rfl), trivial⟩ ⟨hq.1, hq.2.1, hq.2.2.1, (hq.2.2.2.sift fun y hy => Or.inr (N y hy)).mono (by decide) (by decide)⟩⟩
theorem main_1_1 : Claimed_1_1 := comes_1 fun _ _ _ _ _ _ h hF => ⟨h.1, hF⟩
theorem main_1_2 : Claimed_1_2 := comes_1 fun _ _ _ _ _ _ h hF => ⟨h.2.1, hF⟩
end Jvm.Pilot.@@N@@
namespace Jvm.Pilot.@@N@@
open Jvm Jvm.ClassFile Sem Op Lib Jvm.Free Jvm.Stand Jvm.Pilot.@@N@@.Jvm.D
/-! MADE BY PROGRAM (witnessworld.py) out of the Statement's table words and the real class files: 21 classes; the members and pool entries that the words name. The judged class is class 1, her method 1. -/
namespace start1
open Jvm.ClassFile
def u (s : String) : CpInfo := .utf8 (stringToUtf16 s)
/-- a pool by its gaps: so many unusable entries, then the entry; so many at the end -/
def gap : Nat → List CpInfo → List CpInfo
  | 0, r => r
  | n + 1, r => .unusable :: gap n r
def poolList (es : List (Nat × CpInfo)) (last : Nat) : List CpInfo := es.foldr (fun e r => gap e.1 (e.2 :: r)) (gap last [])
def pool (es : List (Nat × CpInfo)) (last : Nat) : Array CpInfo := ⟨poolList es last⟩
def fileOf (pool : Array CpInfo) (this : Nat) (attrs : Array Attribute := #[]) (ms : Array MethodInfo := #[]) (fl : Nat := 33) (sup : Nat := 0) (ifs : Array Nat := #[]) (fds : Array FieldInfo := #[]) : ClassFile where
  minorVersion := 0
  majorVersion := 65
  constantPool := pool
  accessFlags := fl
  thisClass := this
  superClass := sup
  interfaces := ifs
  fields := fds
  methods := ms
  attributes := attrs
def plain (name : String) (sup : Option ClassId) : Class where
  name := name
  kind := .ordinary
  loader := none
  accessFlags := 33
  super := sup
  interfaces := #[]
  cf := none
  fields := #[]
  methods := #[]
  instanceTypes := #[]
  staticTypes := #[]
  resolved := #[]
  callSites := []
  init := .initialized
  statics := none
  mirror := none

def pool0 : Array CpInfo := pool [(5, u "<init>"), (0, u "()V"), (1, .class_ 10), (1, u "java/lang/Object")] 113

def k0c0 : Code := { maxStack := 0, maxLocals := 1, code := object_method_1_code, exceptionTable := #[], attributes := #[] }
def k0m0 : Method := { name := "<init>", desc := "()V", sig := { parameters := [], returnType := none }, accessFlags := 1, code := some k0c0 }
/-- java/lang/Object -/
def k0 : Class := { plain "java/lang/Object" none with
  accessFlags := 33
  interfaces := #[]
  cf := some (fileOf pool0 8 #[] #[{ accessFlags := 1, nameIndex := 5, descriptorIndex := 6, attributes := #[] }] 33 0 #[] #[])
  fields := #[]
  methods := #[k0m0]
  instanceTypes := #[]
  staticTypes := #[]
  resolved := Array.replicate 124 none
  statics := none }

def pool1 : Array CpInfo := pool [(2, .class_ 4), (1, u "java/lang/Object"), (0, u "<init>"), (0, u "()V"), (0, .methodref 8 9), (0, .class_ 10), (0, .nameAndType 11 12), (0, u "com/example/tenon/tenon/core/XmlElementDeclaredPinLaw"), (0, u "key"), (0, u "(I)I"), (0, .methodref 8 14), (0, .nameAndType 15 16), (0, u "mk"), (0, u "(I)Ljava/lang/String;"), (0, .class_ 18), (0, u "java/lang/String"), (0, .string 20), (0, u "u0"), (0, .string 22), (0, u "u1"), (0, .string 24), (0, u "u2"), (0, .methodref 26 27), (0, .class_ 28), (0, .nameAndType 29 30), (0, u "com/example/tenon/tenon/core/XmlElement"), (0, u "declared"), (0, u "([Ljava/lang/String;Ljava/lang/String;)Ljava/lang/String;"), (0, .methodref 17 32), (0, .nameAndType 33 34), (0, u "equals"), (0, u "(Ljava/lang/Object;)Z"), (0, .methodref 8 36), (0, .nameAndType 37 12), (0, u "len"), (0, .methodref 17 39), (0, .nameAndType 5 40), (0, u "([C)V"), (2, u "law"), (0, u "(IIIII)Z")] 5

def k1m0 : Method := { name := "<init>", desc := "()V", sig := { parameters := [], returnType := none }, accessFlags := 1, code := none }
def k1c1 : Code := { maxStack := 4, maxLocals := 19, code := code, exceptionTable := #[], attributes := #[] }
def k1m1 : Method := { name := "law", desc := "(IIIII)Z", sig := { parameters := [.int, .int, .int, .int, .int], returnType := some .boolean }, accessFlags := 9, code := some k1c1 }
def k1c2 : Code := { maxStack := 2, maxLocals := 2, code := method_3_code, exceptionTable := #[], attributes := #[] }
def k1m2 : Method := { name := "len", desc := "(I)I", sig := { parameters := [.int], returnType := some .int }, accessFlags := 10, code := some k1c2 }
def k1c3 : Code := { maxStack := 3, maxLocals := 4, code := method_4_code, exceptionTable := #[], attributes := #[] }
def k1m3 : Method := { name := "key", desc := "(I)I", sig := { parameters := [.int], returnType := some .int }, accessFlags := 10, code := some k1c3 }
def k1c4 : Code := { maxStack := 6, maxLocals := 4, code := method_5_code, exceptionTable := #[], attributes := #[] }
def k1m4 : Method := { name := "mk", desc := "(I)Ljava/lang/String;", sig := { parameters := [.int], returnType := some (.object "java/lang/String") }, accessFlags := 10, code := some k1c4 }
/-- com/example/tenon/tenon/core/XmlElementDeclaredPinLaw -/
def k1 : Class := { plain "com/example/tenon/tenon/core/XmlElementDeclaredPinLaw" (some 0) with
  accessFlags := 49
  interfaces := #[]
  cf := some (fileOf pool1 8 #[] #[{ accessFlags := 1, nameIndex := 5, descriptorIndex := 6, attributes := #[] }, { accessFlags := 9, nameIndex := 43, descriptorIndex := 44, attributes := #[] }, { accessFlags := 10, nameIndex := 37, descriptorIndex := 12, attributes := #[] }, { accessFlags := 10, nameIndex := 11, descriptorIndex := 12, attributes := #[] }, { accessFlags := 10, nameIndex := 15, descriptorIndex := 16, attributes := #[] }] 49 2 #[] #[])
  fields := #[]
  methods := #[k1m0, k1m1, k1m2, k1m3, k1m4]
  instanceTypes := #[]
  staticTypes := #[]
  resolved := Array.replicate 50 none
  statics := none }

def pool2 : Array CpInfo := pool [(1, .class_ 2), (0, u "java/io/Serializable"), (0, .class_ 4), (0, u "java/lang/Object")] 2

/-- java/io/Serializable -/
def k2 : Class := { plain "java/io/Serializable" (some 0) with
  accessFlags := 1537
  interfaces := #[]
  cf := some (fileOf pool2 1 #[] #[] 1537 3 #[] #[])
  fields := #[]
  methods := #[]
  instanceTypes := #[]
  staticTypes := #[]
  resolved := Array.replicate 7 none
  statics := none }

def pool3 : Array CpInfo := pool [(1, .class_ 2), (0, u "java/lang/Comparable"), (0, .class_ 4), (0, u "java/lang/Object")] 7

/-- java/lang/Comparable -/
def k3 : Class := { plain "java/lang/Comparable" (some 0) with
  accessFlags := 1537
  interfaces := #[]
  cf := some (fileOf pool3 1 #[] #[] 1537 3 #[] #[])
  fields := #[]
  methods := #[]
  instanceTypes := #[]
  staticTypes := #[]
  resolved := Array.replicate 12 none
  statics := none }

def pool4 : Array CpInfo := pool [(2, .class_ 4), (1, u "java/lang/CharSequence"), (42, .class_ 48), (0, u "java/lang/CharSequence$1CodePointIterator"), (10, .class_ 60), (0, u "java/lang/CharSequence$1CharIterator"), (5, .class_ 67), (0, u "java/lang/Object")] 63

/-- java/lang/CharSequence -/
def k4 : Class := { plain "java/lang/CharSequence" (some 0) with
  accessFlags := 1537
  interfaces := #[]
  cf := some (fileOf pool4 2 #[.nestMembers #[47, 59]] #[] 1537 66 #[] #[])
  fields := #[]
  methods := #[]
  instanceTypes := #[]
  staticTypes := #[]
  resolved := Array.replicate 131 none
  statics := none }

def pool5 : Array CpInfo := pool [(1, .class_ 2), (0, u "java/lang/constant/Constable"), (0, .class_ 4), (0, u "java/lang/Object")] 6

/-- java/lang/constant/Constable -/
def k5 : Class := { plain "java/lang/constant/Constable" (some 0) with
  accessFlags := 1537
  interfaces := #[]
  cf := some (fileOf pool5 1 #[] #[] 1537 3 #[] #[])
  fields := #[]
  methods := #[]
  instanceTypes := #[]
  staticTypes := #[]
  resolved := Array.replicate 11 none
  statics := none }

def pool6 : Array CpInfo := pool [(1, .class_ 2), (0, u "java/lang/constant/ConstantDesc"), (0, .class_ 4), (0, u "java/lang/Object")] 32

/-- java/lang/constant/ConstantDesc -/
def k6 : Class := { plain "java/lang/constant/ConstantDesc" (some 0) with
  accessFlags := 1537
  interfaces := #[]
  cf := some (fileOf pool6 1 #[] #[] 1537 3 #[] #[])
  fields := #[]
  methods := #[]
  instanceTypes := #[]
  staticTypes := #[]
  resolved := Array.replicate 37 none
  statics := none }

def pool7 : Array CpInfo := pool [(1, .methodref 2 3), (0, .class_ 4), (0, .nameAndType 5 6), (0, u "java/lang/Object"), (0, u "<init>"), (0, u "()V"), (0, .string 8), (0, u ""), (0, .fieldref 10 11), (0, .class_ 12), (0, .nameAndType 13 14), (0, u "java/lang/String"), (0, u "value"), (0, u "[B"), (0, .fieldref 10 16), (0, .nameAndType 17 18), (0, u "coder"), (0, u "B"), (2, u "hash"), (0, u "I"), (2, u "hashIsZero"), (0, u "Z"), (0, .methodref 10 28), (0, .nameAndType 5 29), (0, u "([CIILjava/lang/Void;)V"), (8, .fieldref 10 39), (0, .nameAndType 40 26), (0, u "COMPACT_STRINGS"), (1, .class_ 44), (1, u "java/lang/StringUTF16"), (0, u "compress"), (1, .methodref 42 48), (0, .nameAndType 49 50), (0, u "coderFromArrayLen"), (0, u "([BI)B"), (56, .class_ 109), (1, u "java/lang/StringLatin1"), (67, .methodref 42 178), (0, .nameAndType 45 179), (0, u "([CII)[B"), (361, .methodref 107 542), (0, .nameAndType 543 544), (0, u "equals"), (0, u "([B[B)Z"), (28, u "(Ljava/lang/Object;)Z"), (1, .class_ 576), (0, u "java/lang/CharSequence"), (22, u "CASE_INSENSITIVE_ORDER"), (0, u "Ljava/util/Comparator;"), (409, u "([C)V"), (90, u "serialPersistentFields"), (0, u "[Ljava/io/ObjectStreamField;"), (0, .class_ 1104), (0, u "java/lang/String$CaseInsensitiveComparator"), (1, .class_ 1107), (0, u "java/io/Serializable"), (0, .class_ 1109), (0, u "java/lang/Comparable"), (0, .class_ 1111), (0, u "java/lang/constant/Constable"), (0, .class_ 1113), (0, u "java/lang/constant/ConstantDesc"), (2, u "serialVersionUID"), (0, u "J"), (3, u "REPL"), (0, u "C"), (2, u "LATIN1"), (1, u "UTF16")] 323

def k7m0 : Method := { name := "<init>", desc := "()V", sig := { parameters := [], returnType := none }, accessFlags := 1, code := none }
def k7c1 : Code := { maxStack := 5, maxLocals := 2, code := jdk_42_method_3_code, exceptionTable := #[], attributes := #[] }
def k7m1 : Method := { name := "<init>", desc := "([C)V", sig := { parameters := [(.array .char)], returnType := none }, accessFlags := 1, code := some k7c1 }
def k7c2 : Code := { maxStack := 2, maxLocals := 3, code := jdk_42_method_66_code, exceptionTable := #[], attributes := #[] }
def k7m2 : Method := { name := "equals", desc := "(Ljava/lang/Object;)Z", sig := { parameters := [(.object "java/lang/Object")], returnType := some .boolean }, accessFlags := 1, code := some k7c2 }
def k7c3 : Code := { maxStack := 4, maxLocals := 6, code := jdk_42_method_149_code, exceptionTable := #[], attributes := #[] }
def k7m3 : Method := { name := "<init>", desc := "([CIILjava/lang/Void;)V", sig := { parameters := [(.array .char), .int, .int, (.object "java/lang/Void")], returnType := none }, accessFlags := 2, code := some k7c3 }
/-- java/lang/String -/
def k7 : Class := { plain "java/lang/String" (some 0) with
  accessFlags := 49
  interfaces := #[2, 3, 4, 5, 6]
  cf := some (fileOf pool7 10 #[.nestMembers #[1103]] #[{ accessFlags := 1, nameIndex := 5, descriptorIndex := 6, attributes := #[] }, { accessFlags := 1, nameIndex := 5, descriptorIndex := 1010, attributes := #[] }, { accessFlags := 1, nameIndex := 543, descriptorIndex := 573, attributes := #[] }, { accessFlags := 2, nameIndex := 5, descriptorIndex := 29, attributes := #[] }] 49 2 #[1106, 1108, 575, 1110, 1112] #[{ accessFlags := 18, nameIndex := 13, descriptorIndex := 14, attributes := #[] }, { accessFlags := 18, nameIndex := 17, descriptorIndex := 18, attributes := #[] }, { accessFlags := 2, nameIndex := 21, descriptorIndex := 22, attributes := #[] }, { accessFlags := 2, nameIndex := 25, descriptorIndex := 26, attributes := #[] }, { accessFlags := 26, nameIndex := 1116, descriptorIndex := 1117, attributes := #[] }, { accessFlags := 24, nameIndex := 40, descriptorIndex := 26, attributes := #[] }, { accessFlags := 26, nameIndex := 1101, descriptorIndex := 1102, attributes := #[] }, { accessFlags := 26, nameIndex := 1121, descriptorIndex := 1122, attributes := #[] }, { accessFlags := 25, nameIndex := 599, descriptorIndex := 600, attributes := #[] }, { accessFlags := 24, nameIndex := 1125, descriptorIndex := 18, attributes := #[] }, { accessFlags := 24, nameIndex := 1127, descriptorIndex := 18, attributes := #[] }])
  fields := #[{ name := "value", type := (.array .byte), accessFlags := 18, slot := 0, constantValue := 0 }, { name := "coder", type := .byte, accessFlags := 18, slot := 1, constantValue := 0 }, { name := "hash", type := .int, accessFlags := 2, slot := 2, constantValue := 0 }, { name := "hashIsZero", type := .boolean, accessFlags := 2, slot := 3, constantValue := 0 }, { name := "serialVersionUID", type := .long, accessFlags := 26, slot := 0, constantValue := 0 }, { name := "COMPACT_STRINGS", type := .boolean, accessFlags := 24, slot := 1, constantValue := 0 }, { name := "serialPersistentFields", type := (.array (.object "java/io/ObjectStreamField")), accessFlags := 26, slot := 2, constantValue := 0 }, { name := "REPL", type := .char, accessFlags := 26, slot := 3, constantValue := 0 }, { name := "CASE_INSENSITIVE_ORDER", type := (.object "java/util/Comparator"), accessFlags := 25, slot := 4, constantValue := 0 }, { name := "LATIN1", type := .byte, accessFlags := 24, slot := 5, constantValue := 0 }, { name := "UTF16", type := .byte, accessFlags := 24, slot := 6, constantValue := 0 }]
  methods := #[k7m0, k7m1, k7m2, k7m3]
  instanceTypes := #[(.array .byte), .byte, .int, .boolean]
  staticTypes := #[.long, .boolean, (.array (.object "java/io/ObjectStreamField")), .char, (.object "java/util/Comparator"), .byte, .byte]
  resolved := Array.replicate 1451 none
  statics := some 0 }

def pool8 : Array CpInfo := pool [(6, .class_ 8), (1, u "java/lang/Object"), (0, u "<init>"), (0, u "()V"), (1, .class_ 14), (1, u "java/lang/StringUTF16"), (31, u "$assertionsDisabled"), (0, u "Z"), (13, u "HI_BYTE_SHIFT"), (0, u "I"), (2, u "LO_BYTE_SHIFT"), (49, .methodref 12 116), (0, .nameAndType 117 118), (0, u "compress"), (0, u "([CI[BII)I"), (3, u "([CII)[B"), (138, u "coderFromArrayLen"), (0, u "([BI)B"), (106, .class_ 371), (1, u "java/lang/StringUTF16$LinesSpliterator"), (58, u "MAX_LENGTH"), (196, .class_ 628), (0, u "java/lang/StringUTF16$CodePointsSpliterator"), (0, .class_ 630), (0, u "java/lang/StringUTF16$CharsSpliterator")] 4

def k8m0 : Method := { name := "<init>", desc := "()V", sig := { parameters := [], returnType := none }, accessFlags := 0, code := none }
def k8c1 : Code := { maxStack := 2, maxLocals := 2, code := jdk_52_method_15_code, exceptionTable := #[], attributes := #[] }
def k8m1 : Method := { name := "coderFromArrayLen", desc := "([BI)B", sig := { parameters := [(.array .byte), .int], returnType := some .byte }, accessFlags := 8, code := some k8c1 }
def k8c2 : Code := { maxStack := 5, maxLocals := 6, code := jdk_52_method_16_code, exceptionTable := #[], attributes := #[] }
def k8m2 : Method := { name := "compress", desc := "([CII)[B", sig := { parameters := [(.array .char), .int, .int], returnType := some (.array .byte) }, accessFlags := 9, code := some k8c2 }
def k8c3 : Code := { maxStack := 3, maxLocals := 7, code := jdk_52_method_21_code, exceptionTable := #[], attributes := #[] }
def k8m3 : Method := { name := "compress", desc := "([CI[BII)I", sig := { parameters := [(.array .char), .int, (.array .byte), .int, .int], returnType := some .int }, accessFlags := 9, code := some k8c3 }
/-- java/lang/StringUTF16 -/
def k8 : Class := { plain "java/lang/StringUTF16" (some 0) with
  accessFlags := 48
  interfaces := #[]
  cf := some (fileOf pool8 12 #[.nestMembers #[627, 629, 369]] #[{ accessFlags := 0, nameIndex := 9, descriptorIndex := 10, attributes := #[] }, { accessFlags := 8, nameIndex := 261, descriptorIndex := 262, attributes := #[] }, { accessFlags := 9, nameIndex := 117, descriptorIndex := 122, attributes := #[] }, { accessFlags := 9, nameIndex := 117, descriptorIndex := 118, attributes := #[] }] 48 6 #[] #[{ accessFlags := 26, nameIndex := 61, descriptorIndex := 62, attributes := #[] }, { accessFlags := 26, nameIndex := 65, descriptorIndex := 62, attributes := #[] }, { accessFlags := 24, nameIndex := 430, descriptorIndex := 62, attributes := #[] }, { accessFlags := 4120, nameIndex := 46, descriptorIndex := 47, attributes := #[] }])
  fields := #[{ name := "HI_BYTE_SHIFT", type := .int, accessFlags := 26, slot := 0, constantValue := 0 }, { name := "LO_BYTE_SHIFT", type := .int, accessFlags := 26, slot := 1, constantValue := 0 }, { name := "MAX_LENGTH", type := .int, accessFlags := 24, slot := 2, constantValue := 0 }, { name := "$assertionsDisabled", type := .boolean, accessFlags := 4120, slot := 3, constantValue := 0 }]
  methods := #[k8m0, k8m1, k8m2, k8m3]
  instanceTypes := #[]
  staticTypes := #[.int, .int, .int, .boolean]
  resolved := Array.replicate 635 none
  statics := none }

def pool9 : Array CpInfo := pool [(2, .class_ 4), (1, u "java/lang/Object"), (9, .class_ 16), (1, u "com/example/tenon/tenon/core/XmlElement"), (0, u "children"), (0, u "Ljava/util/List;"), (4, u "text"), (0, u "Ljava/lang/String;"), (2, u "name"), (0, u "Ljavax/xml/namespace/QName;"), (2, u "parent"), (0, u "Lcom/example/tenon/tenon/core/XmlElement;"), (2, u "line"), (0, u "I"), (2, u "declarations"), (0, u "[Ljava/lang/String;"), (2, u "attributes"), (15, .methodref 60 61), (0, .class_ 62), (0, .nameAndType 63 64), (0, u "java/lang/String"), (0, u "equals"), (0, u "(Ljava/lang/Object;)Z"), (54, u "declared"), (0, u "([Ljava/lang/String;Ljava/lang/String;)Ljava/lang/String;"), (23, u "NONE")] 42

def k9c0 : Code := { maxStack := 3, maxLocals := 3, code := prog_85_method_13_code, exceptionTable := #[], attributes := #[] }
def k9m0 : Method := { name := "declared", desc := "([Ljava/lang/String;Ljava/lang/String;)Ljava/lang/String;", sig := { parameters := [(.array (.object "java/lang/String")), (.object "java/lang/String")], returnType := some (.object "java/lang/String") }, accessFlags := 8, code := some k9c0 }
/-- com/example/tenon/tenon/core/XmlElement -/
def k9 : Class := { plain "com/example/tenon/tenon/core/XmlElement" (some 0) with
  accessFlags := 49
  interfaces := #[]
  cf := some (fileOf pool9 14 #[] #[{ accessFlags := 8, nameIndex := 119, descriptorIndex := 120, attributes := #[] }] 49 2 #[] #[{ accessFlags := 24, nameIndex := 144, descriptorIndex := 40, attributes := #[] }, { accessFlags := 18, nameIndex := 27, descriptorIndex := 28, attributes := #[] }, { accessFlags := 18, nameIndex := 31, descriptorIndex := 32, attributes := #[] }, { accessFlags := 18, nameIndex := 35, descriptorIndex := 36, attributes := #[] }, { accessFlags := 18, nameIndex := 39, descriptorIndex := 40, attributes := #[] }, { accessFlags := 18, nameIndex := 43, descriptorIndex := 40, attributes := #[] }, { accessFlags := 2, nameIndex := 17, descriptorIndex := 18, attributes := #[] }, { accessFlags := 2, nameIndex := 23, descriptorIndex := 24, attributes := #[] }])
  fields := #[{ name := "NONE", type := (.array (.object "java/lang/String")), accessFlags := 24, slot := 0, constantValue := 0 }, { name := "name", type := (.object "javax/xml/namespace/QName"), accessFlags := 18, slot := 0, constantValue := 0 }, { name := "parent", type := (.object "com/example/tenon/tenon/core/XmlElement"), accessFlags := 18, slot := 1, constantValue := 0 }, { name := "line", type := .int, accessFlags := 18, slot := 2, constantValue := 0 }, { name := "declarations", type := (.array (.object "java/lang/String")), accessFlags := 18, slot := 3, constantValue := 0 }, { name := "attributes", type := (.array (.object "java/lang/String")), accessFlags := 18, slot := 4, constantValue := 0 }, { name := "children", type := (.object "java/util/List"), accessFlags := 2, slot := 5, constantValue := 0 }, { name := "text", type := (.object "java/lang/String"), accessFlags := 2, slot := 6, constantValue := 0 }]
  methods := #[k9m0]
  instanceTypes := #[(.object "javax/xml/namespace/QName"), (.object "com/example/tenon/tenon/core/XmlElement"), .int, (.array (.object "java/lang/String")), (.array (.object "java/lang/String")), (.object "java/util/List"), (.object "java/lang/String")]
  staticTypes := #[(.array (.object "java/lang/String"))]
  resolved := Array.replicate 187 none
  statics := none }

def pool10 : Array CpInfo := pool [(4, .class_ 6), (1, u "java/lang/Object"), (0, u "<init>"), (0, u "()V"), (5, .class_ 16), (1, u "java/lang/StringLatin1"), (104, u "$assertionsDisabled"), (0, u "Z"), (98, .class_ 223), (1, u "java/lang/StringLatin1$LinesSpliterator"), (57, u "equals"), (0, u "([B[B)Z"), (107, .class_ 391), (0, u "java/lang/StringLatin1$CharsSpliterator")] 3

def k10m0 : Method := { name := "<init>", desc := "()V", sig := { parameters := [], returnType := none }, accessFlags := 0, code := none }
def k10c1 : Code := { maxStack := 3, maxLocals := 3, code := jdk_43_method_13_code, exceptionTable := #[], attributes := #[] }
def k10m1 : Method := { name := "equals", desc := "([B[B)Z", sig := { parameters := [(.array .byte), (.array .byte)], returnType := some .boolean }, accessFlags := 9, code := some k10c1 }
/-- java/lang/StringLatin1 -/
def k10 : Class := { plain "java/lang/StringLatin1" (some 0) with
  accessFlags := 48
  interfaces := #[]
  cf := some (fileOf pool10 14 #[.nestMembers #[390, 221]] #[{ accessFlags := 0, nameIndex := 7, descriptorIndex := 8, attributes := #[] }, { accessFlags := 9, nameIndex := 281, descriptorIndex := 282, attributes := #[] }] 48 4 #[] #[{ accessFlags := 4120, nameIndex := 121, descriptorIndex := 122, attributes := #[] }])
  fields := #[{ name := "$assertionsDisabled", type := .boolean, accessFlags := 4120, slot := 0, constantValue := 0 }]
  methods := #[k10m0, k10m1]
  instanceTypes := #[]
  staticTypes := #[.boolean]
  resolved := Array.replicate 395 none
  statics := none }

def pool11 : Array CpInfo := pool [(2, .class_ 4), (1, u "java/lang/Object"), (0, u "<init>"), (0, u "()V"), (17, .class_ 26), (1, u "jdk/internal/util/Preconditions"), (28, .class_ 56), (0, u "jdk/internal/util/Preconditions$4"), (57, .class_ 115), (0, u "jdk/internal/util/Preconditions$1"), (7, u "SIOOBE_FORMATTER"), (0, u "Ljava/util/function/BiFunction;"), (0, .class_ 126), (0, u "jdk/internal/util/Preconditions$2"), (3, u "AIOOBE_FORMATTER"), (0, .class_ 132), (0, u "jdk/internal/util/Preconditions$3"), (3, u "IOOBE_FORMATTER")] 57

def k11m0 : Method := { name := "<init>", desc := "()V", sig := { parameters := [], returnType := none }, accessFlags := 1, code := none }
/-- jdk/internal/util/Preconditions -/
def k11 : Class := { plain "jdk/internal/util/Preconditions" (some 0) with
  accessFlags := 33
  interfaces := #[]
  cf := some (fileOf pool11 24 #[.nestMembers #[55, 131, 125, 114]] #[{ accessFlags := 1, nameIndex := 5, descriptorIndex := 6, attributes := #[] }] 33 2 #[] #[{ accessFlags := 25, nameIndex := 123, descriptorIndex := 124, attributes := #[] }, { accessFlags := 25, nameIndex := 130, descriptorIndex := 124, attributes := #[] }, { accessFlags := 25, nameIndex := 136, descriptorIndex := 124, attributes := #[] }])
  fields := #[{ name := "SIOOBE_FORMATTER", type := (.object "java/util/function/BiFunction"), accessFlags := 25, slot := 0, constantValue := 0 }, { name := "AIOOBE_FORMATTER", type := (.object "java/util/function/BiFunction"), accessFlags := 25, slot := 1, constantValue := 0 }, { name := "IOOBE_FORMATTER", type := (.object "java/util/function/BiFunction"), accessFlags := 25, slot := 2, constantValue := 0 }]
  methods := #[k11m0]
  instanceTypes := #[]
  staticTypes := #[(.object "java/util/function/BiFunction"), (.object "java/util/function/BiFunction"), (.object "java/util/function/BiFunction")]
  resolved := Array.replicate 194 none
  statics := some 1 }

def pool12 : Array CpInfo := pool [(9, u "<init>"), (6, .class_ 18), (1, u "java/lang/Object"), (0, u "()V"), (1, .class_ 23), (1, u "jdk/internal/util/ArraysSupport"), (0, u "LOG2_ARRAY_LONG_INDEX_SCALE"), (0, u "I"), (2, u "U"), (0, u "Ljdk/internal/misc/Unsafe;"), (8, u "BIG_ENDIAN"), (0, u "Z"), (8, u "LOG2_BYTE_BIT_SIZE"), (4, u "LOG2_ARRAY_INT_INDEX_SCALE"), (54, u "JLA"), (0, u "Ljdk/internal/access/JavaLangAccess;"), (11, u "LOG2_ARRAY_BOOLEAN_INDEX_SCALE"), (9, u "LOG2_ARRAY_BYTE_INDEX_SCALE"), (5, u "LOG2_ARRAY_CHAR_INDEX_SCALE"), (5, u "LOG2_ARRAY_SHORT_INDEX_SCALE"), (18, u "LOG2_ARRAY_FLOAT_INDEX_SCALE"), (24, u "LOG2_ARRAY_DOUBLE_INDEX_SCALE"), (89, u "T_BOOLEAN"), (2, u "T_CHAR"), (1, u "T_FLOAT"), (1, u "T_DOUBLE"), (1, u "T_BYTE"), (1, u "T_SHORT"), (1, u "T_INT"), (1, u "T_LONG"), (1, u "SOFT_MAX_ARRAY_LENGTH")] 83

def k12m0 : Method := { name := "<init>", desc := "()V", sig := { parameters := [], returnType := none }, accessFlags := 2, code := none }
/-- jdk/internal/util/ArraysSupport -/
def k12 : Class := { plain "jdk/internal/util/ArraysSupport" (some 0) with
  accessFlags := 33
  interfaces := #[]
  cf := some (fileOf pool12 21 #[] #[{ accessFlags := 2, nameIndex := 9, descriptorIndex := 19, attributes := #[] }] 33 16 #[] #[{ accessFlags := 24, nameIndex := 28, descriptorIndex := 29, attributes := #[] }, { accessFlags := 26, nameIndex := 38, descriptorIndex := 39, attributes := #[] }, { accessFlags := 25, nameIndex := 121, descriptorIndex := 25, attributes := #[] }, { accessFlags := 25, nameIndex := 131, descriptorIndex := 25, attributes := #[] }, { accessFlags := 25, nameIndex := 137, descriptorIndex := 25, attributes := #[] }, { accessFlags := 25, nameIndex := 143, descriptorIndex := 25, attributes := #[] }, { accessFlags := 25, nameIndex := 53, descriptorIndex := 25, attributes := #[] }, { accessFlags := 25, nameIndex := 24, descriptorIndex := 25, attributes := #[] }, { accessFlags := 25, nameIndex := 162, descriptorIndex := 25, attributes := #[] }, { accessFlags := 25, nameIndex := 187, descriptorIndex := 25, attributes := #[] }, { accessFlags := 26, nameIndex := 48, descriptorIndex := 25, attributes := #[] }, { accessFlags := 25, nameIndex := 277, descriptorIndex := 25, attributes := #[] }, { accessFlags := 25, nameIndex := 280, descriptorIndex := 25, attributes := #[] }, { accessFlags := 25, nameIndex := 282, descriptorIndex := 25, attributes := #[] }, { accessFlags := 25, nameIndex := 284, descriptorIndex := 25, attributes := #[] }, { accessFlags := 25, nameIndex := 286, descriptorIndex := 25, attributes := #[] }, { accessFlags := 25, nameIndex := 288, descriptorIndex := 25, attributes := #[] }, { accessFlags := 25, nameIndex := 290, descriptorIndex := 25, attributes := #[] }, { accessFlags := 25, nameIndex := 292, descriptorIndex := 25, attributes := #[] }, { accessFlags := 26, nameIndex := 108, descriptorIndex := 109, attributes := #[] }, { accessFlags := 25, nameIndex := 294, descriptorIndex := 25, attributes := #[] }])
  fields := #[{ name := "U", type := (.object "jdk/internal/misc/Unsafe"), accessFlags := 24, slot := 0, constantValue := 0 }, { name := "BIG_ENDIAN", type := .boolean, accessFlags := 26, slot := 1, constantValue := 0 }, { name := "LOG2_ARRAY_BOOLEAN_INDEX_SCALE", type := .int, accessFlags := 25, slot := 2, constantValue := 0 }, { name := "LOG2_ARRAY_BYTE_INDEX_SCALE", type := .int, accessFlags := 25, slot := 3, constantValue := 0 }, { name := "LOG2_ARRAY_CHAR_INDEX_SCALE", type := .int, accessFlags := 25, slot := 4, constantValue := 0 }, { name := "LOG2_ARRAY_SHORT_INDEX_SCALE", type := .int, accessFlags := 25, slot := 5, constantValue := 0 }, { name := "LOG2_ARRAY_INT_INDEX_SCALE", type := .int, accessFlags := 25, slot := 6, constantValue := 0 }, { name := "LOG2_ARRAY_LONG_INDEX_SCALE", type := .int, accessFlags := 25, slot := 7, constantValue := 0 }, { name := "LOG2_ARRAY_FLOAT_INDEX_SCALE", type := .int, accessFlags := 25, slot := 8, constantValue := 0 }, { name := "LOG2_ARRAY_DOUBLE_INDEX_SCALE", type := .int, accessFlags := 25, slot := 9, constantValue := 0 }, { name := "LOG2_BYTE_BIT_SIZE", type := .int, accessFlags := 26, slot := 10, constantValue := 0 }, { name := "T_BOOLEAN", type := .int, accessFlags := 25, slot := 11, constantValue := 0 }, { name := "T_CHAR", type := .int, accessFlags := 25, slot := 12, constantValue := 0 }, { name := "T_FLOAT", type := .int, accessFlags := 25, slot := 13, constantValue := 0 }, { name := "T_DOUBLE", type := .int, accessFlags := 25, slot := 14, constantValue := 0 }, { name := "T_BYTE", type := .int, accessFlags := 25, slot := 15, constantValue := 0 }, { name := "T_SHORT", type := .int, accessFlags := 25, slot := 16, constantValue := 0 }, { name := "T_INT", type := .int, accessFlags := 25, slot := 17, constantValue := 0 }, { name := "T_LONG", type := .int, accessFlags := 25, slot := 18, constantValue := 0 }, { name := "JLA", type := (.object "jdk/internal/access/JavaLangAccess"), accessFlags := 26, slot := 19, constantValue := 0 }, { name := "SOFT_MAX_ARRAY_LENGTH", type := .int, accessFlags := 25, slot := 20, constantValue := 0 }]
  methods := #[k12m0]
  instanceTypes := #[]
  staticTypes := #[(.object "jdk/internal/misc/Unsafe"), .boolean, .int, .int, .int, .int, .int, .int, .int, .int, .int, .int, .int, .int, .int, .int, .int, .int, .int, (.object "jdk/internal/access/JavaLangAccess"), .int]
  resolved := Array.replicate 378 none
  statics := none }

def pool13 : Array CpInfo := pool [(1, u "java/lang/Cloneable"), (0, .class_ 1), (0, u "java/lang/Object"), (0, .class_ 3)] 3

/-- java/lang/Cloneable -/
def k13 : Class := { plain "java/lang/Cloneable" (some 0) with
  accessFlags := 1537
  interfaces := #[]
  cf := some (fileOf pool13 2 #[] #[] 1537 4 #[] #[])
  fields := #[]
  methods := #[]
  instanceTypes := #[]
  staticTypes := #[]
  resolved := Array.replicate 8 none
  statics := none }

/-- the primitive byte -/
def k14 : Class := { plain "byte" none with kind := .primitive 'B', accessFlags := 0x411 }
/-- [B -/
def k15 : Class := { plain "[B" (some 0) with kind := .array 14 .byte, interfaces := #[13, 2], accessFlags := 1041 }

/-- the primitive char -/
def k16 : Class := { plain "char" none with kind := .primitive 'C', accessFlags := 0x411 }
/-- [C -/
def k17 : Class := { plain "[C" (some 0) with kind := .array 16 .char, interfaces := #[13, 2], accessFlags := 1041 }

/-- the primitive int -/
def k18 : Class := { plain "int" none with kind := .primitive 'I', accessFlags := 0x411 }
/-- [I -/
def k19 : Class := { plain "[I" (some 0) with kind := .array 18 .int, interfaces := #[13, 2], accessFlags := 1041 }

/-- [Ljava/lang/String; -/
def k20 : Class := { plain "[Ljava/lang/String;" (some 0) with kind := .array 7 (.object "java/lang/String"), interfaces := #[13, 2], accessFlags := 1041 }

def heap : Heap := #[{ cls := 7, slots := #[.long 0, .int 1, .null, .int 0, .null, .int 0, .int 0], vm := .statics 7 },
  { cls := 11, slots := #[.null, .null, .null], vm := .statics 11 }]
def classes : Array Class := #[k0, k1, k2, k3, k4, k5, k6, k7, k8, k9, k10, k11, k12, k13, k14, k15, k16, k17, k18, k19, k20]
def interned : List (Array UInt16 × Addr) := []
def slotsUsed : Nat := 10
def theMethod : MethodId := ⟨1, 1⟩
def args0 : Array Value := #[.int 3, .int 4, .int 5, .int 6, .int 7]
def aboutOver (below : List Frame) : State where
  vm := { classes := classes, interned := interned.toArray }
  heap := heap
  slotsUsed := slotsUsed
  threads := #[{ frames := .invoking theMethod args0 :: below }]
def below0 : List Frame := [.native { method := ⟨0, 0⟩, args := #[] }]
def about1 : State := aboutOver below0
def p0 : Program := .bare "" "" ""
def e0 : Env := launch0.env 0 0 0
theorem w_frames : about1.frames = Frame.invoking theMethod args0 :: below0 := rfl
set_option maxRecDepth 65536 in
theorem w_args : argsFit about1.vm theMethod args0 = true := by decide +kernel
set_option maxRecDepth 65536 in
theorem w_heap : heapFits about1 = true := by decide +kernel
set_option maxRecDepth 65536 in
theorem w_runnable : about1.curStatus? = some .runnable := by decide +kernel
set_option maxRecDepth 65536 in
theorem w_alone : about1.alone = true := by decide +kernel
set_option maxRecDepth 65536 in
theorem w_named : about1.methodNamed? x = some theMethod := by decide +kernel
set_option maxRecDepth 65536 in
theorem w_hears : about1.hears theMethod below0 = true := by decide +kernel
set_option maxRecDepth 65536 in
theorem w_ripe : about1.ripe theMethod args0 below0 = true := by decide +kernel
theorem w_running : about1.status = .running := rfl
set_option maxRecDepth 65536 in
theorem w_room : about1.hasRoom e0.platform room_1 = true :=
  launch0.hasRoom_least _ room_1 (by decide +kernel) (by decide +kernel) (by decide +kernel) (by decide +kernel) (by decide +kernel) (by decide +kernel)
theorem allAtoms_all (ts : List Jvm.Cond) (a : Array Jvm.Value) (st : Jvm.State) : (allAtoms ts).before a st = ts.all (fun c => c.before a st) := by
  induction ts with
  | nil => rfl
  | cons c t ih =>
    show (Jvm.Cond.and c (allAtoms t)).before a st = _
    rw [Jvm.Cond.before_and, ih, List.all_cons]
def words1 : List Jvm.Cond := Jvm.Cond.code x code maxLocals ret :: tables_1
/-- a 'code' word, met by the world's own term for the bytes: nothing is compared byte by byte -/
theorem code_word {y : MethodName} {bytes : ByteArray} {mx : Nat} {rt : Option FieldType} {a : Array Value} {s : State} {m : MethodId} {meth : Method} {c : Code} (h1 : s.methodNamed? y = some m) (h2 : s.vm.method? m = some meth) (h3 : meth.code = some c) (h4 : c.code = bytes)
    (h5 : (c.maxLocals == mx && c.exceptionTable.isEmpty && decide (c.maxStack ≤ mostOperands) && decide (meth.sig.returnType = rt) && !meth.locks && decide (parseMethodDescriptor y.desc = some meth.sig)) = true) : (Jvm.Cond.code y bytes mx rt).before a s = true := by
  simp only [Bool.and_eq_true, beq_iff_eq, Bool.not_eq_true', decide_eq_true_eq] at h5
  obtain ⟨⟨⟨⟨⟨g1, g2⟩, g3⟩, g4⟩, g5⟩, g6⟩ := h5
  simp [Cond.before, Cond.holds, Cond.value, h1, h2, h3, h4, g1, g2, g3, g4, g5, g6]
def isCode : Jvm.Cond → Bool
  | .code _ _ _ _ => true
  | _ => false
theorem all_split {L : List Jvm.Cond} {P : Jvm.Cond → Bool} (h1 : L.all (fun c => isCode c || P c) = true) (h2 : ∀ c ∈ L.filter isCode, P c = true) : L.all P = true := by
  refine List.all_eq_true.mpr fun c hc => ?_
  have h := List.all_eq_true.mp h1 c hc
  rcases Bool.eq_false_or_eq_true (isCode c) with hi | hi
  · exact h2 c (List.mem_filter.mpr ⟨hc, hi⟩)
  · simpa [hi] using h
set_option maxRecDepth 65536 in
theorem w_c0 : (Jvm.Cond.code x code maxLocals ret).before args0 about1 = true := code_word (m := ⟨1, 1⟩) (meth := k1m1) (c := k1c1) (by decide +kernel) rfl rfl rfl (by decide +kernel)
set_option maxRecDepth 65536 in
theorem w_c1 : (Jvm.Cond.code ({ cls := "com/example/tenon/tenon/core/XmlElementDeclaredPinLaw", name := "key", desc := "(I)I" } : Jvm.MethodName) method_4_code (4 : Nat) (Option.some Jvm.ClassFile.FieldType.int)).before args0 about1 = true := code_word (m := ⟨1, 3⟩) (meth := k1m3) (c := k1c3) (by decide +kernel) rfl rfl rfl (by decide +kernel)
set_option maxRecDepth 65536 in
theorem w_c2 : (Jvm.Cond.code ({ cls := "com/example/tenon/tenon/core/XmlElementDeclaredPinLaw", name := "len", desc := "(I)I" } : Jvm.MethodName) method_3_code (2 : Nat) (Option.some Jvm.ClassFile.FieldType.int)).before args0 about1 = true := code_word (m := ⟨1, 2⟩) (meth := k1m2) (c := k1c2) (by decide +kernel) rfl rfl rfl (by decide +kernel)
set_option maxRecDepth 65536 in
theorem w_c3 : (Jvm.Cond.code ({ cls := "com/example/tenon/tenon/core/XmlElementDeclaredPinLaw", name := "mk", desc := "(I)Ljava/lang/String;" } : Jvm.MethodName) method_5_code (4 : Nat) (Option.some (Jvm.ClassFile.FieldType.object "java/lang/String"))).before args0 about1 = true := code_word (m := ⟨1, 4⟩) (meth := k1m4) (c := k1c4) (by decide +kernel) rfl rfl rfl (by decide +kernel)
set_option maxRecDepth 65536 in
theorem w_c4 : (Jvm.Cond.code ({ cls := "java/lang/String", name := "<init>", desc := "([C)V" } : Jvm.MethodName) jdk_42_method_3_code (2 : Nat) (Option.none : Option Jvm.ClassFile.FieldType)).before args0 about1 = true := code_word (m := ⟨7, 1⟩) (meth := k7m1) (c := k7c1) (by decide +kernel) rfl rfl rfl (by decide +kernel)
set_option maxRecDepth 65536 in
theorem w_c5 : (Jvm.Cond.code ({ cls := "java/lang/String", name := "<init>", desc := "([CIILjava/lang/Void;)V" } : Jvm.MethodName) jdk_42_method_149_code (6 : Nat) (Option.none : Option Jvm.ClassFile.FieldType)).before args0 about1 = true := code_word (m := ⟨7, 3⟩) (meth := k7m3) (c := k7c3) (by decide +kernel) rfl rfl rfl (by decide +kernel)
set_option maxRecDepth 65536 in
theorem w_c6 : (Jvm.Cond.code ({ cls := "java/lang/Object", name := "<init>", desc := "()V" } : Jvm.MethodName) object_method_1_code (1 : Nat) (Option.none : Option Jvm.ClassFile.FieldType)).before args0 about1 = true := code_word (m := ⟨0, 0⟩) (meth := k0m0) (c := k0c0) (by decide +kernel) rfl rfl rfl (by decide +kernel)
set_option maxRecDepth 65536 in
theorem w_c7 : (Jvm.Cond.code ({ cls := "java/lang/StringUTF16", name := "compress", desc := "([CII)[B" } : Jvm.MethodName) jdk_52_method_16_code (6 : Nat) (Option.some (Jvm.ClassFile.FieldType.array Jvm.ClassFile.FieldType.byte))).before args0 about1 = true := code_word (m := ⟨8, 2⟩) (meth := k8m2) (c := k8c2) (by decide +kernel) rfl rfl rfl (by decide +kernel)
set_option maxRecDepth 65536 in
theorem w_c8 : (Jvm.Cond.code ({ cls := "java/lang/StringUTF16", name := "compress", desc := "([CI[BII)I" } : Jvm.MethodName) jdk_52_method_21_code (7 : Nat) (Option.some Jvm.ClassFile.FieldType.int)).before args0 about1 = true := code_word (m := ⟨8, 3⟩) (meth := k8m3) (c := k8c3) (by decide +kernel) rfl rfl rfl (by decide +kernel)
set_option maxRecDepth 65536 in
theorem w_c9 : (Jvm.Cond.code ({ cls := "java/lang/StringUTF16", name := "coderFromArrayLen", desc := "([BI)B" } : Jvm.MethodName) jdk_52_method_15_code (2 : Nat) (Option.some Jvm.ClassFile.FieldType.byte)).before args0 about1 = true := code_word (m := ⟨8, 1⟩) (meth := k8m1) (c := k8c1) (by decide +kernel) rfl rfl rfl (by decide +kernel)
set_option maxRecDepth 65536 in
theorem w_c10 : (Jvm.Cond.code ({ cls := "com/example/tenon/tenon/core/XmlElement", name := "declared", desc := "([Ljava/lang/String;Ljava/lang/String;)Ljava/lang/String;" } : Jvm.MethodName) prog_85_method_13_code (3 : Nat) (Option.some (Jvm.ClassFile.FieldType.object "java/lang/String"))).before args0 about1 = true := code_word (m := ⟨9, 0⟩) (meth := k9m0) (c := k9c0) (by decide +kernel) rfl rfl rfl (by decide +kernel)
set_option maxRecDepth 65536 in
theorem w_c11 : (Jvm.Cond.code ({ cls := "java/lang/String", name := "equals", desc := "(Ljava/lang/Object;)Z" } : Jvm.MethodName) jdk_42_method_66_code (3 : Nat) (Option.some Jvm.ClassFile.FieldType.boolean)).before args0 about1 = true := code_word (m := ⟨7, 2⟩) (meth := k7m2) (c := k7c2) (by decide +kernel) rfl rfl rfl (by decide +kernel)
set_option maxRecDepth 65536 in
theorem w_c12 : (Jvm.Cond.code ({ cls := "java/lang/StringLatin1", name := "equals", desc := "([B[B)Z" } : Jvm.MethodName) jdk_43_method_13_code (3 : Nat) (Option.some Jvm.ClassFile.FieldType.boolean)).before args0 about1 = true := code_word (m := ⟨10, 1⟩) (meth := k10m1) (c := k10c1) (by decide +kernel) rfl rfl rfl (by decide +kernel)
def codes1 : List Jvm.Cond := [Jvm.Cond.code x code maxLocals ret, Jvm.Cond.code ({ cls := "com/example/tenon/tenon/core/XmlElementDeclaredPinLaw", name := "key", desc := "(I)I" } : Jvm.MethodName) method_4_code (4 : Nat) (Option.some Jvm.ClassFile.FieldType.int), Jvm.Cond.code ({ cls := "com/example/tenon/tenon/core/XmlElementDeclaredPinLaw", name := "len", desc := "(I)I" } : Jvm.MethodName) method_3_code (2 : Nat) (Option.some Jvm.ClassFile.FieldType.int), Jvm.Cond.code ({ cls := "com/example/tenon/tenon/core/XmlElementDeclaredPinLaw", name := "mk", desc := "(I)Ljava/lang/String;" } : Jvm.MethodName) method_5_code (4 : Nat) (Option.some (Jvm.ClassFile.FieldType.object "java/lang/String")), Jvm.Cond.code ({ cls := "java/lang/String", name := "<init>", desc := "([C)V" } : Jvm.MethodName) jdk_42_method_3_code (2 : Nat) (Option.none : Option Jvm.ClassFile.FieldType), Jvm.Cond.code ({ cls := "java/lang/String", name := "<init>", desc := "([CIILjava/lang/Void;)V" } : Jvm.MethodName) jdk_42_method_149_code (6 : Nat) (Option.none : Option Jvm.ClassFile.FieldType), Jvm.Cond.code ({ cls := "java/lang/Object", name := "<init>", desc := "()V" } : Jvm.MethodName) object_method_1_code (1 : Nat) (Option.none : Option Jvm.ClassFile.FieldType), Jvm.Cond.code ({ cls := "java/lang/StringUTF16", name := "compress", desc := "([CII)[B" } : Jvm.MethodName) jdk_52_method_16_code (6 : Nat) (Option.some (Jvm.ClassFile.FieldType.array Jvm.ClassFile.FieldType.byte)), Jvm.Cond.code ({ cls := "java/lang/StringUTF16", name := "compress", desc := "([CI[BII)I" } : Jvm.MethodName) jdk_52_method_21_code (7 : Nat) (Option.some Jvm.ClassFile.FieldType.int), Jvm.Cond.code ({ cls := "java/lang/StringUTF16", name := "coderFromArrayLen", desc := "([BI)B" } : Jvm.MethodName) jdk_52_method_15_code (2 : Nat) (Option.some Jvm.ClassFile.FieldType.byte), Jvm.Cond.code ({ cls := "com/example/tenon/tenon/core/XmlElement", name := "declared", desc := "([Ljava/lang/String;Ljava/lang/String;)Ljava/lang/String;" } : Jvm.MethodName) prog_85_method_13_code (3 : Nat) (Option.some (Jvm.ClassFile.FieldType.object "java/lang/String")), Jvm.Cond.code ({ cls := "java/lang/String", name := "equals", desc := "(Ljava/lang/Object;)Z" } : Jvm.MethodName) jdk_42_method_66_code (3 : Nat) (Option.some Jvm.ClassFile.FieldType.boolean), Jvm.Cond.code ({ cls := "java/lang/StringLatin1", name := "equals", desc := "([B[B)Z" } : Jvm.MethodName) jdk_43_method_13_code (3 : Nat) (Option.some Jvm.ClassFile.FieldType.boolean)]
set_option maxRecDepth 65536 in
theorem codes_eq : words1.filter isCode = codes1 := rfl
theorem w_codes : ∀ c ∈ words1.filter isCode, c.before args0 about1 = true := by
  rw [codes_eq]
  intro c hc
  simp only [codes1, List.mem_cons, List.not_mem_nil, or_false] at hc
  rcases hc with rfl | rfl | rfl | rfl | rfl | rfl | rfl | rfl | rfl | rfl | rfl | rfl | rfl
  · exact w_c0
  · exact w_c1
  · exact w_c2
  · exact w_c3
  · exact w_c4
  · exact w_c5
  · exact w_c6
  · exact w_c7
  · exact w_c8
  · exact w_c9
  · exact w_c10
  · exact w_c11
  · exact w_c12
set_option maxRecDepth 65536 in
theorem w_t1 : (words1.take 24).all (fun c => isCode c || c.before args0 about1) = true := by decide +kernel
set_option maxRecDepth 65536 in
theorem w_t2 : ((words1.drop 24).take 24).all (fun c => isCode c || c.before args0 about1) = true := by decide +kernel
set_option maxRecDepth 65536 in
theorem w_t3 : ((words1.drop 24).drop 24).all (fun c => isCode c || c.before args0 about1) = true := by decide +kernel
theorem w_tables : (allAtoms (Jvm.Cond.code x code maxLocals ret :: tables_1)).before args0 about1 = true := by
  rw [allAtoms_all]
  show words1.all (fun c => c.before args0 about1) = true
  refine all_split ?_ w_codes
  rw [← List.take_append_drop 24 words1, List.all_append, w_t1, ← List.take_append_drop 24 (words1.drop 24), List.all_append, w_t2, w_t3]
  rfl
set_option maxRecDepth 65536 in
theorem w_rest : rest_1_c.before args0 about1 = true := by decide +kernel
set_option maxRecDepth 65536 in
theorem w_case : (Jvm.Cond.and given_1 narrow_1).before args0 about1 = true := by decide +kernel
set_option maxRecDepth 65536 in
theorem w_consts : constsHeld consts_1 about1 := Jvm.Lit.constsHeldB_iff.mp (by decide +kernel)
theorem w_applies : (headSpec (Jvm.Cond.code x code maxLocals ret :: tables_1) room_1).applies x e0.platform about1 = true :=
  (Spec.applies_iff w_frames).mpr ⟨w_running, w_runnable, w_alone, w_named, w_hears, w_ripe, w_room, w_tables⟩
theorem atStart : AtStart classFile x code maxLocals ret World_1 tables_1 room_1 Calls_1 rest_1 Pre_1 launch0 p0 e0 about1 theMethod args0 below0 :=
  ⟨lists_1, trivial, launch0.admits_env _ _ _, launch0.least_env, fairChoices_fair.cas, fairChoices_fair.clock, w_frames, w_args, w_heap, w_applies, ⟨w_consts, trivial⟩, w_rest, w_case⟩
end start1
theorem witness_1 : WitnessClaimed_1 := ⟨start1.p0, start1.e0, start1.about1, start1.theMethod, start1.args0, start1.below0, start1.atStart⟩
end Jvm.Pilot.@@N@@
