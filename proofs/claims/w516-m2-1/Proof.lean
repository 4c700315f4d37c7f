import JvmDerived
import JvmDerived.Pilot.@@N@@Statement
import JvmDerived.Pilot.@@N@@Code
set_option linter.unusedVariables false
set_option linter.unusedSimpArgs false
@@BLOCK:NumsL.lean.txt@@
/- laws to paste: Road.backV (cut by pick.py; bodies as the Statement names them) -/
namespace Jvm.Pilot.@@N@@
namespace StrChars
open Jvm Sem ClassFile Op Lib Jvm.Stand Jvm.Free.XT Jvm.Free.ALB Jvm.Free.JM Jvm.Free
open Jvm.Lib.Cold (StaticIs)
/-- a char array whose places are chars -/
def Ch (a : Addr) (A : Cell) (U : State) : Prop := Arr .char a A U ∧ Typed .char A
theorem Ch.mv {a : Addr} {A : Cell} {U U' : State} (h : Ch a A U) (hal : U.vm.Alike U'.vm) (hh : U'.heap = U.heap) : Ch a A U' := ⟨h.1.mv hal hh, h.2⟩
theorem Ch.keep {a : Addr} {A : Cell} {U U' : State} (h : Ch a A U) (hal : U.vm.Alike U'.vm) (hk : U'.heap[a]? = some A) : Ch a A U' := ⟨h.1.keep hal hk, h.2⟩
/-- what place i of a char[]'s cell holds -/
def cv (A : Cell) (i : Nat) : Int32 := match A.slots[i]? with | some (.int x) => x | _ => 0
theorem Ch.get {a : Addr} {A : Cell} {U : State} (h : Ch a A U) {i : Nat} (hi : i < A.slots.size) : A.slots[i]? = some (.int (cv A i)) := by
  have e := Array.getElem?_eq_getElem hi
  have f := h.2 i _ e
  unfold cv; rw [e]
  generalize A.slots[i] = v at f
  cases v <;> simp [fits] at f ⊢
/-- the byte that i2b leaves of a char -/
def lo8 (x : Int32) : Int32 := x.toInt8.toInt32
theorem fits_lo8 (y : Int32) : fits .byte (.int (lo8 y)) = true := by
  have h1 := y.toInt8.le_toInt
  have h2 := y.toInt8.toInt_lt
  simp only [lo8, fits, Bool.and_eq_true, decide_eq_true_eq, Int32.le_iff_toInt_le, Int8.toInt_toInt32, show (-128 : Int32).toInt = -128 from by decide, show (127 : Int32).toInt = 127 from by decide]
  omega
/-- A' is A but that each place j of lo .. hi - 1 holds f j -/
def Laid (A A' : Cell) (lo hi : Nat) (f : Nat → Value) : Prop := A'.cls = A.cls ∧ A'.vm = A.vm ∧ A'.slots.size = A.slots.size ∧ ∀ i, A'.slots[i]? = if lo ≤ i ∧ i < hi then some (f i) else A.slots[i]?
theorem Laid.zero (A : Cell) (lo : Nat) (f : Nat → Value) : Laid A A lo (lo + 0) f := ⟨rfl, rfl, rfl, fun i => by rw [if_neg (by omega)]⟩
theorem Laid.step {A Ak : Cell} {lo k : Nat} {f : Nat → Value} {v : Value} (h : Laid A Ak lo k f) (hlo : lo ≤ k) (hk : k < Ak.slots.size) (hv : v = f k) : Laid A (Ak.setSlot k v) lo (k + 1) f := by
  refine ⟨h.1, h.2.1, by simpa [Cell.setSlot] using h.2.2.1, fun i => ?_⟩
  by_cases e : k = i
  · subst e; rw [Cell.slots_setSlot_self v hk, if_pos (by omega), hv]
  · rw [Cell.slots_setSlot_ne v e, h.2.2.2 i]
    by_cases q : lo ≤ i ∧ i < k
    · rw [if_pos q, if_pos (by omega)]
    · rw [if_neg q, if_neg (by omega)]
def U16 : String := "java/lang/StringUTF16"
namespace Cmp5
def yN : MethodName := ⟨"java/lang/StringUTF16", "compress", "([CI[BII)I"⟩
abbrev yB : ByteArray := jdk_52_method_21_code
theorem d0 : decode yB 0 = .ok (.iconst 0, 1) := by decide +kernel
theorem d1 : decode yB 1 = .ok (.istore 5, 2) := by decide +kernel
theorem d3 : decode yB 3 = .ok (.iload 5, 2) := by decide +kernel
theorem d5 : decode yB 5 = .ok (.iload 4, 2) := by decide +kernel
theorem d7 : decode yB 7 = .ok (.if_icmp (.ge) 37, 3) := by decide +kernel
theorem d10 : decode yB 10 = .ok (.aload_n 0, 1) := by decide +kernel
theorem d11 : decode yB 11 = .ok (.iload_n 1, 1) := by decide +kernel
theorem d12 : decode yB 12 = .ok (.caload, 1) := by decide +kernel
theorem d13 : decode yB 13 = .ok (.istore 6, 2) := by decide +kernel
theorem d15 : decode yB 15 = .ok (.iload 6, 2) := by decide +kernel
theorem d17 : decode yB 17 = .ok (.sipush 255, 3) := by decide +kernel
theorem d20 : decode yB 20 = .ok (.if_icmp (.le) 6, 3) := by decide +kernel
theorem d26 : decode yB 26 = .ok (.aload_n 2, 1) := by decide +kernel
theorem d27 : decode yB 27 = .ok (.iload_n 3, 1) := by decide +kernel
theorem d28 : decode yB 28 = .ok (.iload 6, 2) := by decide +kernel
theorem d30 : decode yB 30 = .ok (.i2b, 1) := by decide +kernel
theorem d31 : decode yB 31 = .ok (.bastore, 1) := by decide +kernel
theorem d32 : decode yB 32 = .ok (.iinc 1 1, 3) := by decide +kernel
theorem d35 : decode yB 35 = .ok (.iinc 3 1, 3) := by decide +kernel
theorem d38 : decode yB 38 = .ok (.iinc 5 1, 3) := by decide +kernel
theorem d41 : decode yB 41 = .ok (.goto (-38), 3) := by decide +kernel
theorem d44 : decode yB 44 = .ok (.iload 4, 2) := by decide +kernel
theorem d46 : decode yB 46 = .ok (.ireturn, 1) := by decide +kernel
def site : List Cond := []
def tab : Cond := tabOf yN yB 7 (some .int) site
def P (b : Addr) (A : Cell) (d : Addr) (B : Cell) (o q len : Nat) (args : Array Value) (s : State) : Prop := args = #[.ref b, .int (Int32.ofNat o), .ref d, .int (Int32.ofNat q), .int (Int32.ofNat len)] ∧ Ch b A s ∧ Arr .byte d B s ∧ b ≠ d ∧ o + len ≤ A.slots.size ∧ q + len ≤ B.slots.size ∧ ∀ i, i < len → ¬ 255 < cv A (o + i)
def E (b : Addr) (A : Cell) (d : Addr) (B : Cell) (o q len : Nat) (r : Option Value) (s u : State) : Prop := r = some (.int (Int32.ofNat len)) ∧ ∃ B', Put d B' s u ∧ Laid B B' q (q + len) (fun j => Value.int (lo8 (cv A (o + (j - q)))))
/-- no char of the range above 255: len; the places written hold each char's low byte -/
theorem law (l : Launch) (b : Addr) (A : Cell) (d : Addr) (B : Cell) (o q len : Nat) : Law l yN 5 5 0 0 yB 7 (some .int) site (P b A d B o q len) (E b A d B o q len) (copyLocs d q len) 0 0 := by
  refine Law.of_walk (plainFor_of_name (by decide +kernel)) (by decide +kernel) (by decide +kernel) (by decide) (fun _ _ h => by rw [h.1]; rfl) (fun _ U U' hal hh h => ⟨h.1, h.2.1.mv hal hh, h.2.2.1.mv hal hh, h.2.2.2⟩) (fun r U U' V V' h1 hal h2 h => ⟨h.1, h.2.elim fun B' q => ⟨B', q.1.mv h1 h2, q.2⟩⟩) ?_
  intro p e s m args below meth c s₁ X0 hexec hbytes hml hret hlk hnm hown hh0 W hP
  obtain ⟨rfl, hA, hB, hne, l1, l2, hp⟩ := hP
  have c1 : Steps p.tables e below (s₁.setTop (entryFrame m #[.ref b, .int (Int32.ofNat o), .ref d, .int (Int32.ofNat q), .int (Int32.ofNat len)] 7)) (s₁.setTop (mkF m 0 #[.val (.ref b), .val (.int (Int32.ofNat o)), .val (.ref d), .val (.int (Int32.ofNat q)), .val (.int (Int32.ofNat len)), .unset, .unset] [])) := entry rfl
  have hA0 := hA.1.mv X0.warmed.alike hh0
  have hB0 := hB.mv X0.warmed.alike hh0
  have a31 := hA.1.2.2.2
  have c2 : Steps p.tables e below (s₁.setTop (entryFrame m #[.ref b, .int (Int32.ofNat o), .ref d, .int (Int32.ofNat q), .int (Int32.ofNat len)] 7)) (s₁.setTop (mkF m 3 #[.val (.ref b), .val (.int (Int32.ofNat o)), .val (.ref d), .val (.int (Int32.ofNat q)), .val (.int (Int32.ofNat len)), .val (.int 0), .unset] [])) := c1.trans (by
    refine iconstV X0.here hexec rfl 0 (hb hbytes d0) (by decide) ?_
    refine XS.istore X0.here hexec rfl (hb hbytes d1) rfl rfl ?_
    exact Steps.refl _)
  have loop : ∀ (r i : Nat), i + r = len → ∀ (z : Slot), (z = .unset ∨ ∃ w, z = .val w ∧ w.category = 1) → ∀ (Tl : State) (Bk : Cell), Stand p l e { frames := 0, locals := 0, cells := 0, slots := 0 } s m #[.ref b, .int (Int32.ofNat o), .ref d, .int (Int32.ofNat q), .int (Int32.ofNat len)] below meth c Tl ([] ++ copyLocs d q i) 0 0 → Put d Bk s₁ Tl → Laid B Bk q (q + i) (fun j => Value.int (lo8 (cv A (o + (j - q))))) →
      Steps p.tables e below (s₁.setTop (entryFrame m #[.ref b, .int (Int32.ofNat o), .ref d, .int (Int32.ofNat q), .int (Int32.ofNat len)] 7)) (Tl.setTop (mkF m 3 #[.val (.ref b), .val (.int (Int32.ofNat (o + i))), .val (.ref d), .val (.int (Int32.ofNat (q + i))), .val (.int (Int32.ofNat len)), .val (.int (Int32.ofNat i)), z] [])) → ∃ (T' : State) (B' : Cell) (z' : Slot), Stand p l e { frames := 0, locals := 0, cells := 0, slots := 0 } s m #[.ref b, .int (Int32.ofNat o), .ref d, .int (Int32.ofNat q), .int (Int32.ofNat len)] below meth c T' ([] ++ copyLocs d q len) 0 0 ∧ Put d B' s₁ T' ∧ Laid B B' q (q + len) (fun j => Value.int (lo8 (cv A (o + (j - q))))) ∧
      Steps p.tables e below (s₁.setTop (entryFrame m #[.ref b, .int (Int32.ofNat o), .ref d, .int (Int32.ofNat q), .int (Int32.ofNat len)] 7)) (T'.setTop (mkF m 3 #[.val (.ref b), .val (.int (Int32.ofNat (o + len))), .val (.ref d), .val (.int (Int32.ofNat (q + len))), .val (.int (Int32.ofNat len)), .val (.int (Int32.ofNat len)), z'] [])) := by
    intro r
    induction r with
    | zero =>
      intro i hi z hz Tl Bk Xl pl fl cl
      have hil : i = len := by omega
      rw [hil] at Xl fl cl
      exact ⟨Tl, Bk, z, Xl, pl, fl, cl⟩
    | succ r ih =>
      intro i hi z hz Tl Bk Xl pl fl cl
      have all := X0.warmed.alike.symm.trans Xl.warmed.alike
      have hAl := hA0.keep all (pl.other hne hA0.1)
      have hBk := hB0.like all pl.1 fl.1 fl.2.1 fl.2.2.1
      have hlt : q + i < Bk.slots.size := by rw [fl.2.2.1]; omega
      have c3 : Steps p.tables e below (s₁.setTop (entryFrame m #[.ref b, .int (Int32.ofNat o), .ref d, .int (Int32.ofNat q), .int (Int32.ofNat len)] 7)) (Tl.setTop (mkF m 12 #[.val (.ref b), .val (.int (Int32.ofNat (o + i))), .val (.ref d), .val (.int (Int32.ofNat (q + i))), .val (.int (Int32.ofNat len)), .val (.int (Int32.ofNat i)), z] [.int (Int32.ofNat (o + i)), .ref b])) := cl.trans (by
        refine XS.iload Xl.here hexec rfl (hb hbytes d3) rfl ?_
        refine XS.iload Xl.here hexec rfl (hb hbytes d5) rfl ?_
        refine XS.icmpNo Xl.here hexec rfl (hb hbytes d7) rfl (ii_ge_f (lt32 (by omega) (by omega))) ?_
        refine XS.aloadN Xl.here hexec rfl (hb hbytes d10) rfl rfl ?_
        refine XS.iloadN Xl.here hexec rfl (hb hbytes d11) rfl ?_
        exact Steps.refl _)
      have c4 : Steps p.tables e below (s₁.setTop (entryFrame m #[.ref b, .int (Int32.ofNat o), .ref d, .int (Int32.ofNat q), .int (Int32.ofNat len)] 7)) (Tl.setTop (mkF m 13 #[.val (.ref b), .val (.int (Int32.ofNat (o + i))), .val (.ref d), .val (.int (Int32.ofNat (q + i))), .val (.int (Int32.ofNat len)), .val (.int (Int32.ofNat i)), z] [.int (cv A (o + i))])) := c3.trans (by
        refine Xl.aget hexec hAl rfl (hA.get (i := o + i) (by omega)) rfl rfl (hb hbytes d12) ?_
        exact Steps.refl _)
      have c5 : Steps p.tables e below (s₁.setTop (entryFrame m #[.ref b, .int (Int32.ofNat o), .ref d, .int (Int32.ofNat q), .int (Int32.ofNat len)] 7)) (Tl.setTop (mkF m 15 #[.val (.ref b), .val (.int (Int32.ofNat (o + i))), .val (.ref d), .val (.int (Int32.ofNat (q + i))), .val (.int (Int32.ofNat len)), .val (.int (Int32.ofNat i)), .val (.int (cv A (o + i)))] [])) := c4.trans (by
        refine XS.istoreS Xl.here hexec rfl (hb hbytes d13) rfl rfl hz ?_
        exact Steps.refl _)
      have c6 : Steps p.tables e below (s₁.setTop (entryFrame m #[.ref b, .int (Int32.ofNat o), .ref d, .int (Int32.ofNat q), .int (Int32.ofNat len)] 7)) (Tl.setTop (mkF m 31 #[.val (.ref b), .val (.int (Int32.ofNat (o + i))), .val (.ref d), .val (.int (Int32.ofNat (q + i))), .val (.int (Int32.ofNat len)), .val (.int (Int32.ofNat i)), .val (.int (cv A (o + i)))] [.int (lo8 (cv A (o + i))), .int (Int32.ofNat (q + i)), .ref d])) := c5.trans (by
        refine XS.iload Xl.here hexec rfl (hb hbytes d15) rfl ?_
        refine sipushV Xl.here hexec rfl 255 (hb hbytes d17) (by decide) ?_
        refine XS.icmpYes Xl.here hexec rfl (pc0 := 20) rfl (hb hbytes d20) rfl (ii_le_t (hp i (by omega))) (by decide) rfl ?_
        refine XS.aloadN Xl.here hexec rfl (hb hbytes d26) rfl rfl ?_
        refine XS.iloadN Xl.here hexec rfl (hb hbytes d27) rfl ?_
        refine XS.iload Xl.here hexec rfl (hb hbytes d28) rfl ?_
        refine i2b Xl.here hexec rfl (hb hbytes d30) rfl ?_
        exact Steps.refl _)
      obtain ⟨T7, X7, p7, st7⟩ := Xl.aput hexec hBk rfl hlt rfl (fits_lo8 (cv A (o + i))) (g := (mkF m 31 #[.val (.ref b), .val (.int (Int32.ofNat (o + i))), .val (.ref d), .val (.int (Int32.ofNat (q + i))), .val (.int (Int32.ofNat len)), .val (.int (Int32.ofNat i)), .val (.int (cv A (o + i)))] [.int (lo8 (cv A (o + i))), .int (Int32.ofNat (q + i)), .ref d])) rfl (rest := []) rfl (hb hbytes d31)
      have c8 : Steps p.tables e below (s₁.setTop (entryFrame m #[.ref b, .int (Int32.ofNat o), .ref d, .int (Int32.ofNat q), .int (Int32.ofNat len)] 7)) (T7.setTop (mkF m 32 #[.val (.ref b), .val (.int (Int32.ofNat (o + i))), .val (.ref d), .val (.int (Int32.ofNat (q + i))), .val (.int (Int32.ofNat len)), .val (.int (Int32.ofNat i)), .val (.int (cv A (o + i)))] [])) := c6.trans (st7 _ (Steps.refl _))
      have c9 : Steps p.tables e below (s₁.setTop (entryFrame m #[.ref b, .int (Int32.ofNat o), .ref d, .int (Int32.ofNat q), .int (Int32.ofNat len)] 7)) (T7.setTop (mkF m 3 #[.val (.ref b), .val (.int (Int32.ofNat (o + i) + 1)), .val (.ref d), .val (.int (Int32.ofNat (q + i) + 1)), .val (.int (Int32.ofNat len)), .val (.int (Int32.ofNat i + 1)), .val (.int (cv A (o + i)))] [])) := c8.trans (by
        refine iincV X7.here hexec rfl 1 (hb hbytes d32) (by decide) rfl rfl ?_
        refine iincV X7.here hexec rfl 1 (hb hbytes d35) (by decide) rfl rfl ?_
        refine iincV X7.here hexec rfl 1 (hb hbytes d38) (by decide) rfl rfl ?_
        refine XS.goto X7.here hexec rfl (pc0 := 41) rfl (hb hbytes d41) (by decide) rfl ?_
        exact Steps.refl _)
      have c10 : Steps p.tables e below (s₁.setTop (entryFrame m #[.ref b, .int (Int32.ofNat o), .ref d, .int (Int32.ofNat q), .int (Int32.ofNat len)] 7)) (T7.setTop (mkF m 3 #[.val (.ref b), .val (.int (Int32.ofNat (o + (i + 1)))), .val (.ref d), .val (.int (Int32.ofNat (q + (i + 1)))), .val (.int (Int32.ofNat len)), .val (.int (Int32.ofNat (i + 1))), .val (.int (cv A (o + i)))] [])) := by
        have := c9
        rw [succ32, succ32, succ32] at this
        exact this
      exact ih (i + 1) (by omega) _ (Or.inr ⟨_, rfl, rfl⟩) T7 _ (by rw [copyLocs_step, ← List.append_assoc]; exact X7) (pl.trans p7) (fl.step (by omega) hlt (by simp)) c10
  obtain ⟨T9, B9, z9, X9, p9, f9, g9⟩ := loop len 0 (by omega) .unset (Or.inl rfl) s₁ B (by simpa [copyLocs] using X0) ⟨hB0.1, fun _ _ => rfl, rfl⟩ (Laid.zero _ _ _) c2
  have c11 : Steps p.tables e below (s₁.setTop (entryFrame m #[.ref b, .int (Int32.ofNat o), .ref d, .int (Int32.ofNat q), .int (Int32.ofNat len)] 7)) (T9.setTop (mkF m 46 #[.val (.ref b), .val (.int (Int32.ofNat (o + len))), .val (.ref d), .val (.int (Int32.ofNat (q + len))), .val (.int (Int32.ofNat len)), .val (.int (Int32.ofNat len)), z9] [.int (Int32.ofNat len)])) := g9.trans (by
    refine XS.iload X9.here hexec rfl (hb hbytes d3) rfl ?_
    refine XS.iload X9.here hexec rfl (hb hbytes d5) rfl ?_
    refine XS.icmpYes X9.here hexec rfl (pc0 := 7) rfl (hb hbytes d7) rfl (ii_ge_t (nlt32 (by omega) (Nat.le_refl _))) (by decide) rfl ?_
    refine XS.iload X9.here hexec rfl (hb hbytes d44) rfl ?_
    exact Steps.refl _)
  exact ⟨T9, some (.int (Int32.ofNat len)), _, _, _, X9, by simp, rfl, rfl, (fun h => by cases h), ⟨rfl, B9, p9.from hh0, f9⟩, fun fs hl => c11.trans (X9.ireturnOut hexec hret rfl (Or.inl rfl) (hb hbytes d46) hl)⟩
end Cmp5
namespace Cmp3
def yN : MethodName := ⟨"java/lang/StringUTF16", "compress", "([CII)[B"⟩
abbrev yB : ByteArray := jdk_52_method_16_code
theorem d0 : decode yB 0 = .ok (.iload_n 2, 1) := by decide +kernel
theorem d1 : decode yB 1 = .ok (.newarray .byte, 2) := by decide +kernel
theorem d3 : decode yB 3 = .ok (.astore_n 3, 1) := by decide +kernel
theorem d4 : decode yB 4 = .ok (.aload_n 0, 1) := by decide +kernel
theorem d5 : decode yB 5 = .ok (.iload_n 1, 1) := by decide +kernel
theorem d6 : decode yB 6 = .ok (.aload_n 3, 1) := by decide +kernel
theorem d7 : decode yB 7 = .ok (.iconst 0, 1) := by decide +kernel
theorem d8 : decode yB 8 = .ok (.iload_n 2, 1) := by decide +kernel
theorem d9 : decode yB 9 = .ok (.invokestatic 115, 3) := by decide +kernel
theorem d12 : decode yB 12 = .ok (.istore 4, 2) := by decide +kernel
theorem d14 : decode yB 14 = .ok (.iload 4, 2) := by decide +kernel
theorem d16 : decode yB 16 = .ok (.iload_n 2, 1) := by decide +kernel
theorem d17 : decode yB 17 = .ok (.if_icmp (.eq) 40, 3) := by decide +kernel
theorem d57 : decode yB 57 = .ok (.aload_n 3, 1) := by decide +kernel
theorem d58 : decode yB 58 = .ok (.areturn, 1) := by decide +kernel
def site : List Cond := [.arrayClass .byte, Cmp5.tab] ++ staticW U16 115 Cmp5.yN
def tab : Cond := tabOf yN yB 6 (some (.array .byte)) site
def P (b : Addr) (A : Cell) (o len : Nat) (args : Array Value) (s : State) : Prop := args = #[.ref b, .int (Int32.ofNat o), .int (Int32.ofNat len)] ∧ Ch b A s ∧ o + len ≤ A.slots.size ∧ len ≤ 536870912 ∧ ∀ i, i < len → ¬ 255 < cv A (o + i)
def E (b : Addr) (A : Cell) (o len : Nat) (r : Option Value) (s u : State) : Prop := NewArr .byte "[B" len (fun j => .int (lo8 (cv A (o + j)))) r s u ∧ u.heap.size = s.heap.size + 1
/-- no char of the range above 255: a new byte[] of their low bytes -/
theorem law (l : Launch) (b : Addr) (A : Cell) (o len : Nat) : Law l yN 3 3 1 18 yB 6 (some (.array .byte)) site (P b A o len) (E b A o len) [] 1 len := by
  refine Law.of_walk (plainFor_of_name (by decide +kernel)) (by decide +kernel) (by decide +kernel) (by decide) (fun _ _ h => by rw [h.1]; rfl) (fun _ U U' hal hh h => ⟨h.1, h.2.1.mv hal hh, h.2.2⟩) (fun r U U' V V' h1 hal h2 h => ⟨NewArr.mv r U U' V V' h1 hal h2 h.1, by rw [h1, h2]; exact h.2⟩) ?_
  intro p e s m args below meth c s₁ X0 hexec hbytes hml hret hlk hnm hown hh0 W hP
  obtain ⟨rfl, hA, l1, l2, hp⟩ := hP
  have a31 := hA.1.2.2.2
  have c1 : Steps p.tables e below (s₁.setTop (entryFrame m #[.ref b, .int (Int32.ofNat o), .int (Int32.ofNat len)] 6)) (s₁.setTop (mkF m 0 #[.val (.ref b), .val (.int (Int32.ofNat o)), .val (.int (Int32.ofNat len)), .unset, .unset, .unset] [])) := entry rfl
  have c2 : Steps p.tables e below (s₁.setTop (entryFrame m #[.ref b, .int (Int32.ofNat o), .int (Int32.ofNat len)] 6)) (s₁.setTop (mkF m 1 #[.val (.ref b), .val (.int (Int32.ofNat o)), .val (.int (Int32.ofNat len)), .unset, .unset, .unset] [.int (Int32.ofNat len)])) := c1.trans (by
    refine XS.iloadN X0.here hexec rfl (hb hbytes d0) rfl ?_
    exact Steps.refl _)
  obtain ⟨T3, B3, X3, ba3, bs3, bv3, bh3, bf3, st3⟩ := X0.anew hexec (atype := .byte) (wk W (.arrayClass .byte)) rfl (by show len * 1 ≤ _; omega) (by omega) (g := (mkF m 1 #[.val (.ref b), .val (.int (Int32.ofNat o)), .val (.int (Int32.ofNat len)), .unset, .unset, .unset] [.int (Int32.ofNat len)])) rfl (hb hbytes d1) (rest := []) rfl (Nat.le_refl _) (by show 0 + len ≤ len; omega)
  rw [hh0] at ba3 st3
  have kp3 : XT.Kept s T3 := (XT.Kept.of_eq hh0).push bh3
  have hA3 := hA.keep X3.warmed.alike (kp3 _ _ hA.1.1)
  have hne : b ≠ s.heap.size := hA.1.ne
  have c4 : Steps p.tables e below (s₁.setTop (entryFrame m #[.ref b, .int (Int32.ofNat o), .int (Int32.ofNat len)] 6)) (T3.setTop (mkF m 3 #[.val (.ref b), .val (.int (Int32.ofNat o)), .val (.int (Int32.ofNat len)), .unset, .unset, .unset] [.ref s.heap.size])) := c2.trans (st3 _ (Steps.refl _))
  have c5 : Steps p.tables e below (s₁.setTop (entryFrame m #[.ref b, .int (Int32.ofNat o), .int (Int32.ofNat len)] 6)) (T3.setTop (mkF m 9 #[.val (.ref b), .val (.int (Int32.ofNat o)), .val (.int (Int32.ofNat len)), .val (.ref s.heap.size), .unset, .unset] [.int (Int32.ofNat len), .int 0, .ref s.heap.size, .int (Int32.ofNat o), .ref b])) := c4.trans (by
    refine XS.astoreN X3.here hexec rfl (hb hbytes d3) rfl rfl rfl ?_
    refine XS.aloadN X3.here hexec rfl (hb hbytes d4) rfl rfl ?_
    refine XS.iloadN X3.here hexec rfl (hb hbytes d5) rfl ?_
    refine XS.aloadN X3.here hexec rfl (hb hbytes d6) rfl rfl ?_
    refine iconstV X3.here hexec rfl 0 (hb hbytes d7) (by decide) ?_
    refine XS.iloadN X3.here hexec rfl (hb hbytes d8) rfl ?_
    exact Steps.refl _)
  obtain ⟨v6, T6, X6, E6, g6⟩ := X3.callS hexec (Cmp5.law l b A s.heap.size B3 o 0 len) hown (wks W (staticW U16 115 Cmp5.yN)) (wk W Cmp5.tab) (W := 0) (Nat.le_of_ble_eq_true rfl) (Nat.le_of_ble_eq_true rfl) (Nat.le_refl _) (by show 0 + len + 0 ≤ len; omega) (g := (mkF m 9 #[.val (.ref b), .val (.int (Int32.ofNat o)), .val (.int (Int32.ofNat len)), .val (.ref s.heap.size), .unset, .unset] [.int (Int32.ofNat len), .int (Int32.ofNat 0), .ref s.heap.size, .int (Int32.ofNat o), .ref b])) rfl (by rw [hml]; rfl) c5 (argsL := [.ref b, .int (Int32.ofNat o), .ref s.heap.size, .int (Int32.ofNat 0), .int (Int32.ofNat len)]) (rest := []) rfl rfl (by show 2 * 0 + 0 ≤ _; decide) (hb hbytes d9) (⟨rfl, hA3, ba3, hne, l1, by rw [bs3]; simp, hp⟩)
  obtain ⟨rfl, B6, p6, f6⟩ := E6
  have c7 : Steps p.tables e below (s₁.setTop (entryFrame m #[.ref b, .int (Int32.ofNat o), .int (Int32.ofNat len)] 6)) (T6.setTop (mkF m 12 #[.val (.ref b), .val (.int (Int32.ofNat o)), .val (.int (Int32.ofNat len)), .val (.ref s.heap.size), .unset, .unset] [.int (Int32.ofNat len)])) := g6
  have c8 : Steps p.tables e below (s₁.setTop (entryFrame m #[.ref b, .int (Int32.ofNat o), .int (Int32.ofNat len)] 6)) (T6.setTop (mkF m 58 #[.val (.ref b), .val (.int (Int32.ofNat o)), .val (.int (Int32.ofNat len)), .val (.ref s.heap.size), .val (.int (Int32.ofNat len)), .unset] [.ref s.heap.size])) := c7.trans (by
    refine XS.istore X6.here hexec rfl (hb hbytes d12) rfl rfl ?_
    refine XS.iload X6.here hexec rfl (hb hbytes d14) rfl ?_
    refine XS.iloadN X6.here hexec rfl (hb hbytes d16) rfl ?_
    refine XS.icmpYes X6.here hexec rfl (pc0 := 17) rfl (hb hbytes d17) rfl (ii_eq_t rfl) (by decide) rfl ?_
    refine XS.aloadN X6.here hexec rfl (hb hbytes d57) rfl rfl ?_
    exact Steps.refl _)
  have X8 := X6.wide (L' := []) (cells' := 1) (slots' := len) (fun x hx hlt => by
    simp only [List.nil_append, copyLocs, List.mem_map, List.mem_range] at hx
    obtain ⟨i, -, rfl⟩ := hx
    exact absurd hlt (Nat.lt_irrefl _)) (Nat.le_refl _) (by omega)
  exact ⟨T6, some (.ref s.heap.size), _, _, _, X8, rfl, rfl, rfl, (fun h => by cases h), ⟨⟨rfl, B6, ba3.like (X3.warmed.alike.symm.trans X6.warmed.alike) p6.1 f6.1 f6.2.1 f6.2.2.1, f6.2.1.trans bv3, by rw [X6.warmed.alike.findClass, f6.1]; exact bf3, by rw [f6.2.2.1, bs3]; simp, fun j hj => by rw [f6.2.2.2 j, if_pos (by omega)]; rfl, kp3.put p6 (Nat.le_refl _)⟩, by rw [p6.2.2, bh3, hh0]; simp⟩, fun fs hl => c8.trans (X8.areturnOut hexec rfl hret rfl (hb hbytes d58) hl)⟩
end Cmp3
namespace CodL
def yN : MethodName := ⟨"java/lang/StringUTF16", "coderFromArrayLen", "([BI)B"⟩
abbrev yB : ByteArray := jdk_52_method_15_code
theorem d0 : decode yB 0 = .ok (.iload_n 1, 1) := by decide +kernel
theorem d1 : decode yB 1 = .ok (.aload_n 0, 1) := by decide +kernel
theorem d2 : decode yB 2 = .ok (.arraylength, 1) := by decide +kernel
theorem d3 : decode yB 3 = .ok (.isub, 1) := by decide +kernel
theorem d4 : decode yB 4 = .ok (.bipush 31, 2) := by decide +kernel
theorem d6 : decode yB 6 = .ok (.iushr, 1) := by decide +kernel
theorem d7 : decode yB 7 = .ok (.i2b, 1) := by decide +kernel
theorem d8 : decode yB 8 = .ok (.ireturn, 1) := by decide +kernel
def site : List Cond := []
def tab : Cond := tabOf yN yB 2 (some .byte) site
def P (d : Addr) (B : Cell) (args : Array Value) (s : State) : Prop := args = #[.ref d, .int (Int32.ofNat B.slots.size)] ∧ Arr .byte d B s
def E (r : Option Value) (s u : State) : Prop := XT.PureE (some (.int 0)) r s u
/-- an array as long as the number of chars: LATIN1 -/
theorem law (l : Launch) (d : Addr) (B : Cell) : Law l yN 2 2 0 0 yB 2 (some .byte) site (P d B) E [] 0 0 := by
  refine Law.of_walk (plainFor_of_name (by decide +kernel)) (by decide +kernel) (by decide +kernel) (by decide) (fun _ _ h => by rw [h.1]; rfl) (fun _ U U' hal hh h => ⟨h.1, h.2.mv hal hh⟩) (fun r U U' V V' h1 hal h2 h => XT.PureE.mv r U U' V V' h1 hal h2 h) ?_
  intro p e s m args below meth c s₁ X0 hexec hbytes hml hret hlk hnm hown hh0 W hP
  obtain ⟨rfl, hB⟩ := hP
  have hB0 := hB.mv X0.warmed.alike hh0
  have c1 : Steps p.tables e below (s₁.setTop (entryFrame m #[.ref d, .int (Int32.ofNat B.slots.size)] 2)) (s₁.setTop (mkF m 0 #[.val (.ref d), .val (.int (Int32.ofNat B.slots.size))] [])) := entry rfl
  have c2 : Steps p.tables e below (s₁.setTop (entryFrame m #[.ref d, .int (Int32.ofNat B.slots.size)] 2)) (s₁.setTop (mkF m 2 #[.val (.ref d), .val (.int (Int32.ofNat B.slots.size))] [.ref d, .int (Int32.ofNat B.slots.size)])) := c1.trans (by
    refine XS.iloadN X0.here hexec rfl (hb hbytes d0) rfl ?_
    refine XS.aloadN X0.here hexec rfl (hb hbytes d1) rfl rfl ?_
    exact Steps.refl _)
  have c3 : Steps p.tables e below (s₁.setTop (entryFrame m #[.ref d, .int (Int32.ofNat B.slots.size)] 2)) (s₁.setTop (mkF m 8 #[.val (.ref d), .val (.int (Int32.ofNat B.slots.size))] [.int (lo8 (ushr (Int32.ofNat B.slots.size - Int32.ofNat B.slots.size) 31))])) := c2.trans (by
    refine X0.alen hexec hB0 rfl rfl (hb hbytes d2) ?_
    refine XS.isub X0.here hexec rfl (hb hbytes d3) rfl ?_
    refine bipushV X0.here hexec rfl 31 (hb hbytes d4) (by decide) ?_
    refine iushr X0.here hexec rfl (hb hbytes d6) rfl ?_
    refine i2b X0.here hexec rfl (hb hbytes d7) rfl ?_
    exact Steps.refl _)
  have e0 : lo8 (ushr (Int32.ofNat B.slots.size - Int32.ofNat B.slots.size) 31) = 0 := by rw [Int32.sub_self]; decide
  rw [e0] at c3
  exact ⟨s₁, some (.int 0), _, _, _, X0, rfl, rfl, rfl, (fun h => by cases h), ⟨rfl, hh0⟩, fun fs hl => c3.trans (X0.ireturnOut hexec hret rfl (Or.inr (Or.inr (Or.inl rfl))) (hb hbytes d8) hl)⟩
end CodL
/-- the String at a is Latin-1 over a new byte[] (the heap's one new cell): the low bytes of the len chars of A from o on; every cell but a is kept -/
def Got (a : Addr) (D : Cell) (fV fC : Field) (A : Cell) (o len : Nat) (r : Option Value) (s u : State) : Prop := r = none ∧ ∃ D' V : Cell, Blank "java/lang/String" a D' u ∧ Same D D' [fV.slot, fC.slot] ∧ D'.slots[fV.slot]? = some (.ref s.heap.size) ∧ D'.slots[fC.slot]? = some (.int 0) ∧ Arr .byte s.heap.size V u ∧ V.vm = .none ∧ u.vm.findClass "[B" = some V.cls ∧ V.slots.size = len ∧ (∀ j, j < len → V.slots[j]? = some (.int (lo8 (cv A (o + j))))) ∧ (∀ (y : Addr) (c : Cell), y ≠ a → s.heap[y]? = some c → u.heap[y]? = some c) ∧ u.heap.size = s.heap.size + 1
theorem Got.mv {a : Addr} {D A : Cell} {fV fC : Field} {o len : Nat} : ∀ r (U U' V V' : State), U'.heap = U.heap → V.vm.Alike V'.vm → V'.heap = V.heap → Got a D fV fC A o len r U V → Got a D fV fC A o len r U' V' :=
  fun r U U' V V' h1 hal h2 ⟨e0, D', X, a1, a2, a3, a4, a5, a6, a7, a8, a9, a10, a11⟩ => ⟨e0, D', X, a1.mv hal h2, a2, by rw [h1]; exact a3, a4, by rw [h1]; exact a5.mv hal h2, a6, by rw [hal.findClass]; exact a7, a8, a9, by rw [h1, h2]; exact a10, by rw [h1, h2]; exact a11⟩
namespace New4
def yN : MethodName := ⟨"java/lang/String", "<init>", "([CIILjava/lang/Void;)V"⟩
abbrev yB : ByteArray := jdk_42_method_149_code
theorem d0 : decode yB 0 = .ok (.aload_n 0, 1) := by decide +kernel
theorem d1 : decode yB 1 = .ok (.invokespecial 1, 3) := by decide +kernel
theorem d4 : decode yB 4 = .ok (.iload_n 3, 1) := by decide +kernel
theorem d5 : decode yB 5 = .ok (.ifCond (.ne) 22, 3) := by decide +kernel
theorem d27 : decode yB 27 = .ok (.getstatic 38, 3) := by decide +kernel
theorem d30 : decode yB 30 = .ok (.ifCond (.eq) 28, 3) := by decide +kernel
theorem d33 : decode yB 33 = .ok (.aload_n 1, 1) := by decide +kernel
theorem d34 : decode yB 34 = .ok (.iload_n 2, 1) := by decide +kernel
theorem d35 : decode yB 35 = .ok (.iload_n 3, 1) := by decide +kernel
theorem d36 : decode yB 36 = .ok (.invokestatic 177, 3) := by decide +kernel
theorem d39 : decode yB 39 = .ok (.astore 5, 2) := by decide +kernel
theorem d41 : decode yB 41 = .ok (.aload_n 0, 1) := by decide +kernel
theorem d42 : decode yB 42 = .ok (.aload 5, 2) := by decide +kernel
theorem d44 : decode yB 44 = .ok (.iload_n 3, 1) := by decide +kernel
theorem d45 : decode yB 45 = .ok (.invokestatic 47, 3) := by decide +kernel
theorem d48 : decode yB 48 = .ok (.putfield 15, 3) := by decide +kernel
theorem d51 : decode yB 51 = .ok (.aload_n 0, 1) := by decide +kernel
theorem d52 : decode yB 52 = .ok (.aload 5, 2) := by decide +kernel
theorem d54 : decode yB 54 = .ok (.putfield 9, 3) := by decide +kernel
theorem d57 : decode yB 57 = .ok (.return_, 1) := by decide +kernel
def site : List Cond := [.fieldLink "java/lang/String" 38 "java/lang/String" "COMPACT_STRINGS" "Z", Cmp3.tab, CodL.tab, .laysFinal "java/lang/String" "java/lang/String" "value" "[B", .fieldLink "java/lang/String" 9 "java/lang/String" "value" "[B", .laysFinal "java/lang/String" "java/lang/String" "coder" "B", .fieldLink "java/lang/String" 15 "java/lang/String" "coder" "B"] ++ objW "java/lang/String" 1 ++ staticW "java/lang/String" 177 Cmp3.yN ++ staticW "java/lang/String" 47 CodL.yN
def tab : Cond := tabOf yN yB 6 none site
def P (a : Addr) (D : Cell) (fV fC : Field) (b : Addr) (A : Cell) (z : Int32) (o len : Nat) (args : Array Value) (s : State) : Prop := args = #[.ref a, .ref b, .int (Int32.ofNat o), .int (Int32.ofNat len), .null] ∧ Blank "java/lang/String" a D s ∧ Found "java/lang/String" "value" "[B" fV s ∧ Found "java/lang/String" "coder" "B" fC s ∧ Ch b A s ∧ StaticIs s "java/lang/String" "COMPACT_STRINGS" "Z" (.int z) ∧ ¬ z = 0 ∧ 0 < len ∧ o + len ≤ A.slots.size ∧ len ≤ 536870912 ∧ ∀ i, i < len → ¬ 255 < cv A (o + i)
def E (a : Addr) (D : Cell) (fV fC : Field) (A : Cell) (o len : Nat) (r : Option Value) (s u : State) : Prop := Got a D fV fC A o len r s u
/-- len > 0, no char of the range above 255: a Latin-1 String of their low bytes -/
theorem law (l : Launch) (a : Addr) (D : Cell) (fV fC : Field) (b : Addr) (A : Cell) (z : Int32) (o len : Nat) : Law l yN 5 4 2 35 yB 6 none site (P a D fV fC b A z o len) (E a D fV fC A o len) [⟨a, fC.slot⟩, ⟨a, fV.slot⟩] 1 len := by
  refine Law.of_walk (plainFor_of_name (by decide +kernel)) (by decide +kernel) (by decide +kernel) (by decide) (fun _ _ h => by rw [h.1]; rfl) (fun _ U U' hal hh h => ⟨h.1, h.2.1.mv hal hh, h.2.2.1.al hal, h.2.2.2.1.al hal, h.2.2.2.2.1.mv hal hh, h.2.2.2.2.2.1.there hal hh, h.2.2.2.2.2.2⟩) (fun r U U' V V' h1 hal h2 h => Got.mv r U U' V V' h1 hal h2 h) ?_
  intro p e s m args below meth c s₁ X0 hexec hbytes hml hret hlk hnm hown hh0 W hP
  obtain ⟨rfl, hB, f1, f2, hA, s1, hz, l0, l1, l2, hp⟩ := hP
  have a31 := hA.1.2.2.2
  have c1 : Steps p.tables e below (s₁.setTop (entryFrame m #[.ref a, .ref b, .int (Int32.ofNat o), .int (Int32.ofNat len), .null] 6)) (s₁.setTop (mkF m 0 #[.val (.ref a), .val (.ref b), .val (.int (Int32.ofNat o)), .val (.int (Int32.ofNat len)), .val .null, .unset] [])) := entry rfl
  have c2 : Steps p.tables e below (s₁.setTop (entryFrame m #[.ref a, .ref b, .int (Int32.ofNat o), .int (Int32.ofNat len), .null] 6)) (s₁.setTop (mkF m 1 #[.val (.ref a), .val (.ref b), .val (.int (Int32.ofNat o)), .val (.int (Int32.ofNat len)), .val .null, .unset] [.ref a])) := c1.trans (by
    refine XS.aloadN X0.here hexec rfl (hb hbytes d0) rfl rfl ?_
    exact Steps.refl _)
  obtain ⟨T3, X3, q3, st3⟩ := X0.oinit hexec hown (wks W (objW "java/lang/String" 1)) (g := (mkF m 1 #[.val (.ref a), .val (.ref b), .val (.int (Int32.ofNat o)), .val (.int (Int32.ofNat len)), .val .null, .unset] [.ref a])) rfl (by rw [hml]; rfl) (rest := []) rfl (hb hbytes d1) (W := 0) (by show 2 * 0 + 0 ≤ _; decide) (Nat.le_of_ble_eq_true rfl) (Nat.le_of_ble_eq_true rfl)
  have hh3 := q3.trans hh0
  have c4 : Steps p.tables e below (s₁.setTop (entryFrame m #[.ref a, .ref b, .int (Int32.ofNat o), .int (Int32.ofNat len), .null] 6)) (T3.setTop (mkF m 27 #[.val (.ref a), .val (.ref b), .val (.int (Int32.ofNat o)), .val (.int (Int32.ofNat len)), .val .null, .unset] [])) := (c2.trans (st3 _ (Steps.refl _))).trans (by
    refine XS.iloadN X3.here hexec rfl (hb hbytes d4) rfl ?_
    refine XS.ifYes X3.here hexec rfl (pc0 := 5) rfl (hb hbytes d5) rfl (i0_ne_t (nz32 (by omega) l0)) (by decide) rfl ?_
    exact Steps.refl _)
  obtain ⟨T5, X5, q5, st5⟩ := X3.sget hexec hown (wk W (.fieldLink "java/lang/String" 38 "java/lang/String" "COMPACT_STRINGS" "Z")) s1 (fun _ _ h => by rw [hh3]; exact h) (g := (mkF m 27 #[.val (.ref a), .val (.ref b), .val (.int (Int32.ofNat o)), .val (.int (Int32.ofNat len)), .val .null, .unset] [])) rfl (hb hbytes d27)
  have hh5 := q5.trans hh3
  have c6 : Steps p.tables e below (s₁.setTop (entryFrame m #[.ref a, .ref b, .int (Int32.ofNat o), .int (Int32.ofNat len), .null] 6)) (T5.setTop (mkF m 30 #[.val (.ref a), .val (.ref b), .val (.int (Int32.ofNat o)), .val (.int (Int32.ofNat len)), .val .null, .unset] [.int z])) := c4.trans (st5 _ (Steps.refl _))
  have c7 : Steps p.tables e below (s₁.setTop (entryFrame m #[.ref a, .ref b, .int (Int32.ofNat o), .int (Int32.ofNat len), .null] 6)) (T5.setTop (mkF m 36 #[.val (.ref a), .val (.ref b), .val (.int (Int32.ofNat o)), .val (.int (Int32.ofNat len)), .val .null, .unset] [.int (Int32.ofNat len), .int (Int32.ofNat o), .ref b])) := c6.trans (by
    refine XS.ifNo X5.here hexec rfl (hb hbytes d30) rfl (i0_eq_f hz) ?_
    refine XS.aloadN X5.here hexec rfl (hb hbytes d33) rfl rfl ?_
    refine XS.iloadN X5.here hexec rfl (hb hbytes d34) rfl ?_
    refine XS.iloadN X5.here hexec rfl (hb hbytes d35) rfl ?_
    exact Steps.refl _)
  obtain ⟨v8, T8, X8, E8, g8⟩ := X5.callS hexec (Cmp3.law l b A o len) hown (wks W (staticW "java/lang/String" 177 Cmp3.yN)) (wk W Cmp3.tab) (W := 0) (Nat.le_of_ble_eq_true rfl) (Nat.le_of_ble_eq_true rfl) (Nat.le_refl _) (by show 0 + len ≤ len; omega) (g := (mkF m 36 #[.val (.ref a), .val (.ref b), .val (.int (Int32.ofNat o)), .val (.int (Int32.ofNat len)), .val .null, .unset] [.int (Int32.ofNat len), .int (Int32.ofNat o), .ref b])) rfl (by rw [hml]; rfl) c7 (argsL := [.ref b, .int (Int32.ofNat o), .int (Int32.ofNat len)]) (rest := []) rfl rfl (by show 2 * 0 + 0 ≤ _; decide) (hb hbytes d36) (⟨rfl, hA.mv X5.warmed.alike hh5, l1, l2, hp⟩)
  obtain ⟨e8, z8⟩ := E8
  obtain ⟨rfl, N, n1, n2, n3, n4, n5, n6⟩ := NewArr.mv _ T5 s _ _ hh5.symm (Vm.Alike.refl _) rfl e8
  rw [hh5] at z8
  have hB1 := hB.keep X8.warmed.alike (n6 _ _ hB.1)
  have hne : s.heap.size ≠ a := (Nat.ne_of_lt (Array.getElem?_eq_some_iff.mp hB.1).1).symm
  have c9 : Steps p.tables e below (s₁.setTop (entryFrame m #[.ref a, .ref b, .int (Int32.ofNat o), .int (Int32.ofNat len), .null] 6)) (T8.setTop (mkF m 39 #[.val (.ref a), .val (.ref b), .val (.int (Int32.ofNat o)), .val (.int (Int32.ofNat len)), .val .null, .unset] [.ref s.heap.size])) := g8
  have c10 : Steps p.tables e below (s₁.setTop (entryFrame m #[.ref a, .ref b, .int (Int32.ofNat o), .int (Int32.ofNat len), .null] 6)) (T8.setTop (mkF m 45 #[.val (.ref a), .val (.ref b), .val (.int (Int32.ofNat o)), .val (.int (Int32.ofNat len)), .val .null, .val (.ref s.heap.size)] [.int (Int32.ofNat N.slots.size), .ref s.heap.size, .ref a])) := by
    have hc : Steps p.tables e below (s₁.setTop (entryFrame m #[.ref a, .ref b, .int (Int32.ofNat o), .int (Int32.ofNat len), .null] 6)) (T8.setTop (mkF m 45 #[.val (.ref a), .val (.ref b), .val (.int (Int32.ofNat o)), .val (.int (Int32.ofNat len)), .val .null, .val (.ref s.heap.size)] [.int (Int32.ofNat len), .ref s.heap.size, .ref a])) := c9.trans (by
      refine XS.astore X8.here hexec rfl (hb hbytes d39) rfl rfl rfl ?_
      refine XS.aloadN X8.here hexec rfl (hb hbytes d41) rfl rfl ?_
      refine XS.aload X8.here hexec rfl (hb hbytes d42) rfl rfl ?_
      refine XS.iloadN X8.here hexec rfl (hb hbytes d44) rfl ?_
      exact Steps.refl _)
    rw [n4]; exact hc
  obtain ⟨v11, T11, X11, E11, g11⟩ := X8.callS hexec (CodL.law l s.heap.size N) hown (wks W (staticW "java/lang/String" 47 CodL.yN)) (wk W CodL.tab) (W := 1) (Nat.le_of_ble_eq_true rfl) (Nat.le_of_ble_eq_true rfl) (Nat.le_refl _) (by show 0 + len + 0 ≤ len; omega) (g := (mkF m 45 #[.val (.ref a), .val (.ref b), .val (.int (Int32.ofNat o)), .val (.int (Int32.ofNat len)), .val .null, .val (.ref s.heap.size)] [.int (Int32.ofNat N.slots.size), .ref s.heap.size, .ref a])) rfl (by rw [hml]; rfl) c10 (argsL := [.ref s.heap.size, .int (Int32.ofNat N.slots.size)]) (rest := [.ref a]) rfl rfl (by show 2 * 0 + (1 + 0) ≤ _; decide) (hb hbytes d45) (⟨rfl, n1⟩)
  obtain ⟨rfl, q11⟩ := E11
  have hB11 := hB1.mv (X8.warmed.alike.symm.trans X11.warmed.alike) q11
  have c12 : Steps p.tables e below (s₁.setTop (entryFrame m #[.ref a, .ref b, .int (Int32.ofNat o), .int (Int32.ofNat len), .null] 6)) (T11.setTop (mkF m 48 #[.val (.ref a), .val (.ref b), .val (.int (Int32.ofNat o)), .val (.int (Int32.ofNat len)), .val .null, .val (.ref s.heap.size)] [.int 0, .ref a])) := g11
  obtain ⟨T13, X13, p13, bl13, sl13, st13⟩ := X11.finit hexec hown (wk W (.fieldLink "java/lang/String" 15 "java/lang/String" "coder" "B")) (Or.inr ⟨_, (wk W (.laysFinal "java/lang/String" "java/lang/String" "coder" "B"))⟩) (Or.inl ⟨rfl, hnm⟩) f2 (Or.inl rfl) hB11 (t := .byte) (by decide +kernel) rfl (g := (mkF m 48 #[.val (.ref a), .val (.ref b), .val (.int (Int32.ofNat o)), .val (.int (Int32.ofNat len)), .val .null, .val (.ref s.heap.size)] [.int 0, .ref a])) rfl (rest := []) rfl (hb hbytes d48)
  have c14 : Steps p.tables e below (s₁.setTop (entryFrame m #[.ref a, .ref b, .int (Int32.ofNat o), .int (Int32.ofNat len), .null] 6)) (T13.setTop (mkF m 54 #[.val (.ref a), .val (.ref b), .val (.int (Int32.ofNat o)), .val (.int (Int32.ofNat len)), .val .null, .val (.ref s.heap.size)] [.ref s.heap.size, .ref a])) := (c12.trans (st13 _ (Steps.refl _))).trans (by
    refine XS.aloadN X13.here hexec rfl (hb hbytes d51) rfl rfl ?_
    refine XS.aload X13.here hexec rfl (hb hbytes d52) rfl rfl ?_
    exact Steps.refl _)
  obtain ⟨T15, X15, p15, bl15, sl15, st15⟩ := X13.finit hexec hown (wk W (.fieldLink "java/lang/String" 9 "java/lang/String" "value" "[B")) (Or.inr ⟨_, (wk W (.laysFinal "java/lang/String" "java/lang/String" "value" "[B"))⟩) (Or.inl ⟨rfl, hnm⟩) f1 (Or.inl rfl) bl13 (t := (.array .byte)) (by decide +kernel) rfl (g := (mkF m 54 #[.val (.ref a), .val (.ref b), .val (.int (Int32.ofNat o)), .val (.int (Int32.ofNat len)), .val .null, .val (.ref s.heap.size)] [.ref s.heap.size, .ref a])) rfl (rest := []) rfl (hb hbytes d54)
  have c16 : Steps p.tables e below (s₁.setTop (entryFrame m #[.ref a, .ref b, .int (Int32.ofNat o), .int (Int32.ofNat len), .null] 6)) (T15.setTop (mkF m 57 #[.val (.ref a), .val (.ref b), .val (.int (Int32.ofNat o)), .val (.int (Int32.ofNat len)), .val .null, .val (.ref s.heap.size)] [])) := c14.trans (st15 _ (Steps.refl _))
  have ap := apart (Or.inr ⟨_, (wk W (.laysFinal "java/lang/String" "java/lang/String" "value" "[B"))⟩) (Or.inr ⟨_, (wk W (.laysFinal "java/lang/String" "java/lang/String" "coder" "B"))⟩) f1 f2 (t₁ := .array .byte) (t₂ := .byte) (by decide +kernel) (by decide +kernel) (by decide)
  have al := X8.warmed.alike.symm.trans X15.warmed.alike
  have n7 : T11.heap[s.heap.size]? = some N := by rw [q11]; exact n1.1
  exact ⟨T15, none, _, _, _, X15, by simp, rfl, by omega, (fun _ => rfl), ⟨rfl, _, N, bl15, ((Same.refl D _).set _ (by simp)).set _ (by simp), sl15, (Cell.slots_setSlot_ne _ ap).trans sl13, n1.keep al (p15.other hne (p13.other hne n7)), n2, by rw [al.findClass]; exact n3, n4, n5, fun y c h1 h2 => p15.other h1 (p13.other h1 (by rw [q11]; exact n6 y c h2)), by rw [p15.2.2, p13.2.2, q11]; exact z8⟩, fun fs hl => c16.trans (X15.returnOut hexec hret (hb hbytes d57) hl)⟩
end New4
namespace New1
def yN : MethodName := ⟨"java/lang/String", "<init>", "([C)V"⟩
abbrev yB : ByteArray := jdk_42_method_3_code
theorem d0 : decode yB 0 = .ok (.aload_n 0, 1) := by decide +kernel
theorem d1 : decode yB 1 = .ok (.aload_n 1, 1) := by decide +kernel
theorem d2 : decode yB 2 = .ok (.iconst 0, 1) := by decide +kernel
theorem d3 : decode yB 3 = .ok (.aload_n 1, 1) := by decide +kernel
theorem d4 : decode yB 4 = .ok (.arraylength, 1) := by decide +kernel
theorem d5 : decode yB 5 = .ok (.aconst_null, 1) := by decide +kernel
theorem d6 : decode yB 6 = .ok (.invokespecial 27, 3) := by decide +kernel
theorem d9 : decode yB 9 = .ok (.return_, 1) := by decide +kernel
def site : List Cond := [New4.tab] ++ initW "java/lang/String" 27 New4.yN
def tab : Cond := tabOf yN yB 2 none site
def P (a : Addr) (D : Cell) (fV fC : Field) (b : Addr) (A : Cell) (z : Int32) (args : Array Value) (s : State) : Prop := args = #[.ref a, .ref b] ∧ Blank "java/lang/String" a D s ∧ Found "java/lang/String" "value" "[B" fV s ∧ Found "java/lang/String" "coder" "B" fC s ∧ Ch b A s ∧ StaticIs s "java/lang/String" "COMPACT_STRINGS" "Z" (.int z) ∧ ¬ z = 0 ∧ 0 < A.slots.size ∧ A.slots.size ≤ 536870912 ∧ ∀ i, i < A.slots.size → ¬ 255 < cv A i
def E (a : Addr) (D : Cell) (fV fC : Field) (A : Cell) (r : Option Value) (s u : State) : Prop := Got a D fV fC A 0 A.slots.size r s u
/-- new String(chars), not empty, no char above 255: a Latin-1 String of their low bytes -/
theorem law (l : Launch) (a : Addr) (D : Cell) (fV fC : Field) (b : Addr) (A : Cell) (z : Int32) : Law l yN 2 1 3 52 yB 2 none site (P a D fV fC b A z) (E a D fV fC A) [⟨a, fC.slot⟩, ⟨a, fV.slot⟩] 1 A.slots.size := by
  refine Law.of_walk (plainFor_of_name (by decide +kernel)) (by decide +kernel) (by decide +kernel) (by decide) (fun _ _ h => by rw [h.1]; rfl) (fun _ U U' hal hh h => ⟨h.1, h.2.1.mv hal hh, h.2.2.1.al hal, h.2.2.2.1.al hal, h.2.2.2.2.1.mv hal hh, h.2.2.2.2.2.1.there hal hh, h.2.2.2.2.2.2⟩) (fun r U U' V V' h1 hal h2 h => Got.mv r U U' V V' h1 hal h2 h) ?_
  intro p e s m args below meth c s₁ X0 hexec hbytes hml hret hlk hnm hown hh0 W hP
  obtain ⟨rfl, hB, f1, f2, hA, s1, hz, l0, l2, hp⟩ := hP
  have c1 : Steps p.tables e below (s₁.setTop (entryFrame m #[.ref a, .ref b] 2)) (s₁.setTop (mkF m 0 #[.val (.ref a), .val (.ref b)] [])) := entry rfl
  have c2 : Steps p.tables e below (s₁.setTop (entryFrame m #[.ref a, .ref b] 2)) (s₁.setTop (mkF m 6 #[.val (.ref a), .val (.ref b)] [.null, .int (Int32.ofNat A.slots.size), .int 0, .ref b, .ref a])) := c1.trans (by
    refine XS.aloadN X0.here hexec rfl (hb hbytes d0) rfl rfl ?_
    refine XS.aloadN X0.here hexec rfl (hb hbytes d1) rfl rfl ?_
    refine iconstV X0.here hexec rfl 0 (hb hbytes d2) (by decide) ?_
    refine XS.aloadN X0.here hexec rfl (hb hbytes d3) rfl rfl ?_
    refine X0.alen hexec (hA.1.mv X0.warmed.alike hh0) rfl rfl (hb hbytes d4) ?_
    refine XS.aconstNull X0.here hexec rfl (hb hbytes d5) ?_
    exact Steps.refl _)
  obtain ⟨v3, T3, X3, E3, g3⟩ := X0.callN hexec (New4.law l a D fV fC b A z 0 A.slots.size) rfl hown (wks W (initW "java/lang/String" 27 New4.yN)) (W New4.tab (by simp only [site, List.mem_cons, List.mem_append, true_or, or_true])) (W := 0) (Nat.le_of_ble_eq_true rfl) (Nat.le_of_ble_eq_true rfl) (Nat.le_refl _) (by show 0 + A.slots.size ≤ A.slots.size; omega) (g := (mkF m 6 #[.val (.ref a), .val (.ref b)] [.null, .int (Int32.ofNat A.slots.size), .int (Int32.ofNat 0), .ref b, .ref a])) rfl (by rw [hml]; rfl) c2 (argsL := [.ref b, .int (Int32.ofNat 0), .int (Int32.ofNat A.slots.size), .null]) (rest := []) rfl rfl (by show 2 * 0 + 0 ≤ _; decide) (hb hbytes d6) (⟨rfl, hB.mv X0.warmed.alike hh0, f1.al X0.warmed.alike, f2.al X0.warmed.alike, hA.mv X0.warmed.alike hh0, s1.there X0.warmed.alike hh0, hz, l0, by omega, l2, fun i hi => by rw [Nat.zero_add]; exact hp i hi⟩)
  have e0 := Got.mv _ s₁ s _ _ hh0.symm (Vm.Alike.refl _) rfl E3
  obtain rfl := e0.1
  have c4 : Steps p.tables e below (s₁.setTop (entryFrame m #[.ref a, .ref b] 2)) (T3.setTop (mkF m 9 #[.val (.ref a), .val (.ref b)] [])) := g3
  exact ⟨T3, none, _, _, _, X3, by simp, rfl, by omega, (fun _ => rfl), e0, fun fs hl => c4.trans (X3.returnOut hexec hret (hb hbytes d9) hl)⟩
theorem pays {l : Launch} {R : Room} {p : Program} {e : Env} {below : List Frame} {s : State} {sargs : Array Value} {len W : Nat} (a : Addr) (D : Cell) (fV fC : Field) (b : Addr) (A : Cell) (z : Int32) (htab : tab.before sargs s = true) (hfr : 4 ≤ R.frames) (hlo : W + 65 ≤ R.locals) :
    Back l R p e below s sargs yN len W (fun A₁ a₁ => A₁.cells + 1 ≤ R.cells ∧ A₁.slots + A.slots.size ≤ R.slots ∧ P a D fV fC b A z a₁ A₁.U) (fun A₁ _ v₁ B₁ => E a D fV fC A v₁ A₁.U B₁.U ∧ B₁.locs = A₁.locs ++ [⟨a, fC.slot⟩, ⟨a, fV.slot⟩] ∧ B₁.cells = A₁.cells + 1 ∧ B₁.slots = A₁.slots + A.slots.size) :=
  (law l a D fV fC b A z).pays htab hfr (by omega)
end New1
end StrChars
namespace StrChars.Road
open Jvm Sem ClassFile Op Lib Jvm.Stand Jvm.Free Jvm.Free.XT
open Jvm.Lib.Cold (StaticIs)
abbrev ST : String := "java/lang/String"
/-- every table word that New1's law asks, flat -/
abbrev words : List Jvm.Cond := [.code New1.yN New1.yB 2 none, .initialized ST, .methodLink ST 27 New4.yN, .instanceMethod New4.yN,
  .code New4.yN New4.yB 6 none, .fieldLink ST 38 ST "COMPACT_STRINGS" "Z", .laysFinal ST ST "value" "[B", .fieldLink ST 9 ST "value" "[B", .laysFinal ST ST "coder" "B", .fieldLink ST 15 ST "coder" "B",
  .methodLink ST 1 Lib.objectInit, .instanceMethod Lib.objectInit, .code Lib.objectInit ⟨#[0xb1]⟩ 1 none, .methodLink ST 177 Cmp3.yN, .static Cmp3.yN, .methodLink ST 47 CodL.yN, .static CodL.yN,
  .code Cmp3.yN Cmp3.yB 6 (some (.array .byte)), .initialized U16, .arrayClass .byte, .methodLink U16 115 Cmp5.yN, .static Cmp5.yN, .code Cmp5.yN Cmp5.yB 7 (some .int), .code CodL.yN CodL.yB 2 (some .byte)]
theorem tab_of {a : Array Value} {s : State} (h : ∀ w ∈ words, w.before a s = true) : New1.tab.before a s = true := by
  have h5 : Cmp5.tab.before a s = true := unparts (wk h (.code Cmp5.yN Cmp5.yB 7 (some .int))) (wks h (.initialized Cmp5.yN.cls :: Cmp5.site))
  have hc : CodL.tab.before a s = true := unparts (wk h (.code CodL.yN CodL.yB 2 (some .byte))) (wks h (.initialized CodL.yN.cls :: CodL.site))
  have q5 : ∀ w ∈ Cmp5.tab :: words, w.before a s = true := fun w hw => (List.mem_cons.mp hw).elim (fun e => e ▸ h5) (h w)
  have h3 : Cmp3.tab.before a s = true := unparts (wk q5 (.code Cmp3.yN Cmp3.yB 6 (some (.array .byte)))) (wks q5 (.initialized Cmp3.yN.cls :: Cmp3.site))
  have q3 : ∀ w ∈ Cmp3.tab :: CodL.tab :: words, w.before a s = true := fun w hw => (List.mem_cons.mp hw).elim (fun e => e ▸ h3) fun hw => (List.mem_cons.mp hw).elim (fun e => e ▸ hc) (h w)
  have h4 : New4.tab.before a s = true := unparts (wk q3 (.code New4.yN New4.yB 6 none)) (wks q3 (.initialized New4.yN.cls :: New4.site))
  have q4 : ∀ w ∈ New4.tab :: words, w.before a s = true := fun w hw => (List.mem_cons.mp hw).elim (fun e => e ▸ h4) (h w)
  exact unparts (wk q4 (.code New1.yN New1.yB 2 none)) (wks q4 (.initialized New1.yN.cls :: New1.site))
/-- the words ride from the start Z to the walk's own state -/
theorem moved {Z s : State} {a0 args : Array Value} (hZ : Z.Warmed39 s.vm) (hw : ∀ d ∈ words, d.before a0 Z = true) : ∀ d ∈ words, d.before args s = true := fun d hd => by
  have q := hw d hd
  have t : ∀ d ∈ words, d = .arrayClass .byte ∨ (d.onTables && d.keepsFace) = true := by decide +kernel
  rcases t d hd with rfl | t
  · exact RoadKit.mvA hZ q
  · exact RoadKit.mv hZ q t
/-- WHAT COMES BACK, over the tables of the start Z: h the heap at the call, h' behind it -/
def Q (Z : State) (x : Addr) (A : Cell) (h : Heap) (v : Option Value) (h' : Heap) (L : List Loc) : Prop := v = none ∧ (∀ y ∈ L, y.base = x) ∧ RoadKit.Keep h h' [x] ∧ h'.size = h.size + 1 ∧ RoadKit.Exa Z h' x ST ∧ RoadKit.Fld Z h' x ST "value" "[B" (.ref h.size) ∧ RoadKit.Fld Z h' x ST "coder" "B" (.int 0) ∧
  (∃ V : Cell, RoadKit.Arr Z h' h.size V .byte ∧ V.vm = .none ∧ Z.vm.findClass "[B" = some V.cls ∧ V.slots.size = A.slots.size ∧ ∀ j, j < A.slots.size → V.slots[j]? = some (.int (lo8 (cv A j)))) ∧
  ∀ (O n d : String) (w : Value), RoadKit.Fld Z h x O n d w → RoadKit.slotOf Z O n d ≠ RoadKit.slotOf Z ST "value" "[B" → RoadKit.slotOf Z O n d ≠ RoadKit.slotOf Z ST "coder" "B" → RoadKit.Fld Z h' x O n d w
/-- **new String(chars) AT A CALL, IN THE ROAD'S FORM**: for specialBack behind newO: x the fresh String, b the char[] with the cell A -/
theorem back {p : Program} {l : Launch} {e : Env} {R : Room} {s : State} {args : Array Value} {below : List Frame} {len W : Nat} {Z : State} {a0 : Array Value} {h : Heap} (hZ : Z.Warmed39 s.vm) (hw : ∀ d ∈ words, d.before a0 Z = true) {kI : Nat} (wi : (Jvm.Cond.instantiable ST kI).before a0 Z = true)
    {x b : Addr} {A : Cell} {z : Int32} {v0 c0 : Value} (E : RoadKit.Exa Z h x ST) (V : RoadKit.Fld Z h x ST "value" "[B" v0) (C : RoadKit.Fld Z h x ST "coder" "B" c0) (K : RoadKit.Arr Z h b A .char) (hty : Typed .char A) (S : RoadKit.Sta Z h ST "COMPACT_STRINGS" "Z" (.int z)) (hz : ¬ z = 0)
    (l0 : 0 < A.slots.size) (l2 : A.slots.size ≤ 536870912) (hp : ∀ i, i < A.slots.size → ¬ 255 < cv A i) (hfr : 4 ≤ R.frames) (hlo : W + 65 ≤ R.locals) :
    Back l R p e below s args New1.yN len W (fun P a => a = #[.ref x, .ref b] ∧ P.U.heap = h ∧ P.cells + 1 ≤ R.cells ∧ P.slots + A.slots.size ≤ R.slots)
      (fun P _ v B => ∃ L, Q Z x A h v B.U.heap L ∧ B.locs = P.locs ++ L ∧ B.cells = P.cells + 1 ∧ B.slots = P.slots + A.slots.size) := by
  intro m meth c P g ig mk a X hg hsize hdg hW hn hp'
  obtain ⟨rfl, rfl, r1, r2⟩ := hp'
  have al : Z.vm.Alike P.U.vm := hZ.alike.trans X.warmed.alike
  obtain ⟨D, cfV, kV, iV, fV, hD, gV, stV, knV, obV, asV, slV⟩ := id V
  obtain ⟨D', cfC, kC, iC, fC, hD', gC, stC, -, -, asC, slC⟩ := id C
  cases hD.symm.trans hD'
  obtain ⟨D2, kD, e1, e2, e3, e4, e5⟩ := id E
  cases hD.symm.trans e1
  obtain ⟨c2, k2, i1, i2, i3, -⟩ := Cond.instantiable_spec wi
  cases e2.symm.trans i1
  cases e3.symm.trans i2
  obtain ⟨kU, u1, u2⟩ := al.2.2 _ _ e3
  have hB : Blank ST x D P.U := ⟨hD, ⟨knV, fun q hq => by rw [hq] at obV; cases obV⟩, by rw [al.findClass]; exact e2, kU, u1, by rw [u2]; exact i3, by rw [u2]; exact e5 i3⟩
  have F1 : Found ST "value" "[B" fV P.U := ⟨SBG.found_only al ⟨cfV, kV, iV, gV⟩, stV⟩
  have F2 : Found ST "coder" "B" fC P.U := ⟨SBG.found_only al ⟨cfC, kC, iC, gC⟩, stC⟩
  have hA : Ch b A P.U := ⟨⟨K.1, State.isArrayOf_alike al K.2.1, K.2.2, by omega⟩, hty⟩
  have hS : StaticIs P.U ST "COMPACT_STRINGS" "Z" (.int z) := by
    obtain ⟨cfS, iS, kS, fS, st, cS, t1, t2, t3, t4, t5, t6, t7⟩ := S
    exact StaticIs.there (s := { Z with heap := P.U.heap }) ⟨cfS, iS, kS, fS, st, cS, t1, t2, t3, t4, t5, (fun q => by rw [q] at t6; cases t6), t7⟩ al rfl
  obtain ⟨v, B, X', ⟨⟨hv, E', V', q1, q2, q3, q4, q5, q6, q7, q8, q9, q10, q11⟩, hl, hc, hs⟩, st⟩ := New1.pays x D fV fC b A z (tab_of (moved hZ hw)) hfr hlo m meth c P g ig mk _ X hg hsize hdg hW hn ⟨r1, r2, rfl, hB, F1, F2, hA, hS, hz, l0, l2, hp⟩
  have al' : Z.vm.Alike B.U.vm := hZ.alike.trans X'.warmed.alike
  have hsz : E'.slots.size = D.slots.size := by
    obtain ⟨-, -, -, kB, w1, w2, w3⟩ := q1
    obtain ⟨kB', y1, y2⟩ := al'.2.2 _ _ e3
    rw [q2.2.1] at w1
    cases w1.symm.trans y1
    rw [w3, e5 i3, y2]
  refine ⟨v, B, X', ⟨_, ⟨hv, ?_, ⟨by omega, fun y cy hy hn' => q10 y cy (by simpa using hn') hy, fun y cy hy => ?_⟩, q11, ⟨E', _, q1.1, by rw [q2.2.1]; exact e2, by rw [q2.2.1]; exact e3, by rw [q2.1]; exact obV, fun _ => by rw [hsz]; exact e5 i3⟩,
    ⟨E', cfV, kV, iV, fV, q1.1, gV, stV, by rw [q2.1]; exact knV, by rw [q2.1]; exact obV, by rw [q2.2.1]; exact asV, q3⟩, ⟨E', cfC, kC, iC, fC, q1.1, gC, stC, by rw [q2.1]; exact knV, by rw [q2.1]; exact obV, by rw [q2.2.1]; exact asC, q4⟩,
    ⟨V', ⟨q5.1, State.isArrayOf_alike al'.symm q5.2.1, q5.2.2.1⟩, q6, by rw [← al'.findClass]; exact q7, q8, fun j hj => by have := q9 j hj; rwa [Nat.zero_add] at this⟩, fun O n d w F n1 n2 => ?_⟩, hl, hc, hs⟩, st⟩
  · intro y hy
    simp only [List.mem_cons, List.not_mem_nil, or_false] at hy
    rcases hy with rfl | rfl <;> rfl
  · by_cases q : y = x
    · subst q
      cases hD.symm.trans hy
      exact ⟨E', q1.1, q2.2.1, q2.1, hsz⟩
    · exact ⟨cy, q10 y cy q hy, rfl, rfl, rfl⟩
  · obtain ⟨D3, cf, k, i, f, g1, g2, g3, g4, g5, g6, g7⟩ := F
    cases hD.symm.trans g1
    simp only [RoadKit.slotOf, g2, gV, gC, Option.map_some, Option.getD_some] at n1 n2
    exact ⟨E', cf, k, i, f, q1.1, g2, g3, by rw [q2.1]; exact g4, by rw [q2.1]; exact g5, by rw [q2.2.1]; exact g6, by rw [q2.2.2 f.slot (by simp [n1, n2])]; exact g7⟩
end StrChars.Road
namespace StrChars.Road
open Jvm Sem ClassFile Op Lib Jvm.Stand Jvm.Free Jvm.Free.XT
/-- WHAT COMES BACK, the byte[] as a list of values -/
def QA (Z : State) (x : Addr) (zn : Int32) (cs : List Int32) (h : Heap) (v : Option Value) (h' : Heap) (L : List Loc) : Prop := v = none ∧ (∀ y ∈ L, y.base = x) ∧ RoadKit.Keep h h' [x] ∧ h'.size = h.size + 1 ∧ RoadKit.Exa Z h' x ST ∧ RoadKit.Fld Z h' x ST "value" "[B" (.ref h.size) ∧ RoadKit.Fld Z h' x ST "coder" "B" (.int 0) ∧
  (∃ kb, Z.vm.findClass "[B" = some kb ∧ RoadKit.Arv Z h' h.size kb .byte zn (cs.map fun c => .int (lo8 c)) (.int 0)) ∧
  ∀ (O n d : String) (w : Value), RoadKit.Fld Z h x O n d w → RoadKit.slotOf Z O n d ≠ RoadKit.slotOf Z ST "value" "[B" → RoadKit.slotOf Z O n d ≠ RoadKit.slotOf Z ST "coder" "B" → RoadKit.Fld Z h' x O n d w
/-- **new String(chars) AT A CALL, THE ARRAYS AS LISTS**: the char[] at b holds cs, not empty, no char above 255 -/
theorem backArv {p : Program} {l : Launch} {e : Env} {R : Room} {s : State} {args : Array Value} {below : List Frame} {len W : Nat} {Z : State} {a0 : Array Value} {h : Heap} (hZ : Z.Warmed39 s.vm) (hw : ∀ d ∈ words, d.before a0 Z = true) {kI : Nat} (wi : (Jvm.Cond.instantiable ST kI).before a0 Z = true)
    {x b : Addr} {k : ClassId} {zn z : Int32} {cs : List Int32} {dv v0 c0 : Value} (E : RoadKit.Exa Z h x ST) (V : RoadKit.Fld Z h x ST "value" "[B" v0) (C : RoadKit.Fld Z h x ST "coder" "B" c0) (K : RoadKit.Arv Z h b k .char zn (cs.map Value.int) dv) (S : RoadKit.Sta Z h ST "COMPACT_STRINGS" "Z" (.int z)) (hz : ¬ z = 0)
    (hlen : zn.toNatClampNeg = cs.length) (h0 : 0 < cs.length) (hbig : cs.length ≤ 536870912) (hall : ∀ c ∈ cs, ¬ 255 < c) (hfr : 4 ≤ R.frames) (hlo : W + 65 ≤ R.locals) :
    Back l R p e below s args New1.yN len W (fun P a => a = #[.ref x, .ref b] ∧ P.U.heap = h ∧ P.cells + 1 ≤ R.cells ∧ P.slots + cs.length ≤ R.slots)
      (fun P _ v B => ∃ L, QA Z x zn cs h v B.U.heap L ∧ B.locs = P.locs ++ L ∧ B.cells = P.cells + 1 ∧ B.slots = P.slots + cs.length) := by
  obtain ⟨A, K1, K2, K3, K4, K5, K6⟩ := K
  have e : A.slots.size = cs.length := K3.trans hlen
  have hat : ∀ (i : Nat) (hi : i < cs.length), A.slots[i]? = some (.int cs[i]) := fun i hi => by rw [K5 i (by omega)]; simp [List.getD_eq_getElem?_getD, hi]
  have hcv : ∀ (i : Nat) (hi : i < cs.length), cv A i = cs[i] := fun i hi => by unfold cv; rw [hat i hi]
  have hty : Typed .char A := fun i v hv => by
    have hi : i < A.slots.size := (Array.getElem?_eq_some_iff.mp hv).1
    have q := K5 i hi
    rw [hv] at q
    rw [Option.some.inj q]
    exact K6 i hi
  refine Back.mono (back hZ hw wi E V C K1 hty S hz (by omega) (by omega) (fun i hi => by rw [hcv i (by omega)]; exact hall _ (List.getElem_mem _)) hfr hlo) (fun P a hp => ⟨hp.1, hp.2.1, hp.2.2.1, by rw [e]; exact hp.2.2.2⟩) (fun P a v B hp hq => ?_)
  obtain ⟨L, ⟨q1, q2, q3, q4, q5, q6, q7, ⟨V', v1, v2, v3, v4, v5⟩, q9⟩, hl, hc, hs⟩ := hq
  refine ⟨L, ⟨q1, q2, q3, q4, q5, q6, q7, ⟨V'.cls, v3, V', v1, rfl, by rw [v4, e, hlen], K4, fun i hi => ?_, fun i hi => ?_⟩, q9⟩, hl, hc, by rw [hs, e]⟩
  · have hi' : i < cs.length := by omega
    rw [v5 i (by omega), hcv i hi']; simp [List.getD_eq_getElem?_getD, hi']
  · have hi' : i < cs.length := by omega
    simp only [List.getD_eq_getElem?_getD, List.getElem?_map, List.getElem?_eq_getElem hi', Option.map_some, Option.getD_some]
    exact fits_lo8 _
end StrChars.Road
namespace StrChars.Road
open Jvm Sem ClassFile Op Lib Jvm.Stand Jvm.Free Jvm.Free.XT
/-- WHAT COMES BACK, in the writer's own shape -/
def QV (Z : State) (x : Addr) (N : Int32) (bs : List Int32) (h : Heap) (n0 : Nat) (v : Option Value) (h' : Heap) (L : List Loc) : Prop := v = none ∧ RoadKit.Fr n0 L ∧ RoadKit.Keep h h' [x] ∧ RoadKit.Exa Z h' x ST ∧ RoadKit.Fld Z h' x ST "coder" "B" (.int 0) ∧
  ∃ (t : Addr) (kb : ClassId), n0 ≤ t ∧ h.size ≤ t ∧ ¬ t = x ∧ RoadKit.Fld Z h' x ST "value" "[B" (.ref t) ∧ RoadKit.Arv Z h' t kb .byte N (bs.map Value.int) (.int 0)
/-- **new String(chars) AT A CALL, FOR THE WRITER**: a char[] of n known ints, each 0 to 255 -/
theorem backV {p : Program} {l : Launch} {e : Env} {R : Room} {s : State} {args : Array Value} {below : List Frame} {len W : Nat} {Z : State} {a0 : Array Value} {h : Heap} (hZ : Z.Warmed39 s.vm) (hw : ∀ d ∈ words, d.before a0 Z = true) {kI : Nat} (wi : (Jvm.Cond.instantiable ST kI).before a0 Z = true)
    {x b : Addr} {kC : ClassId} {cs bs : List Int32} {d v0 c0 : Value} {z N : Int32} {n n0 : Nat} (hx0 : n0 ≤ x) (hh0 : n0 ≤ h.size) (E : RoadKit.Exa Z h x ST) (V : RoadKit.Fld Z h x ST "value" "[B" v0) (C : RoadKit.Fld Z h x ST "coder" "B" c0) (K : RoadKit.Arv Z h b kC .char N (cs.map Value.int) d) (S : RoadKit.Sta Z h ST "COMPACT_STRINGS" "Z" (.int z)) (hz : ¬ z = 0)
    (hn : cs.length = n) (hN : N = Int32.ofNat n) (l0 : 0 < n) (l2 : n ≤ 4000) (hp : ∀ c ∈ cs, ¬ c < 0 ∧ ¬ (255 : Int32) < c) (hb : bs = cs.map (fun c => c.toInt8.toInt32)) (hfr : 4 ≤ R.frames) (hlo : W + 65 ≤ R.locals) :
    Back l R p e below s args (⟨"java/lang/String", "<init>", "([C)V"⟩ : MethodName) len W (fun P a => a = #[.ref x, .ref b] ∧ P.U.heap = h ∧ P.cells + 1 ≤ R.cells ∧ P.slots + n ≤ R.slots)
      (fun P _ v B => ∃ L, QV Z x N bs h n0 v B.U.heap L ∧ B.locs = P.locs ++ L ∧ B.cells = P.cells + 1 ∧ B.slots = P.slots + n) := by
  subst hn hN hb
  refine Back.mono (backArv hZ hw wi E V C K S hz (n32 (by omega)) l0 (by omega) (fun c hc => (hp c hc).2) hfr hlo) (fun P a hp => hp) (fun P a v B hp hq => ?_)
  obtain ⟨L, ⟨q1, q2, q3, q4, q5, q6, q7, ⟨kb, v1, v2⟩, q9⟩, hl, hc, hs⟩ := hq
  exact ⟨L, ⟨q1, fun y hy => by rw [q2 y hy]; exact hx0, q3, q5, q7, h.size, kb, hh0, Nat.le_refl _, Nat.ne_of_gt E.lt, q6, by rw [List.map_map]; exact v2⟩, hl, hc, hs⟩
end StrChars.Road
end Jvm.Pilot.@@N@@
namespace Jvm.Pilot.@@N@@
set_option maxRecDepth 65536
set_option maxHeartbeats 40000000
open Jvm Jvm.ClassFile Sem Op Lib Jvm.Free Jvm.Stand Jvm.LawKit Jvm.RoadKit Bundle Jvm.Pilot.@@N@@.Jvm.D
abbrev own_W (a0 : Array Value) (Z : State) : Prop := ∀ d ∈ tables_1, d.before a0 Z = true
theorem own_i32 {x : Int32} (k : Int32) {n : Int} (e : k.toInt = n) (h : x.toInt = n) : x = k := Int32.toInt_inj.mp (h.trans e.symm)
section Own
variable {p : Program} {l : Launch} {e : Env} {R : Room} {s : State} {m : MethodId} {args : Array Value} {below : List Frame} {meth : Method} {c : Code} {T T' : State} {locs : List Loc} {cells slots : Nat} {Z : State} {a0 : Array Value} {h : Heap} {P : Outcome → State → Prop}
theorem own_hw {L : List Jvm.Cond} (hw : ∀ d ∈ L, d.before a0 Z = true) (i : Nat) {d : Jvm.Cond} (q : L[i]? = some d) : d.before a0 Z = true := hw d (List.mem_of_getElem? q)
/-- from here the run comes to an end that P allows -/
def own_Go (p : Program) (e : Env) (below : List Frame) (P : Outcome → State → Prop) (T : State) (g : JFrame) : Prop :=
  ∃ s₂ o, Steps p.tables e below (T.setTop g) s₂ ∧ s₂.status = .running ∧ Ended s₂ below o ∧ P o s₂
theorem own_go {g g' : JFrame} (h : ∀ t, Steps p.tables e below (T'.setTop g') t → Steps p.tables e below (T.setTop g) t) (k : own_Go p e below P T' g') : own_Go p e below P T g := by
  obtain ⟨s₂, o, h1, h2⟩ := k
  exact ⟨s₂, o, h _ h1, h2⟩
theorem own_cut {α : Type} {g : JFrame} {F : α → JFrame} (tl : ∀ v, own_Go p e below P T (F v)) (k : (∀ v, own_Go p e below P T (F v)) → own_Go p e below P T g) : own_Go p e below P T g := k tl
theorem own_laid1 {v : Value} (h : v.isRef = true) : Jvm.Sym.laidSlots [v] = [.val v] := by
  have hc : ¬ v.category = 2 := by cases v <;> first | (intro q; cases q; done) | (cases h; done)
  show (if v.category = 2 then Slot.val v :: .second :: Jvm.Sym.laidSlots [] else Slot.val v :: Jvm.Sym.laidSlots []) = _
  rw [if_neg hc]; rfl
theorem own_frame {m : MethodId} {as' : Array Value} {n : Nat} {L : List Slot} {ls : Array Slot} (hl : Jvm.Sym.laidSlots as'.toList = L) (h : L ++ List.replicate (n - L.length) .unset = ls.toList) : entryFrame m as' n = mkF m 0 ls [] := by
  show mkF m 0 (argsToLocals as' n) [] = _
  have e := Jvm.Sym.argsToLocals_toList as' n
  rw [hl] at e
  rw [show argsToLocals as' n = ls from Array.toList_inj.mp (e.trans h)]
theorem own_cast {g g' : JFrame} (q : g = g') (k : own_Go p e below P T g') : own_Go p e below P T g := q ▸ k
/-- what a body leaves: Q of its answer, of the heap and of the places written; no more cells and slots than k and n -/
def own_End (s : State) (Q : Option Value → Heap → List Loc → Prop) (k n : Nat) (o : Outcome) (t : State) : Prop := ∃ v L, o = .returned v ∧ Q v t.heap L ∧ FrameEnd s o t L k n
/-- a body's contract, at one heap and one list of arguments -/
def own_Met (l : Launch) (Z : State) (y : MethodName) (bytes : ByteArray) (maxL : Nat) (ret : Option FieldType) (rm : Room) (as' : Array Value) (h0 : Heap) (Q : Option Value → Heap → List Loc → Prop) : Prop :=
  ∀ ws : List Jvm.Cond, MetFree l y (head1 (Jvm.Cond.code y bytes maxL ret :: ws) rm) (fun a U => a = as' ∧ Z.Warmed39 U.vm ∧ U.heap = h0) (fun _ _ _ _ _ => True) (fun _ U o U' => ∃ v L, o = .returned v ∧ Q v U'.heap L ∧ FrameEnd U o U' L rm.cells rm.slots)
theorem own_body {y : MethodName} {bytes : ByteArray} {maxL : Nat} {ret : Option FieldType} {rm : Room} {as' : Array Value} {h0 : Heap} {Q : Option Value → Heap → List Loc → Prop} (hp : plainFor y = true)
    (k : ∀ (p : Program) (e : Env) (s : State) (m : MethodId) (below : List Frame) (meth : Method) (c : Code) (T : State), Stand p l e rm s m as' below meth c T [] 0 0 → p.tables.exec = Jvm.exec → Z.Warmed39 s.vm → c.code = bytes → c.maxLocals = maxL → s.vm.findClass y.cls = some m.cls → meth.name = y.name →
      meth.sig.returnType = ret → meth.locks = false → T.heap = h0 → own_Go p e below (own_End s Q rm.cells rm.slots) T (entryFrame m as' maxL)) : own_Met l Z y bytes maxL ret rm as' h0 Q := by
  intro ws
  refine MetFree.of_bodySF hp hisR ?_
  intro p e s m args below meth c s₁ Bd hml0 hP hK
  obtain ⟨rfl, hZ, hh⟩ := hP
  exact k p e s m below meth c s₁ (Stand.of_body Bd) Bd.exec hZ Bd.bytes hml0 (findClass_of_methodNamed Bd.named) (name_of_methodNamed Bd.named Bd.method).1 Bd.returns Bd.notSynchronized (by rw [← hh, Bd.state]; rfl)
/-- a return with a value -/
theorem own_ret (X : Stand p l e R s m args below meth c T locs cells slots) (hx : p.tables.exec = Jvm.exec) {pc : Nat} {Ls : Array Slot} {w : Value} {t : FieldType} {i : Instr} {rest : List Value} (hret : meth.sig.returnType = some t) (hlk : meth.locks = false) (hd : decode c.code pc = .ok (i, 1)) (hn : narrow t w = w)
    (hi : (i = .ireturn ∧ (t = .int ∨ t = .boolean ∨ t = .byte ∨ t = .char ∨ t = .short) ∧ ∃ z, w = .int z) ∨ (i = .lreturn ∧ t = .long ∧ ∃ z, w = .long z) ∨ (i = .dreturn ∧ t = .double ∧ ∃ z, w = .double z) ∨ (i = .freturn ∧ t = .float ∧ ∃ z, w = .float z) ∨ (i = .areturn ∧ t.isReference = true ∧ w.isRef = true))
    {Q : Option Value → Heap → List Loc → Prop} {kc kn : Nat} (hc : cells ≤ kc) (hs : slots ≤ kn) (hQ : Q (some w) T.heap locs) : own_Go p e below (own_End s Q kc kn) T (mkF m pc Ls (w :: rest)) := by
  obtain ⟨fs, hr, hrun, hended, hW, hsame⟩ := X.leave (v := some w) (fun h => by rw [hret] at h; cases h) hlk
  exact ⟨_, _, retOut X hx hret hn hi hd hr, hrun, hended, _, _, rfl, hQ, ⟨_, rfl⟩, hW, hsame.mono hc hs⟩
theorem own_retI (X : Stand p l e R s m args below meth c T locs cells slots) (hx : p.tables.exec = Jvm.exec) {pc : Nat} {Ls : Array Slot} {z : Int32} {t : FieldType} {rest : List Value} (hret : meth.sig.returnType = some t) (hlk : meth.locks = false) (hd : decode c.code pc = .ok (.ireturn, 1)) (hn : narrow t (.int z) = .int z)
    (ht : t = .int ∨ t = .boolean ∨ t = .byte ∨ t = .char ∨ t = .short) {Q : Option Value → Heap → List Loc → Prop} {kc kn : Nat} (hc : cells ≤ kc) (hs : slots ≤ kn) (hQ : Q (some (.int z)) T.heap locs) : own_Go p e below (own_End s Q kc kn) T (mkF m pc Ls (.int z :: rest)) :=
  own_ret X hx hret hlk hd hn (Or.inl ⟨rfl, ht, z, rfl⟩) hc hs hQ
theorem own_retA (X : Stand p l e R s m args below meth c T locs cells slots) (hx : p.tables.exec = Jvm.exec) {pc : Nat} {Ls : Array Slot} {w : Value} {t : FieldType} {rest : List Value} (hret : meth.sig.returnType = some t) (hlk : meth.locks = false) (hd : decode c.code pc = .ok (.areturn, 1)) (ht : t.isReference = true) (hw : w.isRef = true)
    {Q : Option Value → Heap → List Loc → Prop} {kc kn : Nat} (hc : cells ≤ kc) (hs : slots ≤ kn) (hQ : Q (some w) T.heap locs) : own_Go p e below (own_End s Q kc kn) T (mkF m pc Ls (w :: rest)) :=
  own_ret X hx hret hlk hd (by cases t <;> first | rfl | (cases w <;> rfl) | (simp [FieldType.isReference] at ht)) (Or.inr (Or.inr (Or.inr (Or.inr ⟨rfl, ht, hw⟩)))) hc hs hQ
theorem own_retV (X : Stand p l e R s m args below meth c T locs cells slots) (hx : p.tables.exec = Jvm.exec) {pc : Nat} {Ls : Array Slot} (hret : meth.sig.returnType = none) (hlk : meth.locks = false) (hd : decode c.code pc = .ok (.return_, 1))
    {Q : Option Value → Heap → List Loc → Prop} {kc kn : Nat} (hc : cells ≤ kc) (hs : slots ≤ kn) (hQ : Q none T.heap locs) : own_Go p e below (own_End s Q kc kn) T (mkF m pc Ls []) := by
  obtain ⟨fs, hr, hrun, hended, hW, hsame⟩ := X.leave (v := none) (fun _ => rfl) hlk
  exact ⟨_, _, X.returnOut hx hret hd hr, hrun, hended, _, _, rfl, hQ, ⟨_, rfl⟩, hW, hsame.mono hc hs⟩
section Og
variable {pc : Nat} {Ls : Array Slot} {st : List Value}
theorem og_iload (X : Stand p l e R s m args below meth c T locs cells slots) (hx : p.tables.exec = Jvm.exec) {k : Nat} {v : Int32} (hd : decode c.code pc = .ok (.iload k, 2)) (hl : Ls[k]? = some (.val (.int v))) (kk : own_Go p e below P T (mkF m (pc + 2) Ls (.int v :: st))) : own_Go p e below P T (mkF m pc Ls st) :=
  own_go (fun _ q => XS.iload X.here hx rfl hd hl q) kk
theorem og_iloadN (X : Stand p l e R s m args below meth c T locs cells slots) (hx : p.tables.exec = Jvm.exec) {k : Fin 4} {v : Int32} (hd : decode c.code pc = .ok (.iload_n k, 1)) (hl : Ls[k.val]? = some (.val (.int v))) (kk : own_Go p e below P T (mkF m (pc + 1) Ls (.int v :: st))) : own_Go p e below P T (mkF m pc Ls st) :=
  own_go (fun _ q => XS.iloadN X.here hx rfl hd hl q) kk
theorem og_aload (X : Stand p l e R s m args below meth c T locs cells slots) (hx : p.tables.exec = Jvm.exec) {k : Nat} {v : Value} (hd : decode c.code pc = .ok (.aload k, 2)) (hl : Ls[k]? = some (.val v)) (hv : v.isRef = true) (kk : own_Go p e below P T (mkF m (pc + 2) Ls (v :: st))) : own_Go p e below P T (mkF m pc Ls st) :=
  own_go (fun _ q => XS.aload X.here hx rfl hd hl hv q) kk
theorem og_aloadN (X : Stand p l e R s m args below meth c T locs cells slots) (hx : p.tables.exec = Jvm.exec) {k : Fin 4} {v : Value} (hd : decode c.code pc = .ok (.aload_n k, 1)) (hl : Ls[k.val]? = some (.val v)) (hv : v.isRef = true) (kk : own_Go p e below P T (mkF m (pc + 1) Ls (v :: st))) : own_Go p e below P T (mkF m pc Ls st) :=
  own_go (fun _ q => XS.aloadN X.here hx rfl hd hl hv q) kk
theorem og_lload (X : Stand p l e R s m args below meth c T locs cells slots) (hx : p.tables.exec = Jvm.exec) {k : Nat} {v : Int64} (hd : decode c.code pc = .ok (.lload k, 2)) (hl : Ls[k]? = some (.val (.long v))) (kk : own_Go p e below P T (mkF m (pc + 2) Ls (.long v :: st))) : own_Go p e below P T (mkF m pc Ls st) :=
  own_go (fun _ q => XS.lload X.here hx rfl hd hl q) kk
theorem og_lloadN (X : Stand p l e R s m args below meth c T locs cells slots) (hx : p.tables.exec = Jvm.exec) {k : Fin 4} {v : Int64} (hd : decode c.code pc = .ok (.lload_n k, 1)) (hl : Ls[k.val]? = some (.val (.long v))) (kk : own_Go p e below P T (mkF m (pc + 1) Ls (.long v :: st))) : own_Go p e below P T (mkF m pc Ls st) :=
  own_go (fun _ q => XS.lloadN X.here hx rfl hd hl q) kk
theorem og_istore (X : Stand p l e R s m args below meth c T locs cells slots) (hx : p.tables.exec = Jvm.exec) {k : Nat} {x : Int32} (l' : Array Slot) (hd : decode c.code pc = .ok (.istore k, 2)) (hl : storeLocals Ls k (.int x) = some l') (kk : own_Go p e below P T (mkF m (pc + 2) l' st)) : own_Go p e below P T (mkF m pc Ls (.int x :: st)) :=
  own_go (fun _ q => XS.istore X.here hx rfl hd rfl hl q) kk
theorem og_istoreN (X : Stand p l e R s m args below meth c T locs cells slots) (hx : p.tables.exec = Jvm.exec) {k : Fin 4} {x : Int32} (l' : Array Slot) (hd : decode c.code pc = .ok (.istore_n k, 1)) (hl : storeLocals Ls k.val (.int x) = some l') (kk : own_Go p e below P T (mkF m (pc + 1) l' st)) : own_Go p e below P T (mkF m pc Ls (.int x :: st)) :=
  own_go (fun _ q => XS.istoreN X.here hx rfl hd rfl hl q) kk
theorem og_lstore (X : Stand p l e R s m args below meth c T locs cells slots) (hx : p.tables.exec = Jvm.exec) {k : Nat} {x : Int64} (l' : Array Slot) (hd : decode c.code pc = .ok (.lstore k, 2)) (hl : storeLocals Ls k (.long x) = some l') (kk : own_Go p e below P T (mkF m (pc + 2) l' st)) : own_Go p e below P T (mkF m pc Ls (.long x :: st)) :=
  own_go (fun _ q => XS.lstore X.here hx rfl hd rfl hl q) kk
theorem og_lstoreN (X : Stand p l e R s m args below meth c T locs cells slots) (hx : p.tables.exec = Jvm.exec) {k : Fin 4} {x : Int64} (l' : Array Slot) (hd : decode c.code pc = .ok (.lstore_n k, 1)) (hl : storeLocals Ls k.val (.long x) = some l') (kk : own_Go p e below P T (mkF m (pc + 1) l' st)) : own_Go p e below P T (mkF m pc Ls (.long x :: st)) :=
  own_go (fun _ q => XS.lstoreN X.here hx rfl hd rfl hl q) kk
theorem og_astore (X : Stand p l e R s m args below meth c T locs cells slots) (hx : p.tables.exec = Jvm.exec) {k : Nat} {x : Value} (l' : Array Slot) (hd : decode c.code pc = .ok (.astore k, 2)) (hv : x.isRef = true) (hl : storeLocals Ls k x = some l') (kk : own_Go p e below P T (mkF m (pc + 2) l' st)) : own_Go p e below P T (mkF m pc Ls (x :: st)) :=
  own_go (fun _ q => XS.astore X.here hx rfl hd rfl hv hl q) kk
theorem og_astoreN (X : Stand p l e R s m args below meth c T locs cells slots) (hx : p.tables.exec = Jvm.exec) {k : Fin 4} {x : Value} (l' : Array Slot) (hd : decode c.code pc = .ok (.astore_n k, 1)) (hv : x.isRef = true) (hl : storeLocals Ls k.val x = some l') (kk : own_Go p e below P T (mkF m (pc + 1) l' st)) : own_Go p e below P T (mkF m pc Ls (x :: st)) :=
  own_go (fun _ q => XS.astoreN X.here hx rfl hd rfl hv hl q) kk
theorem og_iconst (X : Stand p l e R s m args below meth c T locs cells slots) (hx : p.tables.exec = Jvm.exec) {i : Int} (hd : decode c.code pc = .ok (.iconst i, 1)) (kk : own_Go p e below P T (mkF m (pc + 1) Ls (.int (Int32.ofInt i) :: st))) : own_Go p e below P T (mkF m pc Ls st) :=
  own_go (fun _ q => XS.iconst X.here hx rfl hd q) kk
theorem og_bipush (X : Stand p l e R s m args below meth c T locs cells slots) (hx : p.tables.exec = Jvm.exec) {i : Int} (hd : decode c.code pc = .ok (.bipush i, 2)) (kk : own_Go p e below P T (mkF m (pc + 2) Ls (.int (Int8.ofInt i).toInt32 :: st))) : own_Go p e below P T (mkF m pc Ls st) :=
  own_go (fun _ q => XS.bipush X.here hx rfl hd q) kk
theorem og_sipush (X : Stand p l e R s m args below meth c T locs cells slots) (hx : p.tables.exec = Jvm.exec) {i : Int} (hd : decode c.code pc = .ok (.sipush i, 3)) (kk : own_Go p e below P T (mkF m (pc + 3) Ls (.int (Int16.ofInt i).toInt32 :: st))) : own_Go p e below P T (mkF m pc Ls st) :=
  own_go (fun _ q => XS.sipush X.here hx rfl hd q) kk
theorem og_lconst (X : Stand p l e R s m args below meth c T locs cells slots) (hx : p.tables.exec = Jvm.exec) {k : Fin 2} (hd : decode c.code pc = .ok (.lconst k, 1)) (kk : own_Go p e below P T (mkF m (pc + 1) Ls (.long (Int64.ofNat k) :: st))) : own_Go p e below P T (mkF m pc Ls st) :=
  own_go (fun _ q => XS.lconst X.here hx rfl hd q) kk
theorem og_null (X : Stand p l e R s m args below meth c T locs cells slots) (hx : p.tables.exec = Jvm.exec) (hd : decode c.code pc = .ok (.aconst_null, 1)) (kk : own_Go p e below P T (mkF m (pc + 1) Ls (.null :: st))) : own_Go p e below P T (mkF m pc Ls st) :=
  own_go (fun _ q => XS.aconstNull X.here hx rfl hd q) kk
theorem og_iadd (X : Stand p l e R s m args below meth c T locs cells slots) (hx : p.tables.exec = Jvm.exec) {x y : Int32} (hd : decode c.code pc = .ok (.iadd, 1)) (kk : own_Go p e below P T (mkF m (pc + 1) Ls (.int (x + y) :: st))) : own_Go p e below P T (mkF m pc Ls (.int y :: .int x :: st)) :=
  own_go (fun _ q => XS.iadd X.here hx rfl hd rfl q) kk
theorem og_isub (X : Stand p l e R s m args below meth c T locs cells slots) (hx : p.tables.exec = Jvm.exec) {x y : Int32} (hd : decode c.code pc = .ok (.isub, 1)) (kk : own_Go p e below P T (mkF m (pc + 1) Ls (.int (x - y) :: st))) : own_Go p e below P T (mkF m pc Ls (.int y :: .int x :: st)) :=
  own_go (fun _ q => XS.isub X.here hx rfl hd rfl q) kk
theorem og_iand (X : Stand p l e R s m args below meth c T locs cells slots) (hx : p.tables.exec = Jvm.exec) {x y : Int32} (hd : decode c.code pc = .ok (.iand, 1)) (kk : own_Go p e below P T (mkF m (pc + 1) Ls (.int (x &&& y) :: st))) : own_Go p e below P T (mkF m pc Ls (.int y :: .int x :: st)) :=
  own_go (fun _ q => XS.iand X.here hx rfl hd rfl q) kk
theorem og_imul (X : Stand p l e R s m args below meth c T locs cells slots) (hx : p.tables.exec = Jvm.exec) {x y : Int32} (hd : decode c.code pc = .ok (.imul, 1)) (kk : own_Go p e below P T (mkF m (pc + 1) Ls (.int (x * y) :: st))) : own_Go p e below P T (mkF m pc Ls (.int y :: .int x :: st)) :=
  own_go (fun _ q => XS.imul X.here hx rfl hd rfl q) kk
theorem og_ior (X : Stand p l e R s m args below meth c T locs cells slots) (hx : p.tables.exec = Jvm.exec) {x y : Int32} (hd : decode c.code pc = .ok (.ior, 1)) (kk : own_Go p e below P T (mkF m (pc + 1) Ls (.int (x ||| y) :: st))) : own_Go p e below P T (mkF m pc Ls (.int y :: .int x :: st)) :=
  own_go (fun _ q => XS.ior X.here hx rfl hd rfl q) kk
theorem og_ixor (X : Stand p l e R s m args below meth c T locs cells slots) (hx : p.tables.exec = Jvm.exec) {x y : Int32} (hd : decode c.code pc = .ok (.ixor, 1)) (kk : own_Go p e below P T (mkF m (pc + 1) Ls (.int (x ^^^ y) :: st))) : own_Go p e below P T (mkF m pc Ls (.int y :: .int x :: st)) :=
  own_go (fun _ q => XS.ixor X.here hx rfl hd rfl q) kk
theorem og_dup (X : Stand p l e R s m args below meth c T locs cells slots) (hx : p.tables.exec = Jvm.exec) {x : Value} (hd : decode c.code pc = .ok (.dup, 1)) (hc : x.category = 1) (kk : own_Go p e below P T (mkF m (pc + 1) Ls (x :: x :: st))) : own_Go p e below P T (mkF m pc Ls (x :: st)) :=
  own_go (fun _ q => XS.dup X.here hx rfl hd rfl hc q) kk
theorem og_pop (X : Stand p l e R s m args below meth c T locs cells slots) (hx : p.tables.exec = Jvm.exec) {x : Value} (hd : decode c.code pc = .ok (.pop, 1)) (hc : x.category = 1) (kk : own_Go p e below P T (mkF m (pc + 1) Ls st)) : own_Go p e below P T (mkF m pc Ls (x :: st)) :=
  own_go (fun _ q => XS.pop X.here hx rfl hd rfl hc q) kk
theorem og_goto (X : Stand p l e R s m args below meth c T locs cells slots) (hx : p.tables.exec = Jvm.exec) {o : Int} (pc' : Nat) (hd : decode c.code pc = .ok (.goto o, 3)) (ho : 0 ≤ (pc : Int) + o) (hp : ((pc : Int) + o).toNat = pc') (kk : own_Go p e below P T (mkF m pc' Ls st)) : own_Go p e below P T (mkF m pc Ls st) :=
  own_go (fun _ q => XS.goto X.here hx rfl rfl hd ho hp q) kk
theorem og_ifN (X : Stand p l e R s m args below meth c T locs cells slots) (hx : p.tables.exec = Jvm.exec) {cd : ClassFile.Cond} {o : Int} {x : Int32} (hd : decode c.code pc = .ok (.ifCond cd o, 3)) (hc : if_icmp.holds cd x 0 = false) (kk : own_Go p e below P T (mkF m (pc + 3) Ls st)) : own_Go p e below P T (mkF m pc Ls (.int x :: st)) :=
  own_go (fun _ q => XS.ifNo X.here hx rfl hd rfl ((if0 _ _).trans hc) q) kk
theorem og_ifY (X : Stand p l e R s m args below meth c T locs cells slots) (hx : p.tables.exec = Jvm.exec) {cd : ClassFile.Cond} {o : Int} {x : Int32} (pc' : Nat) (hd : decode c.code pc = .ok (.ifCond cd o, 3)) (hc : if_icmp.holds cd x 0 = true) (ho : 0 ≤ (pc : Int) + o) (hp : ((pc : Int) + o).toNat = pc') (kk : own_Go p e below P T (mkF m pc' Ls st)) : own_Go p e below P T (mkF m pc Ls (.int x :: st)) :=
  own_go (fun _ q => XS.ifYes X.here hx rfl rfl hd rfl ((if0 _ _).trans hc) ho hp q) kk
theorem og_icN (X : Stand p l e R s m args below meth c T locs cells slots) (hx : p.tables.exec = Jvm.exec) {cd : ClassFile.Cond} {o : Int} {x y : Int32} (hd : decode c.code pc = .ok (.if_icmp cd o, 3)) (hc : if_icmp.holds cd x y = false) (kk : own_Go p e below P T (mkF m (pc + 3) Ls st)) : own_Go p e below P T (mkF m pc Ls (.int y :: .int x :: st)) :=
  own_go (fun _ q => XS.icmpNo X.here hx rfl hd rfl hc q) kk
theorem og_icY (X : Stand p l e R s m args below meth c T locs cells slots) (hx : p.tables.exec = Jvm.exec) {cd : ClassFile.Cond} {o : Int} {x y : Int32} (pc' : Nat) (hd : decode c.code pc = .ok (.if_icmp cd o, 3)) (hc : if_icmp.holds cd x y = true) (ho : 0 ≤ (pc : Int) + o) (hp : ((pc : Int) + o).toNat = pc') (kk : own_Go p e below P T (mkF m pc' Ls st)) : own_Go p e below P T (mkF m pc Ls (.int y :: .int x :: st)) :=
  own_go (fun _ q => XS.icmpYes X.here hx rfl rfl hd rfl hc ho hp q) kk
theorem og_ifnullY (X : Stand p l e R s m args below meth c T locs cells slots) (hx : p.tables.exec = Jvm.exec) {o : Int} (pc' : Nat) (hd : decode c.code pc = .ok (.ifnull o, 3)) (ho : 0 ≤ (pc : Int) + o) (hp : ((pc : Int) + o).toNat = pc') (kk : own_Go p e below P T (mkF m pc' Ls st)) : own_Go p e below P T (mkF m pc Ls (.null :: st)) :=
  own_go (fun _ q => XS.ifnullYes X.here hx rfl rfl hd rfl ho hp q) kk
theorem og_ifnullN (X : Stand p l e R s m args below meth c T locs cells slots) (hx : p.tables.exec = Jvm.exec) {b : Addr} {o : Int} (hd : decode c.code pc = .ok (.ifnull o, 3)) (kk : own_Go p e below P T (mkF m (pc + 3) Ls st)) : own_Go p e below P T (mkF m pc Ls (.ref b :: st)) :=
  own_go (fun _ q => XS.ifnullNo X.here hx rfl hd rfl q) kk
theorem og_ifnonnullY (X : Stand p l e R s m args below meth c T locs cells slots) (hx : p.tables.exec = Jvm.exec) {b : Addr} {o : Int} (pc' : Nat) (hd : decode c.code pc = .ok (.ifnonnull o, 3)) (ho : 0 ≤ (pc : Int) + o) (hp : ((pc : Int) + o).toNat = pc') (kk : own_Go p e below P T (mkF m pc' Ls st)) : own_Go p e below P T (mkF m pc Ls (.ref b :: st)) :=
  own_go (fun _ q => XS.ifnonnullYes X.here hx rfl rfl hd rfl ho hp q) kk
theorem og_ifnonnullN (X : Stand p l e R s m args below meth c T locs cells slots) (hx : p.tables.exec = Jvm.exec) {o : Int} (hd : decode c.code pc = .ok (.ifnonnull o, 3)) (kk : own_Go p e below P T (mkF m (pc + 3) Ls st)) : own_Go p e below P T (mkF m pc Ls (.null :: st)) :=
  own_go (fun _ q => XS.ifnonnullNo X.here hx rfl hd rfl q) kk
theorem og_getF (X : Stand p l e R s m args below meth c T locs cells slots) (hx : p.tables.exec = Jvm.exec) (hZ : Z.Warmed39 s.vm) {own R0 O n d : String} {index : Nat} (hown : s.vm.findClass own = some m.cls) (w : (Jvm.Cond.fieldLink own index R0 n d).before a0 Z = true) (via : Via Z R0 O n d) (eT : T.heap = h) {a : Addr} {v : Value} (F : Fld Z h a O n d v) (hd : decode c.code pc = .ok (.getfield index, 3))
    (kk : ∀ T', Stand p l e R s m args below meth c T' locs cells slots → T'.heap = h → own_Go p e below P T' (mkF m (pc + 3) Ls (v :: st))) : own_Go p e below P T (mkF m pc Ls (.ref a :: st)) := by
  obtain ⟨T', X', e', stp⟩ := getF X hx hZ hown (host := "") (Or.inl w) via eT F (g := mkF m pc Ls (.ref a :: st)) rfl rfl hd
  exact own_go stp (kk T' X' e')
theorem og_getS (X : Stand p l e R s m args below meth c T locs cells slots) (hx : p.tables.exec = Jvm.exec) (hZ : Z.Warmed39 s.vm) {own R0 O n d : String} {index : Nat} (hown : s.vm.findClass own = some m.cls) (w : (Jvm.Cond.fieldLink own index R0 n d).before a0 Z = true) (via : Via Z R0 O n d) (eT : T.heap = h) {v : Value} (F : Sta Z h O n d v) (hd : decode c.code pc = .ok (.getstatic index, 3))
    (kk : ∀ T', Stand p l e R s m args below meth c T' locs cells slots → T'.heap = h → own_Go p e below P T' (mkF m (pc + 3) Ls (v :: st))) : own_Go p e below P T (mkF m pc Ls st) := by
  obtain ⟨T', X', e', stp⟩ := getS2 X hx hZ hown (host := "") (Or.inl w) via eT F (g := mkF m pc Ls st) rfl hd
  exact own_go stp (kk T' X' e')
theorem og_ldcI (X : Stand p l e R s m args below meth c T locs cells slots) (hx : p.tables.exec = Jvm.exec) (hZ : Z.Warmed39 s.vm) {own : String} {index : Nat} {v : Int32} (hown : s.vm.findClass own = some m.cls) (w : (Jvm.Cond.constant own index v).before a0 Z = true) (hd : decode c.code pc = .ok (.ldc index, 2)) (kk : own_Go p e below P T (mkF m (pc + 2) Ls (.int v :: st))) : own_Go p e below P T (mkF m pc Ls st) :=
  own_go (fun _ q => X.ldcI hx hown (mvT hZ w) rfl hd q) kk
theorem og_iremM (X : Stand p l e R s m args below meth c T locs cells slots) (hx : p.tables.exec = Jvm.exec) {x y : Int32} (hd : decode c.code pc = .ok (.irem, 1)) (hy : y ≠ 0) (kk : own_Go p e below P T (mkF m (pc + 1) Ls (.int (x % y) :: st))) : own_Go p e below P T (mkF m pc Ls (.int y :: .int x :: st)) :=
  own_go (fun _ q => iremM X hx rfl hd rfl hy q) kk
theorem og_acmp (X : Stand p l e R s m args below meth c T locs cells slots) (hx : p.tables.exec = Jvm.exec) {cd : ACond} {x y : Value} {o : Int} {pc' : Nat} {same : Bool} (h1 : x.isRef = true) (h2 : y.isRef = true) (hd : decode c.code pc = .ok (.if_acmp cd o, 3)) (hq : decide (x = y) = same) (ho : 0 ≤ (pc : Int) + o) (hp : pc' = if acV cd same = true then ((pc : Int) + o).toNat else pc + 3)
    (kk : own_Go p e below P T (mkF m pc' Ls st)) : own_Go p e below P T (mkF m pc Ls (y :: x :: st)) :=
  own_go (fun _ q => Jvm.RoadKit.acmp (g := mkF m pc Ls (y :: x :: st)) X hx rfl h1 h2 rfl hd rfl hq ho hp q) kk
end Og
/-! the calls: by a Back (..B), or by a body's own contract -/
theorem own_callSB (X : Stand p l e R s m args below meth c T locs cells slots) (hx : p.tables.exec = Jvm.exec) (hZ : Z.Warmed39 s.vm) {own : String} {index : Nat} {y : MethodName} {bytes : ByteArray} {maxL : Nat} {ret : Option FieldType} (hown : s.vm.findClass own = some m.cls)
    (w1 : (Jvm.Cond.methodLink own index y).before a0 Z = true) (w2 : (Jvm.Cond.static y).before a0 Z = true) (w3 : (Jvm.Cond.initialized y.cls).before a0 Z = true) (w4 : (Jvm.Cond.code y bytes maxL ret).before a0 Z = true) (hy : y.cls ≠ "java/lang/invoke/MethodHandle" ∧ y.cls ≠ "java/lang/invoke/VarHandle")
    {argsL rest : List Value} {Q : Option Value → Heap → List Loc → Prop} {kc kn W : Nat} (hK : Back l R p e below s args y 3 W (fun A a => a = (argsL).toArray ∧ A.U.heap = h ∧ A.cells + kc ≤ R.cells ∧ A.slots + kn ≤ R.slots) (fun A _ v B => ∃ L, Q v B.U.heap L ∧ B.locs = A.locs ++ L ∧ B.cells = A.cells + kc ∧ B.slots = A.slots + kn)) (eT : T.heap = h) {pc : Nat} {Ls : Array Slot} {st : List Value} (hsize : Ls.size = c.maxLocals)
    (hlen : ∀ sig, parseMethodDescriptor y.desc = some sig → argsL.length = sig.parameters.length) (hstack : st = argsL.reverse ++ rest) (hd : decode c.code pc = .ok (.invokestatic index, 3)) (hW : (rest.map fun v => v.category).sum ≤ W) (hc : cells + kc ≤ R.cells) (hs : slots + kn ≤ R.slots)
    (k : ∀ (v : Option Value) (T' : State) (L : List Loc), Stand p l e R s m args below meth c T' (locs ++ L) (cells + kc) (slots + kn) → Q v T'.heap L → own_Go p e below P T' (mkF m (pc + 3) Ls (v.toList ++ rest))) : own_Go p e below P T (mkF m pc Ls st) := by
  obtain ⟨v, _, ⟨T', L', k', n'⟩, -, X', ⟨Lc, hQ, l1, y1, z1⟩, stp⟩ := Jvm.LawKit.callS X hx (y := y) hown (mvT hZ w1) (mvT hZ w2) (mvT hZ w3) (mvT hZ w4) hy hK (g := mkF m pc Ls st) rfl hsize (argsL := argsL) (rest := rest) hlen hstack (by show 2 * 0 + _ ≤ _; omega) hd (fun _ _ => ⟨rfl, eT, hc, hs⟩)
  dsimp only [Pt.U, Pt.locs, Pt.cells, Pt.slots] at X' l1 y1 z1 stp hQ
  subst l1 y1 z1
  exact own_go stp (k v T' Lc X' hQ)
theorem own_callS (X : Stand p l e R s m args below meth c T locs cells slots) (hx : p.tables.exec = Jvm.exec) (hZ : Z.Warmed39 s.vm) {own : String} {index : Nat} {y : MethodName} {bytes : ByteArray} {maxL : Nat} {ret : Option FieldType} (hown : s.vm.findClass own = some m.cls)
    (w1 : (Jvm.Cond.methodLink own index y).before a0 Z = true) (w2 : (Jvm.Cond.static y).before a0 Z = true) (w3 : (Jvm.Cond.initialized y.cls).before a0 Z = true) (w4 : (Jvm.Cond.code y bytes maxL ret).before a0 Z = true) (hy : y.cls ≠ "java/lang/invoke/MethodHandle" ∧ y.cls ≠ "java/lang/invoke/VarHandle")
    {argsL rest : List Value} {rm : Room} {Q : Option Value → Heap → List Loc → Prop} (hM : own_Met l Z y bytes maxL ret rm (argsL).toArray h Q) (eT : T.heap = h) {pc : Nat} {Ls : Array Slot} {st : List Value} (hsize : Ls.size = c.maxLocals)
    (hlen : ∀ sig, parseMethodDescriptor y.desc = some sig → argsL.length = sig.parameters.length) (hstack : st = argsL.reverse ++ rest) (hd : decode c.code pc = .ok (.invokestatic index, 3)) {W : Nat} (hW : (rest.map fun v => v.category).sum ≤ W) (h4 : rm.frames + 1 ≤ R.frames ∧ W + (maxL + 11) + rm.locals ≤ R.locals ∧ cells + rm.cells ≤ R.cells ∧ slots + rm.slots ≤ R.slots)
    (k : ∀ (v : Option Value) (T' : State) (L : List Loc), Stand p l e R s m args below meth c T' (locs ++ L) (cells + rm.cells) (slots + rm.slots) → Q v T'.heap L → own_Go p e below P T' (mkF m (pc + 3) Ls (v.toList ++ rest))) : own_Go p e below P T (mkF m pc Ls st) :=
  own_callSB X hx hZ hown w1 w2 w3 w4 hy (backOf (W := W) (hM []) hZ w4 w3 h4.1 h4.2.1) eT hsize hlen hstack hd hW h4.2.2.1 h4.2.2.2 k
theorem own_callVB (X : Stand p l e R s m args below meth c T locs cells slots) (hx : p.tables.exec = Jvm.exec) (hZ : Z.Warmed39 s.vm) {own C : String} {index : Nat} {y z : MethodName} {bytes : ByteArray} {maxL : Nat} {ret : Option FieldType} (hown : s.vm.findClass own = some m.cls)
    (w1 : (Jvm.Cond.methodLink own index y).before a0 Z = true) (w2 : (Jvm.Cond.declares y).before a0 Z = true) (nf : NotFace s y) (w3 : (Jvm.Cond.selects C y z).before a0 Z = true) (w4 : (Jvm.Cond.instanceMethod z).before a0 Z = true) (w5 : (Jvm.Cond.code z bytes maxL ret).before a0 Z = true) (w6 : (Jvm.Cond.initialized z.cls).before a0 Z = true) (hy : y.cls ≠ "java/lang/invoke/MethodHandle" ∧ y.cls ≠ "java/lang/invoke/VarHandle")
    {b : Addr} {argsL rest : List Value} {Q : Option Value → Heap → List Loc → Prop} {kc kn W : Nat} (hK : Back l R p e below s args z 3 W (fun A a => a = (.ref b :: argsL).toArray ∧ A.U.heap = h ∧ A.cells + kc ≤ R.cells ∧ A.slots + kn ≤ R.slots) (fun A _ v B => ∃ L, Q v B.U.heap L ∧ B.locs = A.locs ++ L ∧ B.cells = A.cells + kc ∧ B.slots = A.slots + kn)) (eT : T.heap = h) (E : Exa Z h b C) {pc : Nat} {Ls : Array Slot} {st : List Value} (hsize : Ls.size = c.maxLocals)
    (hlen : ∀ sig, parseMethodDescriptor y.desc = some sig → argsL.length = sig.parameters.length) (hstack : st = argsL.reverse ++ .ref b :: rest) (hd : decode c.code pc = .ok (.invokevirtual index, 3)) (hW : (rest.map fun v => v.category).sum ≤ W) (hc : cells + kc ≤ R.cells) (hs : slots + kn ≤ R.slots)
    (k : ∀ (v : Option Value) (T' : State) (L : List Loc), Stand p l e R s m args below meth c T' (locs ++ L) (cells + kc) (slots + kn) → Q v T'.heap L → own_Go p e below P T' (mkF m (pc + 3) Ls (v.toList ++ rest))) : own_Go p e below P T (mkF m pc Ls st) := by
  obtain ⟨cq, kq, qa, qb, qc⟩ := isOf hZ eT E
  obtain ⟨v, _, ⟨T', L', k', n'⟩, -, X', ⟨Lc, hQ, l1, y1, z1⟩, stp⟩ := X.virtualBack hx (y := y) (z := z) hown (mvT hZ w1) (mvT hZ w2) nf (mvT hZ w3) (mvT hZ w4) hy hK qa qc (g := mkF m pc Ls st) rfl hsize (Steps.refl _) (argsL := argsL) (rest := rest) hlen hstack (by show 2 * 0 + _ ≤ _; omega) hd (fun _ _ => ⟨rfl, eT, hc, hs⟩)
  dsimp only [Pt.U, Pt.locs, Pt.cells, Pt.slots] at X' l1 y1 z1 stp hQ
  subst l1 y1 z1
  exact own_go (fun _ q => stp.trans q) (k v T' Lc X' hQ)
theorem own_callV (X : Stand p l e R s m args below meth c T locs cells slots) (hx : p.tables.exec = Jvm.exec) (hZ : Z.Warmed39 s.vm) {own C : String} {index : Nat} {y z : MethodName} {bytes : ByteArray} {maxL : Nat} {ret : Option FieldType} (hown : s.vm.findClass own = some m.cls)
    (w1 : (Jvm.Cond.methodLink own index y).before a0 Z = true) (w2 : (Jvm.Cond.declares y).before a0 Z = true) (nf : NotFace s y) (w3 : (Jvm.Cond.selects C y z).before a0 Z = true) (w4 : (Jvm.Cond.instanceMethod z).before a0 Z = true) (w5 : (Jvm.Cond.code z bytes maxL ret).before a0 Z = true) (w6 : (Jvm.Cond.initialized z.cls).before a0 Z = true) (hy : y.cls ≠ "java/lang/invoke/MethodHandle" ∧ y.cls ≠ "java/lang/invoke/VarHandle")
    {b : Addr} {argsL rest : List Value} {rm : Room} {Q : Option Value → Heap → List Loc → Prop} (hM : own_Met l Z z bytes maxL ret rm (.ref b :: argsL).toArray h Q) (eT : T.heap = h) (E : Exa Z h b C) {pc : Nat} {Ls : Array Slot} {st : List Value} (hsize : Ls.size = c.maxLocals)
    (hlen : ∀ sig, parseMethodDescriptor y.desc = some sig → argsL.length = sig.parameters.length) (hstack : st = argsL.reverse ++ .ref b :: rest) (hd : decode c.code pc = .ok (.invokevirtual index, 3)) {W : Nat} (hW : (rest.map fun v => v.category).sum ≤ W) (h4 : rm.frames + 1 ≤ R.frames ∧ W + (maxL + 11) + rm.locals ≤ R.locals ∧ cells + rm.cells ≤ R.cells ∧ slots + rm.slots ≤ R.slots)
    (k : ∀ (v : Option Value) (T' : State) (L : List Loc), Stand p l e R s m args below meth c T' (locs ++ L) (cells + rm.cells) (slots + rm.slots) → Q v T'.heap L → own_Go p e below P T' (mkF m (pc + 3) Ls (v.toList ++ rest))) : own_Go p e below P T (mkF m pc Ls st) :=
  own_callVB X hx hZ hown w1 w2 nf w3 w4 w5 w6 hy (backOf (W := W) (hM []) hZ w5 w6 h4.1 h4.2.1) eT E hsize hlen hstack hd hW h4.2.2.1 h4.2.2.2 k
theorem own_callUB (X : Stand p l e R s m args below meth c T locs cells slots) (hx : p.tables.exec = Jvm.exec) (hZ : Z.Warmed39 s.vm) {own C owner : String} {index : Nat} {y z : MethodName} {bytes : ByteArray} {maxL : Nat} {ret : Option FieldType} (hown : s.vm.findClass own = some m.cls)
    (w1 : (Jvm.Cond.methodLink own index y).before a0 Z = true) (ws : (Jvm.Cond.sameMethod y.cls owner y.name y.desc).before a0 Z = true) (w2 : (Jvm.Cond.declares ⟨owner, y.name, y.desc⟩).before a0 Z = true) (ho : owner ≠ "java/lang/invoke/MethodHandle" ∧ owner ≠ "java/lang/invoke/VarHandle")
    (w3 : (Jvm.Cond.selects C y z).before a0 Z = true) (w4 : (Jvm.Cond.instanceMethod z).before a0 Z = true) (w5 : (Jvm.Cond.code z bytes maxL ret).before a0 Z = true) (w6 : (Jvm.Cond.initialized z.cls).before a0 Z = true)
    {b : Addr} {argsL rest : List Value} {Q : Option Value → Heap → List Loc → Prop} {kc kn W : Nat} (hK : Back l R p e below s args z 3 W (fun A a => a = (.ref b :: argsL).toArray ∧ A.U.heap = h ∧ A.cells + kc ≤ R.cells ∧ A.slots + kn ≤ R.slots) (fun A _ v B => ∃ L, Q v B.U.heap L ∧ B.locs = A.locs ++ L ∧ B.cells = A.cells + kc ∧ B.slots = A.slots + kn)) (eT : T.heap = h) (E : Exa Z h b C) {pc : Nat} {Ls : Array Slot} {st : List Value} (hsize : Ls.size = c.maxLocals)
    (hlen : ∀ sig, parseMethodDescriptor y.desc = some sig → argsL.length = sig.parameters.length) (hstack : st = argsL.reverse ++ .ref b :: rest) (hd : decode c.code pc = .ok (.invokevirtual index, 3)) (hW : (rest.map fun v => v.category).sum ≤ W) (hc : cells + kc ≤ R.cells) (hs : slots + kn ≤ R.slots)
    (k : ∀ (v : Option Value) (T' : State) (L : List Loc), Stand p l e R s m args below meth c T' (locs ++ L) (cells + kc) (slots + kn) → Q v T'.heap L → own_Go p e below P T' (mkF m (pc + 3) Ls (v.toList ++ rest))) : own_Go p e below P T (mkF m pc Ls st) := by
  obtain ⟨cq, kq, qa, qb, qc⟩ := isOf hZ eT E
  obtain ⟨v, _, ⟨T', L', k', n'⟩, -, X', ⟨Lc, hQ, l1, y1, z1⟩, stp⟩ := X.virtualBackUp hx (x := y) (y := z) (owner := owner) hown (mvT hZ w1) (mvT hZ ws) (mvT hZ w2) ho (mvT hZ w3) (mvT hZ w4) hK qa qc (g := mkF m pc Ls st) rfl hsize (Steps.refl _) (argsL := argsL) (rest := rest) hlen hstack (by show 2 * 0 + _ ≤ _; omega) hd (fun _ _ => ⟨rfl, eT, hc, hs⟩)
  dsimp only [Pt.U, Pt.locs, Pt.cells, Pt.slots] at X' l1 y1 z1 stp hQ
  subst l1 y1 z1
  exact own_go (fun _ q => stp.trans q) (k v T' Lc X' hQ)
theorem own_callU (X : Stand p l e R s m args below meth c T locs cells slots) (hx : p.tables.exec = Jvm.exec) (hZ : Z.Warmed39 s.vm) {own C owner : String} {index : Nat} {y z : MethodName} {bytes : ByteArray} {maxL : Nat} {ret : Option FieldType} (hown : s.vm.findClass own = some m.cls)
    (w1 : (Jvm.Cond.methodLink own index y).before a0 Z = true) (ws : (Jvm.Cond.sameMethod y.cls owner y.name y.desc).before a0 Z = true) (w2 : (Jvm.Cond.declares ⟨owner, y.name, y.desc⟩).before a0 Z = true) (ho : owner ≠ "java/lang/invoke/MethodHandle" ∧ owner ≠ "java/lang/invoke/VarHandle")
    (w3 : (Jvm.Cond.selects C y z).before a0 Z = true) (w4 : (Jvm.Cond.instanceMethod z).before a0 Z = true) (w5 : (Jvm.Cond.code z bytes maxL ret).before a0 Z = true) (w6 : (Jvm.Cond.initialized z.cls).before a0 Z = true)
    {b : Addr} {argsL rest : List Value} {rm : Room} {Q : Option Value → Heap → List Loc → Prop} (hM : own_Met l Z z bytes maxL ret rm (.ref b :: argsL).toArray h Q) (eT : T.heap = h) (E : Exa Z h b C) {pc : Nat} {Ls : Array Slot} {st : List Value} (hsize : Ls.size = c.maxLocals)
    (hlen : ∀ sig, parseMethodDescriptor y.desc = some sig → argsL.length = sig.parameters.length) (hstack : st = argsL.reverse ++ .ref b :: rest) (hd : decode c.code pc = .ok (.invokevirtual index, 3)) {W : Nat} (hW : (rest.map fun v => v.category).sum ≤ W) (h4 : rm.frames + 1 ≤ R.frames ∧ W + (maxL + 11) + rm.locals ≤ R.locals ∧ cells + rm.cells ≤ R.cells ∧ slots + rm.slots ≤ R.slots)
    (k : ∀ (v : Option Value) (T' : State) (L : List Loc), Stand p l e R s m args below meth c T' (locs ++ L) (cells + rm.cells) (slots + rm.slots) → Q v T'.heap L → own_Go p e below P T' (mkF m (pc + 3) Ls (v.toList ++ rest))) : own_Go p e below P T (mkF m pc Ls st) :=
  own_callUB X hx hZ hown w1 ws w2 ho w3 w4 w5 w6 (backOf (W := W) (hM []) hZ w5 w6 h4.1 h4.2.1) eT E hsize hlen hstack hd hW h4.2.2.1 h4.2.2.2 k
theorem own_callNB (X : Stand p l e R s m args below meth c T locs cells slots) (hx : p.tables.exec = Jvm.exec) (hZ : Z.Warmed39 s.vm) {own : String} {index : Nat} {y : MethodName} {bytes : ByteArray} {maxL : Nat} (hown : s.vm.findClass own = some m.cls)
    (w1 : (Jvm.Cond.methodLink own index y).before a0 Z = true) (w2 : (Jvm.Cond.instanceMethod y).before a0 Z = true) (w4 : (Jvm.Cond.code y bytes maxL none).before a0 Z = true) (w3 : (Jvm.Cond.initialized y.cls).before a0 Z = true) (hy : y.cls ≠ "java/lang/invoke/MethodHandle" ∧ y.cls ≠ "java/lang/invoke/VarHandle") (hn : y.name = "<init>")
    {b : Addr} {argsL rest : List Value} {Q : Option Value → Heap → List Loc → Prop} {kc kn W : Nat} (hK : Back l R p e below s args y 3 W (fun A a => a = (.ref b :: argsL).toArray ∧ A.U.heap = h ∧ A.cells + kc ≤ R.cells ∧ A.slots + kn ≤ R.slots) (fun A _ v B => ∃ L, Q v B.U.heap L ∧ B.locs = A.locs ++ L ∧ B.cells = A.cells + kc ∧ B.slots = A.slots + kn)) (eT : T.heap = h) {pc : Nat} {Ls : Array Slot} {st : List Value} (hsize : Ls.size = c.maxLocals)
    (hlen : ∀ sig, parseMethodDescriptor y.desc = some sig → argsL.length = sig.parameters.length) (hstack : st = argsL.reverse ++ .ref b :: rest) (hd : decode c.code pc = .ok (.invokespecial index, 3)) (hW : (rest.map fun v => v.category).sum ≤ W) (hc : cells + kc ≤ R.cells) (hs : slots + kn ≤ R.slots)
    (k : ∀ (v : Option Value) (T' : State) (L : List Loc), Stand p l e R s m args below meth c T' (locs ++ L) (cells + kc) (slots + kn) → Q v T'.heap L → own_Go p e below P T' (mkF m (pc + 3) Ls (v.toList ++ rest))) : own_Go p e below P T (mkF m pc Ls st) := by
  obtain ⟨v, _, ⟨T', L', k', n'⟩, -, X', ⟨Lc, hQ, l1, y1, z1⟩, stp⟩ := X.specialBack hx (y := y) hn hown (mvT hZ w1) (mvT hZ w2) (mvT hZ w4) hy hK (g := mkF m pc Ls st) rfl hsize (Steps.refl _) (a := b) (argsL := argsL) (rest := rest) hlen hstack (by show 2 * 0 + _ ≤ _; omega) hd (fun _ _ => ⟨rfl, eT, hc, hs⟩)
  dsimp only [Pt.U, Pt.locs, Pt.cells, Pt.slots] at X' l1 y1 z1 stp hQ
  subst l1 y1 z1
  exact own_go (fun _ q => stp.trans q) (k v T' Lc X' hQ)
theorem own_callN (X : Stand p l e R s m args below meth c T locs cells slots) (hx : p.tables.exec = Jvm.exec) (hZ : Z.Warmed39 s.vm) {own : String} {index : Nat} {y : MethodName} {bytes : ByteArray} {maxL : Nat} (hown : s.vm.findClass own = some m.cls)
    (w1 : (Jvm.Cond.methodLink own index y).before a0 Z = true) (w2 : (Jvm.Cond.instanceMethod y).before a0 Z = true) (w4 : (Jvm.Cond.code y bytes maxL none).before a0 Z = true) (w3 : (Jvm.Cond.initialized y.cls).before a0 Z = true) (hy : y.cls ≠ "java/lang/invoke/MethodHandle" ∧ y.cls ≠ "java/lang/invoke/VarHandle") (hn : y.name = "<init>")
    {b : Addr} {argsL rest : List Value} {rm : Room} {Q : Option Value → Heap → List Loc → Prop} (hM : own_Met l Z y bytes maxL none rm (.ref b :: argsL).toArray h Q) (eT : T.heap = h) {pc : Nat} {Ls : Array Slot} {st : List Value} (hsize : Ls.size = c.maxLocals)
    (hlen : ∀ sig, parseMethodDescriptor y.desc = some sig → argsL.length = sig.parameters.length) (hstack : st = argsL.reverse ++ .ref b :: rest) (hd : decode c.code pc = .ok (.invokespecial index, 3)) {W : Nat} (hW : (rest.map fun v => v.category).sum ≤ W) (h4 : rm.frames + 1 ≤ R.frames ∧ W + (maxL + 11) + rm.locals ≤ R.locals ∧ cells + rm.cells ≤ R.cells ∧ slots + rm.slots ≤ R.slots)
    (k : ∀ (v : Option Value) (T' : State) (L : List Loc), Stand p l e R s m args below meth c T' (locs ++ L) (cells + rm.cells) (slots + rm.slots) → Q v T'.heap L → own_Go p e below P T' (mkF m (pc + 3) Ls (v.toList ++ rest))) : own_Go p e below P T (mkF m pc Ls st) :=
  own_callNB X hx hZ hown w1 w2 w4 w3 hy hn (backOf (W := W) (hM []) hZ w4 w3 h4.1 h4.2.1) eT hsize hlen hstack hd hW h4.2.2.1 h4.2.2.2 k
/-- answers w, writes nothing old, leaves the heap as it was -/
def own_Qv (w : Option Value) (h0 : Heap) (n0 : Nat) (v : Option Value) (h : Heap) (L : List Loc) : Prop := v = w ∧ Fr n0 L ∧ h = h0
/-- the law's own: it answers 1 and writes nothing old -/
def own_Q1 (n0 : Nat) (v : Option Value) (h : Heap) (L : List Loc) : Prop := v = some (.int 1) ∧ Fr n0 L
theorem own_fldI {t : Term} {C n d : String} {a : Addr} {k : Int32} (ev : t.eval args Z none [] Z = some (.ref a)) (hx : (Jvm.Cond.eq (.field t C n d) (.int k)).value args Z none Z [] = some true) : Fld Z Z.heap a C n d (.int k) := by
  obtain ⟨x, y, h1, h2, k1, k2⟩ := cmp_v (Or.inl hx)
  have h2' : y = .int k := (Option.some.inj (h2.symm.trans (Term.int_eval k)))
  subst h2'
  obtain ⟨z, rfl⟩ : ∃ z, x = .int z := k2
  have hz : z = k := by simpa [Jvm.Cond.value, h1, h2] using hx
  subst hz
  exact Fld.start ((fld_at ev).symm.trans h1)
theorem own_fldN {t : Term} {C n d : String} {a : Addr} (ev : t.eval args Z none [] Z = some (.ref a)) (hx : (Jvm.Cond.eq (.field t C n d) .null).value args Z none Z [] = some true) : Fld Z Z.heap a C n d .null :=
  Fld.start ((fld_at ev).symm.trans (null_v hx))
theorem own_fldR {t : Term} {C n d : String} {a : Addr} (ev : t.eval args Z none [] Z = some (.ref a)) (hx : (Jvm.Cond.not (.eq (.field t C n d) .null)).value args Z none Z [] = some true) : ∃ b, Fld Z Z.heap a C n d (.ref b) := by
  obtain ⟨b, hb⟩ := nn_v (not_v hx)
  exact ⟨b, Fld.start ((fld_at ev).symm.trans hb)⟩
theorem own_fldX {t : Term} {C n d K : String} {a : Addr} (ev : t.eval args Z none [] Z = some (.ref a)) (hx : (Jvm.Cond.exactly (.field t C n d) K).value args Z none Z [] = some true) : ∃ b, (Term.field t C n d).eval args Z none [] Z = some (.ref b) ∧ Fld Z Z.heap a C n d (.ref b) ∧ Exa Z Z.heap b K := by
  obtain ⟨b, hb⟩ := exa_v hx
  exact ⟨b, hb, Fld.start ((fld_at ev).symm.trans hb), Exa.start hb hx⟩
theorem own_fldE {t t' : Term} {C n d : String} {a b : Addr} (ev : t.eval args Z none [] Z = some (.ref a)) (h2 : t'.eval args Z none [] Z = some (.ref b)) (hx : (Jvm.Cond.eq (.field t C n d) t').value args Z none Z [] = some true) : Fld Z Z.heap a C n d (.ref b) := by
  obtain ⟨x, y, h1, h2', k1, k2⟩ := cmp_v (Or.inl hx)
  cases h2.symm.trans h2'
  have k3 : x.isRef = true := k2.2
  have hz : x = .ref b := gotT (eq_R h1 h2 k3 rfl) hx
  subst hz
  exact Fld.start ((fld_at ev).symm.trans h1)
end Own
section Own2
variable {p : Program} {l : Launch} {e : Env} {R : Room} {s : State} {m : MethodId} {args : Array Value} {below : List Frame} {meth : Method} {c : Code} {T T' : State} {locs : List Loc} {cells slots : Nat} {Z : State} {a0 : Array Value} {h : Heap} {P : Outcome → State → Prop} {a b : Addr} {pc : Nat} {Ls : Array Slot} {rest : List Value} {k : ClassId} {ty : FieldType} {n j : Int32} {vs : List Value} {dv v : Value}
theorem own_oldle {n0 : Nat} (O : Old Z n0 h) : n0 ≤ h.size := O.1 ▸ O.2.1
theorem own_newR (X : Stand p l e R s m args below meth c T locs cells slots) (hx : p.tables.exec = Jvm.exec) (hZ : Z.Warmed39 s.vm) {own C : String} {index : Nat} (hown : s.vm.findClass own = some m.cls) (w1 : (Jvm.Cond.classLink own index C).before a0 Z = true) (w2 : (Jvm.Cond.arrayOver (.object C)).before a0 Z = true) (eT : T.heap = h)
    (hd : decode c.code pc = .ok (.anewarray index, 3)) (hn : ¬ n < 0) (cap : Nat) (hcap : n.toNatClampNeg ≤ cap) (hb : cap * 8 ≤ 536870912) (hc : cells + 1 ≤ R.cells) (hl : slots + cap ≤ R.slots)
    (kk : ∀ (T' : State) (h' : Heap) (cA : ClassId) (b : Addr), b = h.size → Stand p l e R s m args below meth c T' locs (cells + 1) (slots + cap) → T'.heap = h' → Ext h h' → Arv Z h' b cA (.object C) n (List.replicate cap .null) .null → Ovr Z cA C → own_Go p e below P T' (mkF m (pc + 3) Ls (.ref b :: rest))) :
    own_Go p e below P T (mkF m pc Ls (.int n :: rest)) := by
  obtain ⟨T', h', cA, X', e', E, A, O, st⟩ := newR X hx hZ hown w1 w2 eT (g := mkF m pc Ls (.int n :: rest)) rfl hd rfl hn hcap hb hc hl
  exact own_go st (kk T' h' cA _ rfl X' e' E ((Arv.new A hn).pad (pad_rep [] .null cap)) O)
theorem own_newP (X : Stand p l e R s m args below meth c T locs cells slots) (hx : p.tables.exec = Jvm.exec) (hZ : Z.Warmed39 s.vm) {aty : ArrayType} (w : (Jvm.Cond.arrayClass (newarray.typeOf aty)).before a0 Z = true) (eT : T.heap = h)
    (hd : decode c.code pc = .ok (.newarray aty, 2)) (hn : ¬ n < 0) (cap : Nat) (hcap : n.toNatClampNeg ≤ cap) (hb : cap * 8 ≤ 536870912) (hc : cells + 1 ≤ R.cells) (hl : slots + cap ≤ R.slots)
    (kk : ∀ (T' : State) (h' : Heap) (cA : ClassId) (b : Addr), b = h.size → Stand p l e R s m args below meth c T' locs (cells + 1) (slots + cap) → T'.heap = h' → Ext h h' → Arv Z h' b cA (newarray.typeOf aty) n (List.replicate cap (defaultValue (newarray.typeOf aty))) (defaultValue (newarray.typeOf aty)) → own_Go p e below P T' (mkF m (pc + 2) Ls (.ref b :: rest))) :
    own_Go p e below P T (mkF m pc Ls (.int n :: rest)) := by
  obtain ⟨T', h', cA, X', e', E, A, st⟩ := newP X hx hZ w eT (g := mkF m pc Ls (.int n :: rest)) rfl hd rfl hn hcap hb hc hl
  exact own_go st (kk T' h' cA _ rfl X' e' E ((Arv.new A hn).pad (pad_rep [] _ cap)))
theorem own_newO (X : Stand p l e R s m args below meth c T locs cells slots) (hx : p.tables.exec = Jvm.exec) (hZ : Z.Warmed39 s.vm) {own C : String} {index n : Nat} {st : List Value} (hown : s.vm.findClass own = some m.cls) (w : (Jvm.Cond.classLink own index C).before a0 Z = true) (wi : (Jvm.Cond.instantiable C n).before a0 Z = true) (wz : (Jvm.Cond.initialized C).before a0 Z = true) (eT : T.heap = h)
    (hd : decode c.code pc = .ok (.new index, 3)) (hc : cells + 1 ≤ R.cells) (hl : slots + n ≤ R.slots)
    (kk : ∀ (T' : State) (h' : Heap) (b : Addr), b = h.size → Stand p l e R s m args below meth c T' locs (cells + 1) (slots + n) → T'.heap = h' → Ext h h' → Exa Z h' b C → (∀ {O nm d : String} {ty : FieldType}, Laid Z a0 C O nm d → parseFieldDescriptor d = some ty → Fld Z h' b O nm d (defaultValue ty)) → own_Go p e below P T' (mkF m (pc + 3) Ls (.ref b :: st))) :
    own_Go p e below P T (mkF m pc Ls st) := by
  obtain ⟨T', h', X', e', E, A, D, -, stp⟩ := newO X hx hZ hown w wi wz eT (g := mkF m pc Ls st) rfl hd hc hl
  exact own_go stp (kk T' h' _ rfl X' e' E A (fun {_ _ _ _} q r => D q r))
theorem own_stR (X : Stand p l e R s m args below meth c T locs cells slots) (hx : p.tables.exec = Jvm.exec) (hZ : Z.Warmed39 s.vm) {C : String} {y : Addr} (eT : T.heap = h) (A : Arv Z h b k (.object C) n vs dv) (O : Ovr Z k C) (I : Ins Z h y C true) (hj : ¬ j < 0 ∧ j < n) (i : Nat) (hi : j.toNatClampNeg = i) (hil : i < vs.length)
    (hd : decode c.code pc = .ok (.aastore, 1))
    (kk : ∀ (T' : State) (h' : Heap), Stand p l e R s m args below meth c T' (locs ++ [⟨b, j.toNatClampNeg⟩]) cells slots → T'.heap = h' → Wr h h' b j.toNatClampNeg (.ref y) → Arv Z h' b k (.object C) n (vs.set i (.ref y)) dv → own_Go p e below P T' (mkF m (pc + 1) Ls rest)) :
    own_Go p e below P T (mkF m pc Ls (.ref y :: .int j :: .ref b :: rest)) := by
  obtain ⟨cl, A1, q1, S, q3, H, G⟩ := A
  obtain ⟨T', h', X', e', W, st⟩ := stR X hx hZ eT A1 (j := j) (v := .ref y) (inb_of S hj) rfl (Sto.ofV A1 q1 O I) (g := mkF m pc Ls (.ref y :: .int j :: .ref b :: rest)) rfl rfl hd
  exact own_go st (kk T' h' X' e' W (Arv.set A1 q1 S q3 H G rfl W i hi hil))
theorem own_stC (X : Stand p l e R s m args below meth c T locs cells slots) (hx : p.tables.exec = Jvm.exec) (hZ : Z.Warmed39 s.vm) {x : Int32} (eT : T.heap = h) (A : Arv Z h b k .char n vs dv) (hj : ¬ j < 0 ∧ j < n) (i : Nat) (hi : j.toNatClampNeg = i) (hil : i < vs.length) (hd : decode c.code pc = .ok (.castore, 1))
    (kk : ∀ (T' : State) (h' : Heap), Stand p l e R s m args below meth c T' (locs ++ [⟨b, j.toNatClampNeg⟩]) cells slots → T'.heap = h' → Wr h h' b j.toNatClampNeg (.int (nar .char x)) → Arv Z h' b k .char n (vs.set i (.int (nar .char x))) dv → own_Go p e below P T' (mkF m (pc + 1) Ls rest)) :
    own_Go p e below P T (mkF m pc Ls (.int x :: .int j :: .ref b :: rest)) := by
  obtain ⟨cl, A1, q1, S, q3, H, G⟩ := A
  obtain ⟨T', h', X', e', W, st⟩ := stC X hx hZ eT A1 (j := j) (x := x) (inb_of S hj) (g := mkF m pc Ls (.int x :: .int j :: .ref b :: rest)) rfl rfl hd
  exact own_go st (kk T' h' X' e' W (Arv.set A1 q1 S q3 H G (fits_nar_char _) W i hi hil))
theorem own_stI (X : Stand p l e R s m args below meth c T locs cells slots) (hx : p.tables.exec = Jvm.exec) (hZ : Z.Warmed39 s.vm) {x : Int32} (eT : T.heap = h) (A : Arv Z h b k .int n vs dv) (hj : ¬ j < 0 ∧ j < n) (i : Nat) (hi : j.toNatClampNeg = i) (hil : i < vs.length) (hd : decode c.code pc = .ok (.iastore, 1))
    (kk : ∀ (T' : State) (h' : Heap), Stand p l e R s m args below meth c T' (locs ++ [⟨b, j.toNatClampNeg⟩]) cells slots → T'.heap = h' → Wr h h' b j.toNatClampNeg (.int x) → Arv Z h' b k .int n (vs.set i (.int x)) dv → own_Go p e below P T' (mkF m (pc + 1) Ls rest)) :
    own_Go p e below P T (mkF m pc Ls (.int x :: .int j :: .ref b :: rest)) := by
  obtain ⟨cl, A1, q1, S, q3, H, G⟩ := A
  obtain ⟨T', h', X', e', W, st⟩ := stI X hx hZ eT A1 (j := j) (x := x) (inb_of S hj) (g := mkF m pc Ls (.int x :: .int j :: .ref b :: rest)) rfl rfl hd
  exact own_go st (kk T' h' X' e' W (Arv.set A1 q1 S q3 H G rfl W i hi hil))
theorem own_stB (X : Stand p l e R s m args below meth c T locs cells slots) (hx : p.tables.exec = Jvm.exec) (hZ : Z.Warmed39 s.vm) {x : Int32} (eT : T.heap = h) (A : Arv Z h b k .byte n vs dv) (hj : ¬ j < 0 ∧ j < n) (i : Nat) (hi : j.toNatClampNeg = i) (hil : i < vs.length) (hd : decode c.code pc = .ok (.bastore, 1))
    (kk : ∀ (T' : State) (h' : Heap), Stand p l e R s m args below meth c T' (locs ++ [⟨b, j.toNatClampNeg⟩]) cells slots → T'.heap = h' → Wr h h' b j.toNatClampNeg (.int (nar .byte x)) → Arv Z h' b k .byte n (vs.set i (.int (nar .byte x))) dv → own_Go p e below P T' (mkF m (pc + 1) Ls rest)) :
    own_Go p e below P T (mkF m pc Ls (.int x :: .int j :: .ref b :: rest)) := by
  obtain ⟨cl, A1, q1, S, q3, H, G⟩ := A
  obtain ⟨T', h', X', e', W, st⟩ := stB X hx hZ eT A1 (j := j) (x := x) (inb_of S hj) (g := mkF m pc Ls (.int x :: .int j :: .ref b :: rest)) rfl rfl hd
  exact own_go st (kk T' h' X' e' W (Arv.set A1 q1 S q3 H G (fits_nar_byte _) W i hi hil))
theorem own_ldA (X : Stand p l e R s m args below meth c T locs cells slots) (hx : p.tables.exec = Jvm.exec) (hZ : Z.Warmed39 s.vm) (eT : T.heap = h) (A : Arv Z h b k ty n vs dv) (hty : ty.isReference = true) (hj : ¬ j < 0 ∧ j < n) (hv : vs.getD j.toNatClampNeg dv = v) (hd : decode c.code pc = .ok (.aaload, 1))
    (kk : own_Go p e below P T (mkF m (pc + 1) Ls (v :: rest))) : own_Go p e below P T (mkF m pc Ls (.int j :: .ref b :: rest)) := by
  obtain ⟨cl, A1, q1, S, q3, H, G⟩ := A
  exact own_go (X.aaload hx (j := j) (v := v) (by rw [eT]; exact A1.1) (State.isArrayOf_alike hZ.alike A1.2.1) hty A1.2.2 (inb_of S hj) (H.at (inb_of S hj) hv) (g := mkF m pc Ls (.int j :: .ref b :: rest)) rfl rfl hd) kk
theorem own_ldC (X : Stand p l e R s m args below meth c T locs cells slots) (hx : p.tables.exec = Jvm.exec) (hZ : Z.Warmed39 s.vm) (eT : T.heap = h) (A : Arv Z h b k .char n vs dv) (hj : ¬ j < 0 ∧ j < n) (hv : vs.getD j.toNatClampNeg dv = v) (hd : decode c.code pc = .ok (.caload, 1))
    (kk : own_Go p e below P T (mkF m (pc + 1) Ls (v :: rest))) : own_Go p e below P T (mkF m pc Ls (.int j :: .ref b :: rest)) := by
  obtain ⟨cl, A1, q1, S, q3, H, G⟩ := A
  exact own_go (X.caload hx (j := j) (v := v) (by rw [eT]; exact A1.1) (State.isArrayOf_alike hZ.alike A1.2.1) A1.2.2 (inb_of S hj) (H.at (inb_of S hj) hv) (g := mkF m pc Ls (.int j :: .ref b :: rest)) rfl rfl hd) kk
theorem own_ldB (X : Stand p l e R s m args below meth c T locs cells slots) (hx : p.tables.exec = Jvm.exec) (hZ : Z.Warmed39 s.vm) (eT : T.heap = h) (A : Arv Z h b k .byte n vs dv) (hj : ¬ j < 0 ∧ j < n) (hv : vs.getD j.toNatClampNeg dv = v) (hd : decode c.code pc = .ok (.baload, 1))
    (kk : own_Go p e below P T (mkF m (pc + 1) Ls (v :: rest))) : own_Go p e below P T (mkF m pc Ls (.int j :: .ref b :: rest)) := by
  obtain ⟨cl, A1, q1, S, q3, H, G⟩ := A
  exact own_go (X.baloadBytes hx (j := j) (v := v) (by rw [eT]; exact A1.1) (State.isArrayOf_alike hZ.alike A1.2.1) A1.2.2 (inb_of S hj) (H.at (inb_of S hj) hv) (g := mkF m pc Ls (.int j :: .ref b :: rest)) rfl rfl hd) kk
theorem own_ldI (X : Stand p l e R s m args below meth c T locs cells slots) (hx : p.tables.exec = Jvm.exec) (hZ : Z.Warmed39 s.vm) (eT : T.heap = h) (A : Arv Z h b k .int n vs dv) (hj : ¬ j < 0 ∧ j < n) (hv : vs.getD j.toNatClampNeg dv = v) (hd : decode c.code pc = .ok (.iaload, 1))
    (kk : own_Go p e below P T (mkF m (pc + 1) Ls (v :: rest))) : own_Go p e below P T (mkF m pc Ls (.int j :: .ref b :: rest)) := by
  obtain ⟨cl, A1, q1, S, q3, H, G⟩ := A
  exact own_go (X.iaload hx (j := j) (v := v) (by rw [eT]; exact A1.1) (State.isArrayOf_alike hZ.alike A1.2.1) A1.2.2 (inb_of S hj) (H.at (inb_of S hj) hv) (g := mkF m pc Ls (.int j :: .ref b :: rest)) rfl rfl hd) kk
theorem own_len (X : Stand p l e R s m args below meth c T locs cells slots) (hx : p.tables.exec = Jvm.exec) (hZ : Z.Warmed39 s.vm) (eT : T.heap = h) (A : Arv Z h b k ty n vs dv) (hd : decode c.code pc = .ok (.arraylength, 1))
    (kk : own_Go p e below P T (mkF m (pc + 1) Ls (.int n :: rest))) : own_Go p e below P T (mkF m pc Ls (.ref b :: rest)) := by
  obtain ⟨cl, A1, q1, S, q3, H, G⟩ := A
  refine own_go (X.arraylength hx (by rw [eT]; exact A1.1) (State.isArrayOf_alike hZ.alike A1.2.1) (g := mkF m pc Ls (.ref b :: rest)) rfl rfl hd) ?_
  rw [len_of S q3]
  exact kk
end Own2
section Own3
variable {p : Program} {l : Launch} {e : Env} {R : Room} {s : State} {vm0 : Vm} {m : MethodId} {args : Array Value} {below : List Frame} {meth : Method} {c : Code} {T T' : State} {locs : List Loc} {cells slots : Nat} {Z : State} {a0 : Array Value} {h : Heap} {P : Outcome → State → Prop} {a b : Addr} {pc : Nat} {Ls : Array Slot} {rest st : List Value}
/-- as own_End, where String constants may have been booked -/
def own_EndW (s : State) (Q : Option Value → Heap → List Loc → Prop) (k n : Nat) (o : Outcome) (t : State) : Prop := ∃ v L, o = .returned v ∧ Q v t.heap L ∧ ReturnedEndW s o t L k n
def own_MetW (l : Launch) (Z : State) (y : MethodName) (bytes : ByteArray) (maxL : Nat) (ret : Option FieldType) (rm : Room) (as' : Array Value) (h0 : Heap) (Q : Option Value → Heap → List Loc → Prop) : Prop :=
  ∀ ws : List Jvm.Cond, MetFree l y (head1 (Jvm.Cond.code y bytes maxL ret :: ws) rm) (fun a U => a = as' ∧ Z.Warmed39 U.vm ∧ U.heap = h0) (fun _ _ _ _ _ => True) (fun _ U o U' => ∃ v L, o = .returned v ∧ Q v U'.heap L ∧ ReturnedEndW U o U' L rm.cells rm.slots)
theorem own_bodyW {y : MethodName} {bytes : ByteArray} {maxL : Nat} {ret : Option FieldType} {rm : Room} {as' : Array Value} {h0 : Heap} {Q : Option Value → Heap → List Loc → Prop} (hp : plainFor y = true)
    (k : ∀ (p : Program) (e : Env) (s : State) (m : MethodId) (below : List Frame) (meth : Method) (c : Code) (T : State), Stand p l e rm (s.setVm s.vm) m as' below meth c T [] 0 0 → p.tables.exec = Jvm.exec → Z.Warmed39 (s.setVm s.vm).vm → c.code = bytes → c.maxLocals = maxL → (s.setVm s.vm).vm.findClass y.cls = some m.cls → meth.name = y.name →
      meth.sig.returnType = ret → meth.locks = false → T.heap = h0 → s.Since s.vm h0.size → h0.size ≤ h0.size → s.heap = h0 → own_Go p e below (own_EndW s Q rm.cells rm.slots) T (entryFrame m as' maxL)) : own_MetW l Z y bytes maxL ret rm as' h0 Q := by
  intro ws
  refine MetFree.of_bodySF hp hisR ?_
  intro p e s m args below meth c s₁ Bd hml0 hP hK
  obtain ⟨rfl, hZ, hh⟩ := hP
  exact k p e s m below meth c s₁ (Stand.of_body Bd) Bd.exec hZ Bd.bytes hml0 (findClass_of_methodNamed Bd.named) (name_of_methodNamed Bd.named Bd.method).1 Bd.returns Bd.notSynchronized (by rw [← hh, Bd.state]; rfl) ((State.WarmedH.refl s).since _) (Nat.le_refl _) hh
theorem own_retW (X : Stand p l e R (s.setVm vm0) m args below meth c T locs cells slots) (hx : p.tables.exec = Jvm.exec) {w : Value} {t : FieldType} {i : Instr} (hret : meth.sig.returnType = some t) (hlk : meth.locks = false) (hd : decode c.code pc = .ok (i, 1)) (hn : narrow t w = w)
    (hi : (i = .ireturn ∧ (t = .int ∨ t = .boolean ∨ t = .byte ∨ t = .char ∨ t = .short) ∧ ∃ z, w = .int z) ∨ (i = .lreturn ∧ t = .long ∧ ∃ z, w = .long z) ∨ (i = .dreturn ∧ t = .double ∧ ∃ z, w = .double z) ∨ (i = .freturn ∧ t = .float ∧ ∃ z, w = .float z) ∨ (i = .areturn ∧ t.isReference = true ∧ w.isRef = true))
    {n : Nat} (hS : s.Since vm0 n) (hk : n ≤ T.heap.size) {Q : Option Value → Heap → List Loc → Prop} {kc kn : Nat} (hc : cells ≤ kc) (hs : slots ≤ kn) (hQ : Q (some w) T.heap locs) : own_Go p e below (own_EndW s Q kc kn) T (mkF m pc Ls (w :: rest)) := by
  obtain ⟨fs, hr, hrun, hended, hE⟩ := X.leaveW hS hk (v := some w) (fun h => by rw [hret] at h; cases h) hlk
  exact ⟨_, _, retOut X hx hret hn hi hd hr, hrun, hended, _, _, rfl, hQ, hE.1, hE.2.1, hE.2.2.1, hE.2.2.2.mono hc hs⟩
theorem own_retIW (X : Stand p l e R (s.setVm vm0) m args below meth c T locs cells slots) (hx : p.tables.exec = Jvm.exec) {z : Int32} {t : FieldType} (hret : meth.sig.returnType = some t) (hlk : meth.locks = false) (hd : decode c.code pc = .ok (.ireturn, 1)) (hn : narrow t (.int z) = .int z)
    (ht : t = .int ∨ t = .boolean ∨ t = .byte ∨ t = .char ∨ t = .short) {n : Nat} (hS : s.Since vm0 n) (hk : n ≤ T.heap.size) {Q : Option Value → Heap → List Loc → Prop} {kc kn : Nat} (hc : cells ≤ kc) (hs : slots ≤ kn) (hQ : Q (some (.int z)) T.heap locs) : own_Go p e below (own_EndW s Q kc kn) T (mkF m pc Ls (.int z :: rest)) :=
  own_retW X hx hret hlk hd hn (Or.inl ⟨rfl, ht, z, rfl⟩) hS hk hc hs hQ
theorem own_retAW (X : Stand p l e R (s.setVm vm0) m args below meth c T locs cells slots) (hx : p.tables.exec = Jvm.exec) {w : Value} {t : FieldType} (hret : meth.sig.returnType = some t) (hlk : meth.locks = false) (hd : decode c.code pc = .ok (.areturn, 1)) (ht : t.isReference = true) (hw : w.isRef = true)
    {n : Nat} (hS : s.Since vm0 n) (hk : n ≤ T.heap.size) {Q : Option Value → Heap → List Loc → Prop} {kc kn : Nat} (hc : cells ≤ kc) (hs : slots ≤ kn) (hQ : Q (some w) T.heap locs) : own_Go p e below (own_EndW s Q kc kn) T (mkF m pc Ls (w :: rest)) :=
  own_retW X hx hret hlk hd (by cases t <;> first | rfl | (cases w <;> rfl) | (simp [FieldType.isReference] at ht)) (Or.inr (Or.inr (Or.inr (Or.inr ⟨rfl, ht, hw⟩)))) hS hk hc hs hQ
theorem own_retVW (X : Stand p l e R (s.setVm vm0) m args below meth c T locs cells slots) (hx : p.tables.exec = Jvm.exec) (hret : meth.sig.returnType = none) (hlk : meth.locks = false) (hd : decode c.code pc = .ok (.return_, 1))
    {n : Nat} (hS : s.Since vm0 n) (hk : n ≤ T.heap.size) {Q : Option Value → Heap → List Loc → Prop} {kc kn : Nat} (hc : cells ≤ kc) (hs : slots ≤ kn) (hQ : Q none T.heap locs) : own_Go p e below (own_EndW s Q kc kn) T (mkF m pc Ls []) := by
  obtain ⟨fs, hr, hrun, hended, hE⟩ := X.leaveW hS hk (v := none) (fun _ => rfl) hlk
  exact ⟨_, _, X.returnOut hx hret hd hr, hrun, hended, _, _, rfl, hQ, hE.1, hE.2.1, hE.2.2.1, hE.2.2.2.mono hc hs⟩
/-- a String constant of which nothing is said but its place -/
theorem own_ldcS (X : Stand p l e R (s.setVm vm0) m args below meth c T locs cells slots) (hx : p.tables.exec = Jvm.exec) (hZ : Z.Warmed39 vm0) {own text : String} {index : Nat} (hown : vm0.findClass own = some m.cls) (w : (Jvm.Cond.stringLink own index text).before a0 Z = true) (wS : ∀ a ∈ Bundle.stringAtoms, a.before a0 Z = true)
    (eT : T.heap = h) {k0 : Nat} (hS : s.Since vm0 k0) (hk : k0 ≤ h.size) (hd : decode c.code pc = .ok (.ldc index, 2)) (n : Nat) (hn : 4 * text.toList.length ≤ n) (hbig : n ≤ 536870912) (hc : cells + 2 ≤ R.cells) (hl : slots + (n + 4) ≤ R.slots)
    (kk : ∀ (a : Addr) (T' : State) (h' : Heap) (k1 : Nat), Stand p l e R (s.setVm T'.vm) m args below meth c T' locs (cells + 2) (slots + (n + 4)) → T'.heap = h' → Ext h h' → s.Since T'.vm k1 → k1 ≤ h'.size → Z.Warmed39 (s.setVm T'.vm).vm → (s.setVm T'.vm).vm.findClass own = some m.cls → own_Go p e below P T' (mkF m (pc + 2) Ls (.ref a :: st))) :
    own_Go p e below P T (mkF m pc Ls st) := by
  obtain ⟨a, T', h', k1, X', e', E, S', hk', hZ', hown', stp⟩ := ldcS X hx hZ hown w wS eT hS hk (g := mkF m pc Ls st) rfl hd hn hbig hc hl
  exact own_go stp (kk a T' h' k1 X' e' E S' hk' hZ' hown')
end Own3
theorem own_bytes : ∀ n : Fin 256, ((Int32.ofNat n.val).toInt8.toInt32 &&& 255) = Int32.ofNat n.val ∧ (Int32.ofNat n.val).toUInt32.toUInt16.toUInt32.toInt32 = Int32.ofNat n.val := by decide +kernel
theorem own_nat (c : Int32) (h : ¬ c < 0 ∧ ¬ (255 : Int32) < c) : ∃ n : Fin 256, c = Int32.ofNat n.val := by
  have e0 : (0 : Int32).toInt = 0 := rfl
  have e1 : (255 : Int32).toInt = 255 := rfl
  obtain ⟨h1, h2⟩ := h
  rw [Int32.lt_iff_toInt_lt, e0] at h1
  rw [Int32.lt_iff_toInt_lt, e1] at h2
  refine ⟨⟨c.toInt.toNat, by omega⟩, Int32.toInt_inj.mp ?_⟩
  rw [Int32.toInt_ofNat_small (by show c.toInt.toNat < 2 ^ 31; omega)]
  show c.toInt = (c.toInt.toNat : Int); omega
theorem own_rt (c : Int32) (h : ¬ c < 0 ∧ ¬ (255 : Int32) < c) : (c.toInt8.toInt32 &&& 255) = c := by obtain ⟨n, rfl⟩ := own_nat c h; exact (own_bytes n).1
theorem own_ic (c : Int32) (h : ¬ c < 0 ∧ ¬ (255 : Int32) < c) : c.toUInt32.toUInt16.toUInt32.toInt32 = c := by obtain ⟨n, rfl⟩ := own_nat c h; exact (own_bytes n).2
theorem own_nc (c : Int32) (h : ¬ c < 0 ∧ ¬ (255 : Int32) < c) : narrow .char (.int c) = .int c := by
  have q := own_ic c h
  show Value.int c.toUInt32.toUInt16.toUInt32.toInt32 = _
  rw [q]
theorem own_and255 (x : Int32) : 0 ≤ (x &&& 255).toInt ∧ (x &&& 255).toInt ≤ 255 := by
  have h : (x &&& 255).toInt = x.toInt % 2 ^ 8 := Jvm.Kit.i32_mask x 255 (k := 8) (by decide) (by decide)
  rw [h]; omega
theorem own_ch (x : Int32) : ¬ (x &&& 255) < 0 ∧ ¬ (255 : Int32) < (x &&& 255) := by
  have h := own_and255 x
  have e0 : (0 : Int32).toInt = 0 := rfl
  have e1 : (255 : Int32).toInt = 255 := rfl
  rw [Int32.lt_iff_toInt_lt, Int32.lt_iff_toInt_lt, e0, e1]; omega
def own_Qi (Z : State) (a1 c0 : Addr) (src : Value) (p2 p3 : Int32) (a4 : Addr) (h0 : Heap) (n0 : Nat) (v : Option Value) (h : Heap) (L : List Loc) : Prop := v = none ∧ Fr n0 L ∧ Keep h0 h [a1] ∧ Fld Z h a1 "com/example/wherewithal/wherewithal/Diagnostic" "severity" "Lcom/example/wherewithal/wherewithal/Diagnostic$Severity;" (.ref c0) ∧ Fld Z h a1 "com/example/wherewithal/wherewithal/Diagnostic" "source" "Ljava/lang/String;" src ∧ Fld Z h a1 "com/example/wherewithal/wherewithal/Diagnostic" "line" "I" (.int p2) ∧ Fld Z h a1 "com/example/wherewithal/wherewithal/Diagnostic" "column" "I" (.int p3) ∧ Fld Z h a1 "com/example/wherewithal/wherewithal/Diagnostic" "message" "Ljava/lang/String;" (.ref a4)
def own_Qe (Z : State) (c0 : Addr) (src : Value) (p2 p3 : Int32) (a4 : Addr) (h0 : Heap) (n0 : Nat) (v : Option Value) (h : Heap) (L : List Loc) : Prop := ∃ d, v = some (.ref d) ∧ Fr n0 L ∧ Keep h0 h [] ∧ h0.size ≤ d ∧ n0 ≤ d ∧ Exa Z h d "com/example/wherewithal/wherewithal/Diagnostic" ∧ Fld Z h d "com/example/wherewithal/wherewithal/Diagnostic" "severity" "Lcom/example/wherewithal/wherewithal/Diagnostic$Severity;" (.ref c0) ∧ Fld Z h d "com/example/wherewithal/wherewithal/Diagnostic" "source" "Ljava/lang/String;" src ∧ Fld Z h d "com/example/wherewithal/wherewithal/Diagnostic" "line" "I" (.int p2) ∧ Fld Z h d "com/example/wherewithal/wherewithal/Diagnostic" "column" "I" (.int p3) ∧ Fld Z h d "com/example/wherewithal/wherewithal/Diagnostic" "message" "Ljava/lang/String;" (.ref a4)
theorem d8_0 : decode prog_5_method_1_code 0 = .ok (.aload_n 0, 1) := by decide +kernel
theorem d8_1 : decode prog_5_method_1_code 1 = .ok (.invokespecial 1, 3) := by decide +kernel
theorem d8_4 : decode prog_5_method_1_code 4 = .ok (.aload_n 0, 1) := by decide +kernel
theorem d8_5 : decode prog_5_method_1_code 5 = .ok (.aload_n 1, 1) := by decide +kernel
theorem d8_6 : decode prog_5_method_1_code 6 = .ok (.putfield 7, 3) := by decide +kernel
theorem d8_9 : decode prog_5_method_1_code 9 = .ok (.aload_n 0, 1) := by decide +kernel
theorem d8_10 : decode prog_5_method_1_code 10 = .ok (.aload_n 2, 1) := by decide +kernel
theorem d8_11 : decode prog_5_method_1_code 11 = .ok (.putfield 13, 3) := by decide +kernel
theorem d8_14 : decode prog_5_method_1_code 14 = .ok (.aload_n 0, 1) := by decide +kernel
theorem d8_15 : decode prog_5_method_1_code 15 = .ok (.iload_n 3, 1) := by decide +kernel
theorem d8_16 : decode prog_5_method_1_code 16 = .ok (.putfield 17, 3) := by decide +kernel
theorem d8_19 : decode prog_5_method_1_code 19 = .ok (.aload_n 0, 1) := by decide +kernel
theorem d8_20 : decode prog_5_method_1_code 20 = .ok (.iload 4, 2) := by decide +kernel
theorem d8_22 : decode prog_5_method_1_code 22 = .ok (.putfield 21, 3) := by decide +kernel
theorem d8_25 : decode prog_5_method_1_code 25 = .ok (.aload_n 0, 1) := by decide +kernel
theorem d8_26 : decode prog_5_method_1_code 26 = .ok (.aload 5, 2) := by decide +kernel
theorem d8_28 : decode prog_5_method_1_code 28 = .ok (.putfield 24, 3) := by decide +kernel
theorem d8_31 : decode prog_5_method_1_code 31 = .ok (.return_, 1) := by decide +kernel
def own_r_own_din : Room := { frames := 1, cells := 0, slots := 0, locals := 12 }
theorem own_din (l : Launch) (Z : State) (a0 : Array Value) (hw : own_W a0 Z) (a1 c0 : Addr) (p2 p3 : Int32) (a4 : Addr) (u_severity u_source u_line u_column u_message : Value) (h0 : Heap) (n0 : Nat) (hO : Old Z n0 h0) (g1 : n0 ≤ a1) (E1 : Exa Z h0 a1 "com/example/wherewithal/wherewithal/Diagnostic") (F_severity : Fld Z h0 a1 "com/example/wherewithal/wherewithal/Diagnostic" "severity" "Lcom/example/wherewithal/wherewithal/Diagnostic$Severity;" u_severity) (F_source : Fld Z h0 a1 "com/example/wherewithal/wherewithal/Diagnostic" "source" "Ljava/lang/String;" u_source) (F_line : Fld Z h0 a1 "com/example/wherewithal/wherewithal/Diagnostic" "line" "I" u_line) (F_column : Fld Z h0 a1 "com/example/wherewithal/wherewithal/Diagnostic" "column" "I" u_column) (F_message : Fld Z h0 a1 "com/example/wherewithal/wherewithal/Diagnostic" "message" "Ljava/lang/String;" u_message) :
    own_Met l Z (⟨"com/example/wherewithal/wherewithal/Diagnostic", "<init>", "(Lcom/example/wherewithal/wherewithal/Diagnostic$Severity;Ljava/lang/String;IILjava/lang/String;)V"⟩ : MethodName) prog_5_method_1_code 6 none own_r_own_din #[(.ref a1), (.ref c0), .null, (.int p2), (.int p3), (.ref a4)] h0 (own_Qi Z a1 c0 .null p2 p3 a4 h0 n0) := by
  refine own_body (by decide +kernel) ?_
  intro p e s m below meth c T0 X0 hx hZ hby hml hown hnm hret hlk e0
  have N0 := Fr.nil n0
  refine own_cast (own_frame (L := [rv a1, rv c0, .val .null, iv p2, iv p3, rv a4]) (ls := #[rv a1, rv c0, .val .null, iv p2, iv p3, rv a4]) rfl rfl) ?_
  refine og_aloadN X0 hx (hb hby d8_0) rfl rfl ?_
  obtain ⟨T1, X1, e1, st1⟩ := initO X0 hx hZ hown (own_hw hw 42 rfl) (own_hw hw 12 rfl) (own_hw hw 13 rfl) e0 (g := (mkF m 1 #[rv a1, rv c0, .val .null, iv p2, iv p3, rv a4] [(.ref a1)])) rfl (by rw [hml]; rfl) rfl (hb hby d8_1) (by decide) (W := 0) (by show 2 * 0 + _ ≤ _; exact Nat.le_of_eq rfl) (by decide)
  refine own_go st1 ?_
  show own_Go p e below _ T1 (mkF m 4 #[rv a1, rv c0, .val .null, iv p2, iv p3, rv a4] [])
  refine og_aloadN X1 hx (hb hby d8_4) rfl rfl ?_
  refine og_aloadN X1 hx (hb hby d8_5) rfl rfl ?_
  obtain ⟨T2, h2, X2, e2, W2, st2⟩ := putF X1 hx hZ hown (host := "") (Or.inl (own_hw hw 43 rfl)) Via.refl e1 F_severity E1 (Or.inr ⟨(own_hw hw 44 rfl), rfl, hnm⟩) (own_hw hw 35 rfl) (ty := (.object "com/example/wherewithal/wherewithal/Diagnostic$Severity")) (by decide) rfl rfl (g := (mkF m 6 #[rv a1, rv c0, .val .null, iv p2, iv p3, rv a4] [(.ref c0), (.ref a1)])) rfl rfl (hb hby d8_6)
  refine own_go st2 ?_
  have E_a1_2 := E1.wr W2
  have F_a1_source_2 := F_source.other W2 (Or.inr (slot_ne (Or.inr (own_hw hw 46 rfl)) (Or.inr (own_hw hw 44 rfl)) (by decide) (t := (.object "java/lang/String")) (t' := (.object "com/example/wherewithal/wherewithal/Diagnostic$Severity")) (by decide) (by decide)))
  have F_a1_line_2 := F_line.other W2 (Or.inr (slot_ne (Or.inr (own_hw hw 48 rfl)) (Or.inr (own_hw hw 44 rfl)) (by decide) (t := .int) (t' := (.object "com/example/wherewithal/wherewithal/Diagnostic$Severity")) (by decide) (by decide)))
  have F_a1_column_2 := F_column.other W2 (Or.inr (slot_ne (Or.inr (own_hw hw 50 rfl)) (Or.inr (own_hw hw 44 rfl)) (by decide) (t := .int) (t' := (.object "com/example/wherewithal/wherewithal/Diagnostic$Severity")) (by decide) (by decide)))
  have F_a1_message_2 := F_message.other W2 (Or.inr (slot_ne (Or.inr (own_hw hw 52 rfl)) (Or.inr (own_hw hw 44 rfl)) (by decide) (t := (.object "java/lang/String")) (t' := (.object "com/example/wherewithal/wherewithal/Diagnostic$Severity")) (by decide) (by decide)))
  have O2 := hO.wr W2 g1
  have K2 := (Keep.refl h0 [a1]).wr W2 (Or.inl (by simp))
  have N2 := Fr.snoc X2 N0 g1
  have F_a1_severity_2 : Fld Z h2 a1 "com/example/wherewithal/wherewithal/Diagnostic" "severity" "Lcom/example/wherewithal/wherewithal/Diagnostic$Severity;" (.ref c0) := F_severity.same W2
  show own_Go p e below _ T2 (mkF m 9 #[rv a1, rv c0, .val .null, iv p2, iv p3, rv a4] [])
  refine og_aloadN X2 hx (hb hby d8_9) rfl rfl ?_
  refine og_aloadN X2 hx (hb hby d8_10) rfl rfl ?_
  obtain ⟨T3, h3, X3, e3, W3, st3⟩ := putF X2 hx hZ hown (host := "") (Or.inl (own_hw hw 45 rfl)) Via.refl e2 F_a1_source_2 E_a1_2 (Or.inr ⟨(own_hw hw 46 rfl), rfl, hnm⟩) (own_hw hw 35 rfl) (ty := (.object "java/lang/String")) (by decide) rfl rfl (g := (mkF m 11 #[rv a1, rv c0, .val .null, iv p2, iv p3, rv a4] [.null, (.ref a1)])) rfl rfl (hb hby d8_11)
  refine own_go st3 ?_
  have E_a1_3 := E_a1_2.wr W3
  have F_a1_line_3 := F_a1_line_2.other W3 (Or.inr (slot_ne (Or.inr (own_hw hw 48 rfl)) (Or.inr (own_hw hw 46 rfl)) (by decide) (t := .int) (t' := (.object "java/lang/String")) (by decide) (by decide)))
  have F_a1_column_3 := F_a1_column_2.other W3 (Or.inr (slot_ne (Or.inr (own_hw hw 50 rfl)) (Or.inr (own_hw hw 46 rfl)) (by decide) (t := .int) (t' := (.object "java/lang/String")) (by decide) (by decide)))
  have F_a1_message_3 := F_a1_message_2.other W3 (Or.inr (slot_ne (Or.inr (own_hw hw 52 rfl)) (Or.inr (own_hw hw 46 rfl)) (by decide) (t := (.object "java/lang/String")) (t' := (.object "java/lang/String")) (by decide) (by decide)))
  have F_a1_severity_3 := F_a1_severity_2.other W3 (Or.inr (slot_ne (Or.inr (own_hw hw 44 rfl)) (Or.inr (own_hw hw 46 rfl)) (by decide) (t := (.object "com/example/wherewithal/wherewithal/Diagnostic$Severity")) (t' := (.object "java/lang/String")) (by decide) (by decide)))
  have O3 := O2.wr W3 g1
  have K3 := K2.wr W3 (Or.inl (by simp))
  have N3 := Fr.snoc X3 N2 g1
  have F_a1_source_3 : Fld Z h3 a1 "com/example/wherewithal/wherewithal/Diagnostic" "source" "Ljava/lang/String;" .null := F_a1_source_2.same W3
  show own_Go p e below _ T3 (mkF m 14 #[rv a1, rv c0, .val .null, iv p2, iv p3, rv a4] [])
  refine og_aloadN X3 hx (hb hby d8_14) rfl rfl ?_
  refine og_iloadN X3 hx (hb hby d8_15) rfl ?_
  obtain ⟨T4, h4, X4, e4, W4, st4⟩ := putF X3 hx hZ hown (host := "") (Or.inl (own_hw hw 47 rfl)) Via.refl e3 F_a1_line_3 E_a1_3 (Or.inr ⟨(own_hw hw 48 rfl), rfl, hnm⟩) (own_hw hw 35 rfl) (ty := .int) (by decide) rfl rfl (g := (mkF m 16 #[rv a1, rv c0, .val .null, iv p2, iv p3, rv a4] [(.int p2), (.ref a1)])) rfl rfl (hb hby d8_16)
  refine own_go st4 ?_
  have E_a1_4 := E_a1_3.wr W4
  have F_a1_column_4 := F_a1_column_3.other W4 (Or.inr (slot_ne (Or.inr (own_hw hw 50 rfl)) (Or.inr (own_hw hw 48 rfl)) (by decide) (t := .int) (t' := .int) (by decide) (by decide)))
  have F_a1_message_4 := F_a1_message_3.other W4 (Or.inr (slot_ne (Or.inr (own_hw hw 52 rfl)) (Or.inr (own_hw hw 48 rfl)) (by decide) (t := (.object "java/lang/String")) (t' := .int) (by decide) (by decide)))
  have F_a1_severity_4 := F_a1_severity_3.other W4 (Or.inr (slot_ne (Or.inr (own_hw hw 44 rfl)) (Or.inr (own_hw hw 48 rfl)) (by decide) (t := (.object "com/example/wherewithal/wherewithal/Diagnostic$Severity")) (t' := .int) (by decide) (by decide)))
  have F_a1_source_4 := F_a1_source_3.other W4 (Or.inr (slot_ne (Or.inr (own_hw hw 46 rfl)) (Or.inr (own_hw hw 48 rfl)) (by decide) (t := (.object "java/lang/String")) (t' := .int) (by decide) (by decide)))
  have O4 := O3.wr W4 g1
  have K4 := K3.wr W4 (Or.inl (by simp))
  have N4 := Fr.snoc X4 N3 g1
  have F_a1_line_4 : Fld Z h4 a1 "com/example/wherewithal/wherewithal/Diagnostic" "line" "I" (.int p2) := F_a1_line_3.same W4
  show own_Go p e below _ T4 (mkF m 19 #[rv a1, rv c0, .val .null, iv p2, iv p3, rv a4] [])
  refine og_aloadN X4 hx (hb hby d8_19) rfl rfl ?_
  refine og_iload X4 hx (hb hby d8_20) rfl ?_
  obtain ⟨T5, h5, X5, e5, W5, st5⟩ := putF X4 hx hZ hown (host := "") (Or.inl (own_hw hw 49 rfl)) Via.refl e4 F_a1_column_4 E_a1_4 (Or.inr ⟨(own_hw hw 50 rfl), rfl, hnm⟩) (own_hw hw 35 rfl) (ty := .int) (by decide) rfl rfl (g := (mkF m 22 #[rv a1, rv c0, .val .null, iv p2, iv p3, rv a4] [(.int p3), (.ref a1)])) rfl rfl (hb hby d8_22)
  refine own_go st5 ?_
  have E_a1_5 := E_a1_4.wr W5
  have F_a1_message_5 := F_a1_message_4.other W5 (Or.inr (slot_ne (Or.inr (own_hw hw 52 rfl)) (Or.inr (own_hw hw 50 rfl)) (by decide) (t := (.object "java/lang/String")) (t' := .int) (by decide) (by decide)))
  have F_a1_severity_5 := F_a1_severity_4.other W5 (Or.inr (slot_ne (Or.inr (own_hw hw 44 rfl)) (Or.inr (own_hw hw 50 rfl)) (by decide) (t := (.object "com/example/wherewithal/wherewithal/Diagnostic$Severity")) (t' := .int) (by decide) (by decide)))
  have F_a1_source_5 := F_a1_source_4.other W5 (Or.inr (slot_ne (Or.inr (own_hw hw 46 rfl)) (Or.inr (own_hw hw 50 rfl)) (by decide) (t := (.object "java/lang/String")) (t' := .int) (by decide) (by decide)))
  have F_a1_line_5 := F_a1_line_4.other W5 (Or.inr (slot_ne (Or.inr (own_hw hw 48 rfl)) (Or.inr (own_hw hw 50 rfl)) (by decide) (t := .int) (t' := .int) (by decide) (by decide)))
  have O5 := O4.wr W5 g1
  have K5 := K4.wr W5 (Or.inl (by simp))
  have N5 := Fr.snoc X5 N4 g1
  have F_a1_column_5 : Fld Z h5 a1 "com/example/wherewithal/wherewithal/Diagnostic" "column" "I" (.int p3) := F_a1_column_4.same W5
  show own_Go p e below _ T5 (mkF m 25 #[rv a1, rv c0, .val .null, iv p2, iv p3, rv a4] [])
  refine og_aloadN X5 hx (hb hby d8_25) rfl rfl ?_
  refine og_aload X5 hx (hb hby d8_26) rfl rfl ?_
  obtain ⟨T6, h6, X6, e6, W6, st6⟩ := putF X5 hx hZ hown (host := "") (Or.inl (own_hw hw 51 rfl)) Via.refl e5 F_a1_message_5 E_a1_5 (Or.inr ⟨(own_hw hw 52 rfl), rfl, hnm⟩) (own_hw hw 35 rfl) (ty := (.object "java/lang/String")) (by decide) rfl rfl (g := (mkF m 28 #[rv a1, rv c0, .val .null, iv p2, iv p3, rv a4] [(.ref a4), (.ref a1)])) rfl rfl (hb hby d8_28)
  refine own_go st6 ?_
  have E_a1_6 := E_a1_5.wr W6
  have F_a1_severity_6 := F_a1_severity_5.other W6 (Or.inr (slot_ne (Or.inr (own_hw hw 44 rfl)) (Or.inr (own_hw hw 52 rfl)) (by decide) (t := (.object "com/example/wherewithal/wherewithal/Diagnostic$Severity")) (t' := (.object "java/lang/String")) (by decide) (by decide)))
  have F_a1_source_6 := F_a1_source_5.other W6 (Or.inr (slot_ne (Or.inr (own_hw hw 46 rfl)) (Or.inr (own_hw hw 52 rfl)) (by decide) (t := (.object "java/lang/String")) (t' := (.object "java/lang/String")) (by decide) (by decide)))
  have F_a1_line_6 := F_a1_line_5.other W6 (Or.inr (slot_ne (Or.inr (own_hw hw 48 rfl)) (Or.inr (own_hw hw 52 rfl)) (by decide) (t := .int) (t' := (.object "java/lang/String")) (by decide) (by decide)))
  have F_a1_column_6 := F_a1_column_5.other W6 (Or.inr (slot_ne (Or.inr (own_hw hw 50 rfl)) (Or.inr (own_hw hw 52 rfl)) (by decide) (t := .int) (t' := (.object "java/lang/String")) (by decide) (by decide)))
  have O6 := O5.wr W6 g1
  have K6 := K5.wr W6 (Or.inl (by simp))
  have N6 := Fr.snoc X6 N5 g1
  have F_a1_message_6 : Fld Z h6 a1 "com/example/wherewithal/wherewithal/Diagnostic" "message" "Ljava/lang/String;" (.ref a4) := F_a1_message_5.same W6
  show own_Go p e below _ T6 (mkF m 31 #[rv a1, rv c0, .val .null, iv p2, iv p3, rv a4] [])
  exact own_retV X6 hx hret hlk (hb hby d8_31) (by decide) (by decide) (by rw [e6]; exact ⟨rfl, N6, K6, F_a1_severity_6, F_a1_source_6, F_a1_line_6, F_a1_column_6, F_a1_message_6⟩)
theorem d7_0 : decode prog_5_method_2_code 0 = .ok (.new 8, 3) := by decide +kernel
theorem d7_3 : decode prog_5_method_2_code 3 = .ok (.dup, 1) := by decide +kernel
theorem d7_4 : decode prog_5_method_2_code 4 = .ok (.getstatic 27, 3) := by decide +kernel
theorem d7_7 : decode prog_5_method_2_code 7 = .ok (.aload_n 0, 1) := by decide +kernel
theorem d7_8 : decode prog_5_method_2_code 8 = .ok (.iload_n 1, 1) := by decide +kernel
theorem d7_9 : decode prog_5_method_2_code 9 = .ok (.iload_n 2, 1) := by decide +kernel
theorem d7_10 : decode prog_5_method_2_code 10 = .ok (.aload_n 3, 1) := by decide +kernel
theorem d7_11 : decode prog_5_method_2_code 11 = .ok (.invokespecial 32, 3) := by decide +kernel
theorem d7_14 : decode prog_5_method_2_code 14 = .ok (.areturn, 1) := by decide +kernel
theorem own_pd28647 : parseMethodDescriptor "(Lcom/example/wherewithal/wherewithal/Diagnostic$Severity;Ljava/lang/String;IILjava/lang/String;)V" = some ⟨[(.object "com/example/wherewithal/wherewithal/Diagnostic$Severity"), (.object "java/lang/String"), .int, .int, (.object "java/lang/String")], none⟩ := by decide +kernel
def own_r_own_den : Room := { frames := 2, cells := 1, slots := 5, locals := 30 }
theorem own_den (l : Launch) (Z : State) (a0 : Array Value) (hw : own_W a0 Z) (c0 : Addr) (p2 p3 : Int32) (a4 : Addr) (h0 : Heap) (n0 : Nat) (hO : Old Z n0 h0) (SE : Sta Z Z.heap "com/example/wherewithal/wherewithal/Diagnostic$Severity" "ERROR" "Lcom/example/wherewithal/wherewithal/Diagnostic$Severity;" (.ref c0)) :
    own_Met l Z (⟨"com/example/wherewithal/wherewithal/Diagnostic", "error", "(Ljava/lang/String;IILjava/lang/String;)Lcom/example/wherewithal/wherewithal/Diagnostic;"⟩ : MethodName) prog_5_method_2_code 4 (some (.object "com/example/wherewithal/wherewithal/Diagnostic")) own_r_own_den #[.null, (.int p2), (.int p3), (.ref a4)] h0 (own_Qe Z c0 .null p2 p3 a4 h0 n0) := by
  refine own_body (by decide +kernel) ?_
  intro p e s m below meth c T0 X0 hx hZ hby hml hown hnm hret hlk e0
  have N0 := Fr.nil n0
  refine own_cast (own_frame (L := [.val .null, iv p2, iv p3, rv a4]) (ls := #[.val .null, iv p2, iv p3, rv a4]) rfl rfl) ?_
  refine own_newO X0 hx hZ hown (own_hw hw 34 rfl) (own_hw hw 35 rfl) (own_hw hw 32 rfl) e0 (hb hby d7_0) (by decide) (by decide) ?_
  intro T1 h1 b1 g1 X1 e1 E1 A1 D1
  have ge_b1 : n0 ≤ b1 := Nat.le_trans (own_oldle hO) (Nat.le_of_eq g1.symm)
  have sz_b1 : h0.size ≤ b1 := Nat.le_trans (Keep.refl h0 []).1 (Nat.le_of_eq g1.symm)
  have O1 := hO.ext E1
  have K1 := (Keep.refl h0 []).ext E1
  have F_b1_severity_1 : Fld Z h1 b1 "com/example/wherewithal/wherewithal/Diagnostic" "severity" "Lcom/example/wherewithal/wherewithal/Diagnostic$Severity;" .null := D1 (Or.inr (own_hw hw 44 rfl)) (ty := (.object "com/example/wherewithal/wherewithal/Diagnostic$Severity")) (by decide)
  have F_b1_source_1 : Fld Z h1 b1 "com/example/wherewithal/wherewithal/Diagnostic" "source" "Ljava/lang/String;" .null := D1 (Or.inr (own_hw hw 46 rfl)) (ty := (.object "java/lang/String")) (by decide)
  have F_b1_line_1 : Fld Z h1 b1 "com/example/wherewithal/wherewithal/Diagnostic" "line" "I" (.int 0) := D1 (Or.inr (own_hw hw 48 rfl)) (ty := .int) (by decide)
  have F_b1_column_1 : Fld Z h1 b1 "com/example/wherewithal/wherewithal/Diagnostic" "column" "I" (.int 0) := D1 (Or.inr (own_hw hw 50 rfl)) (ty := .int) (by decide)
  have F_b1_message_1 : Fld Z h1 b1 "com/example/wherewithal/wherewithal/Diagnostic" "message" "Ljava/lang/String;" .null := D1 (Or.inr (own_hw hw 52 rfl)) (ty := (.object "java/lang/String")) (by decide)
  show own_Go p e below _ T1 (mkF m 3 #[.val .null, iv p2, iv p3, rv a4] [(.ref b1)])
  refine og_dup X1 hx (hb hby d7_3) rfl ?_
  refine og_getS X1 hx hZ hown (own_hw hw 36 rfl) Via.refl e1 (SE.ext O1.2) (hb hby d7_4) ?_
  intro T2 X2 e2
  refine og_aloadN X2 hx (hb hby d7_7) rfl rfl ?_
  refine og_iloadN X2 hx (hb hby d7_8) rfl ?_
  refine og_iloadN X2 hx (hb hby d7_9) rfl ?_
  refine og_aloadN X2 hx (hb hby d7_10) rfl rfl ?_
  refine own_callN X2 hx hZ hown (own_hw hw 39 rfl) (own_hw hw 40 rfl) (own_hw hw 41 rfl) (own_hw hw 32 rfl) (by decide) rfl (b := b1) (argsL := [(.ref c0), .null, (.int p2), (.int p3), (.ref a4)]) (rest := [(.ref b1)]) (own_din l Z a0 hw b1 c0 p2 p3 a4 _ _ _ _ _ h1 n0 O1 ge_b1 A1 F_b1_severity_1 F_b1_source_1 F_b1_line_1 F_b1_column_1 F_b1_message_1) e2 (by rw [hml]; rfl) (lenOf own_pd28647 rfl) rfl (hb hby d7_11) (W := 1) (Nat.le_of_eq rfl) (by decide) ?_
  intro v3 T3 L3 X3 q3
  obtain ⟨rfl, N3q, K3q, G3_severity, G3_source, G3_line, G3_column, G3_message⟩ := q3
  have N3 := Fr.app N0 N3q
  have E_b1_3 := A1.keep K3q
  have O3 := O1.keep K3q (allS ge_b1 all0)
  have K3 := K1.trans K3q (allS (Or.inr sz_b1) all0)
  show own_Go p e below _ T3 (mkF m 14 #[.val .null, iv p2, iv p3, rv a4] [(.ref b1)])
  exact own_retA X3 hx hret hlk (hb hby d7_14) rfl rfl (by decide) (by decide) (⟨b1, rfl, N3, K3, sz_b1, ge_b1, E_b1_3, G3_severity, G3_source, G3_line, G3_column, G3_message⟩)
theorem d10_0 : decode prog_5_method_11_code 0 = .ok (.aload_n 0, 1) := by decide +kernel
theorem d10_1 : decode prog_5_method_11_code 1 = .ok (.getfield 13, 3) := by decide +kernel
theorem d10_4 : decode prog_5_method_11_code 4 = .ok (.areturn, 1) := by decide +kernel
def own_r_own_dsn : Room := { frames := 0, cells := 0, slots := 0, locals := 0 }
theorem own_dsn (l : Launch) (Z : State) (a0 : Array Value) (hw : own_W a0 Z) (a1 : Addr) (h0 : Heap) (n0 : Nat) (F1 : Fld Z h0 a1 "com/example/wherewithal/wherewithal/Diagnostic" "source" "Ljava/lang/String;" .null) :
    own_Met l Z (⟨"com/example/wherewithal/wherewithal/Diagnostic", "source", "()Ljava/lang/String;"⟩ : MethodName) prog_5_method_11_code 1 (some (.object "java/lang/String")) own_r_own_dsn #[(.ref a1)] h0 (own_Qv (some .null) h0 n0) := by
  refine own_body (by decide +kernel) ?_
  intro p e s m below meth c T0 X0 hx hZ hby hml hown hnm hret hlk e0
  have N0 := Fr.nil n0
  refine own_cast (own_frame (L := [rv a1]) (ls := #[rv a1]) rfl rfl) ?_
  refine og_aloadN X0 hx (hb hby d10_0) rfl rfl ?_
  refine og_getF X0 hx hZ hown (own_hw hw 45 rfl) Via.refl e0 F1 (hb hby d10_1) ?_
  intro T1 X1 e1
  show own_Go p e below _ T1 (mkF m 4 #[rv a1] [.null])
  exact own_retA X1 hx hret hlk (hb hby d10_4) rfl rfl (by decide) (by decide) (⟨rfl, N0, e1⟩)
def own_r_own_dir : Room := { frames := 1, cells := 0, slots := 0, locals := 12 }
theorem own_dir (l : Launch) (Z : State) (a0 : Array Value) (hw : own_W a0 Z) (a1 c0 : Addr) (a2 : Addr) (p2 p3 : Int32) (a4 : Addr) (u_severity u_source u_line u_column u_message : Value) (h0 : Heap) (n0 : Nat) (hO : Old Z n0 h0) (g1 : n0 ≤ a1) (E1 : Exa Z h0 a1 "com/example/wherewithal/wherewithal/Diagnostic") (F_severity : Fld Z h0 a1 "com/example/wherewithal/wherewithal/Diagnostic" "severity" "Lcom/example/wherewithal/wherewithal/Diagnostic$Severity;" u_severity) (F_source : Fld Z h0 a1 "com/example/wherewithal/wherewithal/Diagnostic" "source" "Ljava/lang/String;" u_source) (F_line : Fld Z h0 a1 "com/example/wherewithal/wherewithal/Diagnostic" "line" "I" u_line) (F_column : Fld Z h0 a1 "com/example/wherewithal/wherewithal/Diagnostic" "column" "I" u_column) (F_message : Fld Z h0 a1 "com/example/wherewithal/wherewithal/Diagnostic" "message" "Ljava/lang/String;" u_message) :
    own_Met l Z (⟨"com/example/wherewithal/wherewithal/Diagnostic", "<init>", "(Lcom/example/wherewithal/wherewithal/Diagnostic$Severity;Ljava/lang/String;IILjava/lang/String;)V"⟩ : MethodName) prog_5_method_1_code 6 none own_r_own_dir #[(.ref a1), (.ref c0), (.ref a2), (.int p2), (.int p3), (.ref a4)] h0 (own_Qi Z a1 c0 (.ref a2) p2 p3 a4 h0 n0) := by
  refine own_body (by decide +kernel) ?_
  intro p e s m below meth c T0 X0 hx hZ hby hml hown hnm hret hlk e0
  have N0 := Fr.nil n0
  refine own_cast (own_frame (L := [rv a1, rv c0, rv a2, iv p2, iv p3, rv a4]) (ls := #[rv a1, rv c0, rv a2, iv p2, iv p3, rv a4]) rfl rfl) ?_
  refine og_aloadN X0 hx (hb hby d8_0) rfl rfl ?_
  obtain ⟨T1, X1, e1, st1⟩ := initO X0 hx hZ hown (own_hw hw 42 rfl) (own_hw hw 12 rfl) (own_hw hw 13 rfl) e0 (g := (mkF m 1 #[rv a1, rv c0, rv a2, iv p2, iv p3, rv a4] [(.ref a1)])) rfl (by rw [hml]; rfl) rfl (hb hby d8_1) (by decide) (W := 0) (by show 2 * 0 + _ ≤ _; exact Nat.le_of_eq rfl) (by decide)
  refine own_go st1 ?_
  show own_Go p e below _ T1 (mkF m 4 #[rv a1, rv c0, rv a2, iv p2, iv p3, rv a4] [])
  refine og_aloadN X1 hx (hb hby d8_4) rfl rfl ?_
  refine og_aloadN X1 hx (hb hby d8_5) rfl rfl ?_
  obtain ⟨T2, h2, X2, e2, W2, st2⟩ := putF X1 hx hZ hown (host := "") (Or.inl (own_hw hw 43 rfl)) Via.refl e1 F_severity E1 (Or.inr ⟨(own_hw hw 44 rfl), rfl, hnm⟩) (own_hw hw 35 rfl) (ty := (.object "com/example/wherewithal/wherewithal/Diagnostic$Severity")) (by decide) rfl rfl (g := (mkF m 6 #[rv a1, rv c0, rv a2, iv p2, iv p3, rv a4] [(.ref c0), (.ref a1)])) rfl rfl (hb hby d8_6)
  refine own_go st2 ?_
  have E_a1_2 := E1.wr W2
  have F_a1_source_2 := F_source.other W2 (Or.inr (slot_ne (Or.inr (own_hw hw 46 rfl)) (Or.inr (own_hw hw 44 rfl)) (by decide) (t := (.object "java/lang/String")) (t' := (.object "com/example/wherewithal/wherewithal/Diagnostic$Severity")) (by decide) (by decide)))
  have F_a1_line_2 := F_line.other W2 (Or.inr (slot_ne (Or.inr (own_hw hw 48 rfl)) (Or.inr (own_hw hw 44 rfl)) (by decide) (t := .int) (t' := (.object "com/example/wherewithal/wherewithal/Diagnostic$Severity")) (by decide) (by decide)))
  have F_a1_column_2 := F_column.other W2 (Or.inr (slot_ne (Or.inr (own_hw hw 50 rfl)) (Or.inr (own_hw hw 44 rfl)) (by decide) (t := .int) (t' := (.object "com/example/wherewithal/wherewithal/Diagnostic$Severity")) (by decide) (by decide)))
  have F_a1_message_2 := F_message.other W2 (Or.inr (slot_ne (Or.inr (own_hw hw 52 rfl)) (Or.inr (own_hw hw 44 rfl)) (by decide) (t := (.object "java/lang/String")) (t' := (.object "com/example/wherewithal/wherewithal/Diagnostic$Severity")) (by decide) (by decide)))
  have O2 := hO.wr W2 g1
  have K2 := (Keep.refl h0 [a1]).wr W2 (Or.inl (by simp))
  have N2 := Fr.snoc X2 N0 g1
  have F_a1_severity_2 : Fld Z h2 a1 "com/example/wherewithal/wherewithal/Diagnostic" "severity" "Lcom/example/wherewithal/wherewithal/Diagnostic$Severity;" (.ref c0) := F_severity.same W2
  show own_Go p e below _ T2 (mkF m 9 #[rv a1, rv c0, rv a2, iv p2, iv p3, rv a4] [])
  refine og_aloadN X2 hx (hb hby d8_9) rfl rfl ?_
  refine og_aloadN X2 hx (hb hby d8_10) rfl rfl ?_
  obtain ⟨T3, h3, X3, e3, W3, st3⟩ := putF X2 hx hZ hown (host := "") (Or.inl (own_hw hw 45 rfl)) Via.refl e2 F_a1_source_2 E_a1_2 (Or.inr ⟨(own_hw hw 46 rfl), rfl, hnm⟩) (own_hw hw 35 rfl) (ty := (.object "java/lang/String")) (by decide) rfl rfl (g := (mkF m 11 #[rv a1, rv c0, rv a2, iv p2, iv p3, rv a4] [(.ref a2), (.ref a1)])) rfl rfl (hb hby d8_11)
  refine own_go st3 ?_
  have E_a1_3 := E_a1_2.wr W3
  have F_a1_line_3 := F_a1_line_2.other W3 (Or.inr (slot_ne (Or.inr (own_hw hw 48 rfl)) (Or.inr (own_hw hw 46 rfl)) (by decide) (t := .int) (t' := (.object "java/lang/String")) (by decide) (by decide)))
  have F_a1_column_3 := F_a1_column_2.other W3 (Or.inr (slot_ne (Or.inr (own_hw hw 50 rfl)) (Or.inr (own_hw hw 46 rfl)) (by decide) (t := .int) (t' := (.object "java/lang/String")) (by decide) (by decide)))
  have F_a1_message_3 := F_a1_message_2.other W3 (Or.inr (slot_ne (Or.inr (own_hw hw 52 rfl)) (Or.inr (own_hw hw 46 rfl)) (by decide) (t := (.object "java/lang/String")) (t' := (.object "java/lang/String")) (by decide) (by decide)))
  have F_a1_severity_3 := F_a1_severity_2.other W3 (Or.inr (slot_ne (Or.inr (own_hw hw 44 rfl)) (Or.inr (own_hw hw 46 rfl)) (by decide) (t := (.object "com/example/wherewithal/wherewithal/Diagnostic$Severity")) (t' := (.object "java/lang/String")) (by decide) (by decide)))
  have O3 := O2.wr W3 g1
  have K3 := K2.wr W3 (Or.inl (by simp))
  have N3 := Fr.snoc X3 N2 g1
  have F_a1_source_3 : Fld Z h3 a1 "com/example/wherewithal/wherewithal/Diagnostic" "source" "Ljava/lang/String;" (.ref a2) := F_a1_source_2.same W3
  show own_Go p e below _ T3 (mkF m 14 #[rv a1, rv c0, rv a2, iv p2, iv p3, rv a4] [])
  refine og_aloadN X3 hx (hb hby d8_14) rfl rfl ?_
  refine og_iloadN X3 hx (hb hby d8_15) rfl ?_
  obtain ⟨T4, h4, X4, e4, W4, st4⟩ := putF X3 hx hZ hown (host := "") (Or.inl (own_hw hw 47 rfl)) Via.refl e3 F_a1_line_3 E_a1_3 (Or.inr ⟨(own_hw hw 48 rfl), rfl, hnm⟩) (own_hw hw 35 rfl) (ty := .int) (by decide) rfl rfl (g := (mkF m 16 #[rv a1, rv c0, rv a2, iv p2, iv p3, rv a4] [(.int p2), (.ref a1)])) rfl rfl (hb hby d8_16)
  refine own_go st4 ?_
  have E_a1_4 := E_a1_3.wr W4
  have F_a1_column_4 := F_a1_column_3.other W4 (Or.inr (slot_ne (Or.inr (own_hw hw 50 rfl)) (Or.inr (own_hw hw 48 rfl)) (by decide) (t := .int) (t' := .int) (by decide) (by decide)))
  have F_a1_message_4 := F_a1_message_3.other W4 (Or.inr (slot_ne (Or.inr (own_hw hw 52 rfl)) (Or.inr (own_hw hw 48 rfl)) (by decide) (t := (.object "java/lang/String")) (t' := .int) (by decide) (by decide)))
  have F_a1_severity_4 := F_a1_severity_3.other W4 (Or.inr (slot_ne (Or.inr (own_hw hw 44 rfl)) (Or.inr (own_hw hw 48 rfl)) (by decide) (t := (.object "com/example/wherewithal/wherewithal/Diagnostic$Severity")) (t' := .int) (by decide) (by decide)))
  have F_a1_source_4 := F_a1_source_3.other W4 (Or.inr (slot_ne (Or.inr (own_hw hw 46 rfl)) (Or.inr (own_hw hw 48 rfl)) (by decide) (t := (.object "java/lang/String")) (t' := .int) (by decide) (by decide)))
  have O4 := O3.wr W4 g1
  have K4 := K3.wr W4 (Or.inl (by simp))
  have N4 := Fr.snoc X4 N3 g1
  have F_a1_line_4 : Fld Z h4 a1 "com/example/wherewithal/wherewithal/Diagnostic" "line" "I" (.int p2) := F_a1_line_3.same W4
  show own_Go p e below _ T4 (mkF m 19 #[rv a1, rv c0, rv a2, iv p2, iv p3, rv a4] [])
  refine og_aloadN X4 hx (hb hby d8_19) rfl rfl ?_
  refine og_iload X4 hx (hb hby d8_20) rfl ?_
  obtain ⟨T5, h5, X5, e5, W5, st5⟩ := putF X4 hx hZ hown (host := "") (Or.inl (own_hw hw 49 rfl)) Via.refl e4 F_a1_column_4 E_a1_4 (Or.inr ⟨(own_hw hw 50 rfl), rfl, hnm⟩) (own_hw hw 35 rfl) (ty := .int) (by decide) rfl rfl (g := (mkF m 22 #[rv a1, rv c0, rv a2, iv p2, iv p3, rv a4] [(.int p3), (.ref a1)])) rfl rfl (hb hby d8_22)
  refine own_go st5 ?_
  have E_a1_5 := E_a1_4.wr W5
  have F_a1_message_5 := F_a1_message_4.other W5 (Or.inr (slot_ne (Or.inr (own_hw hw 52 rfl)) (Or.inr (own_hw hw 50 rfl)) (by decide) (t := (.object "java/lang/String")) (t' := .int) (by decide) (by decide)))
  have F_a1_severity_5 := F_a1_severity_4.other W5 (Or.inr (slot_ne (Or.inr (own_hw hw 44 rfl)) (Or.inr (own_hw hw 50 rfl)) (by decide) (t := (.object "com/example/wherewithal/wherewithal/Diagnostic$Severity")) (t' := .int) (by decide) (by decide)))
  have F_a1_source_5 := F_a1_source_4.other W5 (Or.inr (slot_ne (Or.inr (own_hw hw 46 rfl)) (Or.inr (own_hw hw 50 rfl)) (by decide) (t := (.object "java/lang/String")) (t' := .int) (by decide) (by decide)))
  have F_a1_line_5 := F_a1_line_4.other W5 (Or.inr (slot_ne (Or.inr (own_hw hw 48 rfl)) (Or.inr (own_hw hw 50 rfl)) (by decide) (t := .int) (t' := .int) (by decide) (by decide)))
  have O5 := O4.wr W5 g1
  have K5 := K4.wr W5 (Or.inl (by simp))
  have N5 := Fr.snoc X5 N4 g1
  have F_a1_column_5 : Fld Z h5 a1 "com/example/wherewithal/wherewithal/Diagnostic" "column" "I" (.int p3) := F_a1_column_4.same W5
  show own_Go p e below _ T5 (mkF m 25 #[rv a1, rv c0, rv a2, iv p2, iv p3, rv a4] [])
  refine og_aloadN X5 hx (hb hby d8_25) rfl rfl ?_
  refine og_aload X5 hx (hb hby d8_26) rfl rfl ?_
  obtain ⟨T6, h6, X6, e6, W6, st6⟩ := putF X5 hx hZ hown (host := "") (Or.inl (own_hw hw 51 rfl)) Via.refl e5 F_a1_message_5 E_a1_5 (Or.inr ⟨(own_hw hw 52 rfl), rfl, hnm⟩) (own_hw hw 35 rfl) (ty := (.object "java/lang/String")) (by decide) rfl rfl (g := (mkF m 28 #[rv a1, rv c0, rv a2, iv p2, iv p3, rv a4] [(.ref a4), (.ref a1)])) rfl rfl (hb hby d8_28)
  refine own_go st6 ?_
  have E_a1_6 := E_a1_5.wr W6
  have F_a1_severity_6 := F_a1_severity_5.other W6 (Or.inr (slot_ne (Or.inr (own_hw hw 44 rfl)) (Or.inr (own_hw hw 52 rfl)) (by decide) (t := (.object "com/example/wherewithal/wherewithal/Diagnostic$Severity")) (t' := (.object "java/lang/String")) (by decide) (by decide)))
  have F_a1_source_6 := F_a1_source_5.other W6 (Or.inr (slot_ne (Or.inr (own_hw hw 46 rfl)) (Or.inr (own_hw hw 52 rfl)) (by decide) (t := (.object "java/lang/String")) (t' := (.object "java/lang/String")) (by decide) (by decide)))
  have F_a1_line_6 := F_a1_line_5.other W6 (Or.inr (slot_ne (Or.inr (own_hw hw 48 rfl)) (Or.inr (own_hw hw 52 rfl)) (by decide) (t := .int) (t' := (.object "java/lang/String")) (by decide) (by decide)))
  have F_a1_column_6 := F_a1_column_5.other W6 (Or.inr (slot_ne (Or.inr (own_hw hw 50 rfl)) (Or.inr (own_hw hw 52 rfl)) (by decide) (t := .int) (t' := (.object "java/lang/String")) (by decide) (by decide)))
  have O6 := O5.wr W6 g1
  have K6 := K5.wr W6 (Or.inl (by simp))
  have N6 := Fr.snoc X6 N5 g1
  have F_a1_message_6 : Fld Z h6 a1 "com/example/wherewithal/wherewithal/Diagnostic" "message" "Ljava/lang/String;" (.ref a4) := F_a1_message_5.same W6
  show own_Go p e below _ T6 (mkF m 31 #[rv a1, rv c0, rv a2, iv p2, iv p3, rv a4] [])
  exact own_retV X6 hx hret hlk (hb hby d8_31) (by decide) (by decide) (by rw [e6]; exact ⟨rfl, N6, K6, F_a1_severity_6, F_a1_source_6, F_a1_line_6, F_a1_column_6, F_a1_message_6⟩)
def own_r_own_der : Room := { frames := 2, cells := 1, slots := 5, locals := 30 }
theorem own_der (l : Launch) (Z : State) (a0 : Array Value) (hw : own_W a0 Z) (c0 : Addr) (a2 : Addr) (p2 p3 : Int32) (a4 : Addr) (h0 : Heap) (n0 : Nat) (hO : Old Z n0 h0) (SE : Sta Z Z.heap "com/example/wherewithal/wherewithal/Diagnostic$Severity" "ERROR" "Lcom/example/wherewithal/wherewithal/Diagnostic$Severity;" (.ref c0)) :
    own_Met l Z (⟨"com/example/wherewithal/wherewithal/Diagnostic", "error", "(Ljava/lang/String;IILjava/lang/String;)Lcom/example/wherewithal/wherewithal/Diagnostic;"⟩ : MethodName) prog_5_method_2_code 4 (some (.object "com/example/wherewithal/wherewithal/Diagnostic")) own_r_own_der #[(.ref a2), (.int p2), (.int p3), (.ref a4)] h0 (own_Qe Z c0 (.ref a2) p2 p3 a4 h0 n0) := by
  refine own_body (by decide +kernel) ?_
  intro p e s m below meth c T0 X0 hx hZ hby hml hown hnm hret hlk e0
  have N0 := Fr.nil n0
  refine own_cast (own_frame (L := [rv a2, iv p2, iv p3, rv a4]) (ls := #[rv a2, iv p2, iv p3, rv a4]) rfl rfl) ?_
  refine own_newO X0 hx hZ hown (own_hw hw 34 rfl) (own_hw hw 35 rfl) (own_hw hw 32 rfl) e0 (hb hby d7_0) (by decide) (by decide) ?_
  intro T1 h1 b1 g1 X1 e1 E1 A1 D1
  have ge_b1 : n0 ≤ b1 := Nat.le_trans (own_oldle hO) (Nat.le_of_eq g1.symm)
  have sz_b1 : h0.size ≤ b1 := Nat.le_trans (Keep.refl h0 []).1 (Nat.le_of_eq g1.symm)
  have O1 := hO.ext E1
  have K1 := (Keep.refl h0 []).ext E1
  have F_b1_severity_1 : Fld Z h1 b1 "com/example/wherewithal/wherewithal/Diagnostic" "severity" "Lcom/example/wherewithal/wherewithal/Diagnostic$Severity;" .null := D1 (Or.inr (own_hw hw 44 rfl)) (ty := (.object "com/example/wherewithal/wherewithal/Diagnostic$Severity")) (by decide)
  have F_b1_source_1 : Fld Z h1 b1 "com/example/wherewithal/wherewithal/Diagnostic" "source" "Ljava/lang/String;" .null := D1 (Or.inr (own_hw hw 46 rfl)) (ty := (.object "java/lang/String")) (by decide)
  have F_b1_line_1 : Fld Z h1 b1 "com/example/wherewithal/wherewithal/Diagnostic" "line" "I" (.int 0) := D1 (Or.inr (own_hw hw 48 rfl)) (ty := .int) (by decide)
  have F_b1_column_1 : Fld Z h1 b1 "com/example/wherewithal/wherewithal/Diagnostic" "column" "I" (.int 0) := D1 (Or.inr (own_hw hw 50 rfl)) (ty := .int) (by decide)
  have F_b1_message_1 : Fld Z h1 b1 "com/example/wherewithal/wherewithal/Diagnostic" "message" "Ljava/lang/String;" .null := D1 (Or.inr (own_hw hw 52 rfl)) (ty := (.object "java/lang/String")) (by decide)
  show own_Go p e below _ T1 (mkF m 3 #[rv a2, iv p2, iv p3, rv a4] [(.ref b1)])
  refine og_dup X1 hx (hb hby d7_3) rfl ?_
  refine og_getS X1 hx hZ hown (own_hw hw 36 rfl) Via.refl e1 (SE.ext O1.2) (hb hby d7_4) ?_
  intro T2 X2 e2
  refine og_aloadN X2 hx (hb hby d7_7) rfl rfl ?_
  refine og_iloadN X2 hx (hb hby d7_8) rfl ?_
  refine og_iloadN X2 hx (hb hby d7_9) rfl ?_
  refine og_aloadN X2 hx (hb hby d7_10) rfl rfl ?_
  refine own_callN X2 hx hZ hown (own_hw hw 39 rfl) (own_hw hw 40 rfl) (own_hw hw 41 rfl) (own_hw hw 32 rfl) (by decide) rfl (b := b1) (argsL := [(.ref c0), (.ref a2), (.int p2), (.int p3), (.ref a4)]) (rest := [(.ref b1)]) (own_dir l Z a0 hw b1 c0 a2 p2 p3 a4 _ _ _ _ _ h1 n0 O1 ge_b1 A1 F_b1_severity_1 F_b1_source_1 F_b1_line_1 F_b1_column_1 F_b1_message_1) e2 (by rw [hml]; rfl) (lenOf own_pd28647 rfl) rfl (hb hby d7_11) (W := 1) (Nat.le_of_eq rfl) (by decide) ?_
  intro v3 T3 L3 X3 q3
  obtain ⟨rfl, N3q, K3q, G3_severity, G3_source, G3_line, G3_column, G3_message⟩ := q3
  have N3 := Fr.app N0 N3q
  have E_b1_3 := A1.keep K3q
  have O3 := O1.keep K3q (allS ge_b1 all0)
  have K3 := K1.trans K3q (allS (Or.inr sz_b1) all0)
  show own_Go p e below _ T3 (mkF m 14 #[rv a2, iv p2, iv p3, rv a4] [(.ref b1)])
  exact own_retA X3 hx hret hlk (hb hby d7_14) rfl rfl (by decide) (by decide) (⟨b1, rfl, N3, K3, sz_b1, ge_b1, E_b1_3, G3_severity, G3_source, G3_line, G3_column, G3_message⟩)
def own_r_own_dsr : Room := { frames := 0, cells := 0, slots := 0, locals := 0 }
theorem own_dsr (l : Launch) (Z : State) (a0 : Array Value) (hw : own_W a0 Z) (a1 : Addr) (a2 : Addr) (h0 : Heap) (n0 : Nat) (F1 : Fld Z h0 a1 "com/example/wherewithal/wherewithal/Diagnostic" "source" "Ljava/lang/String;" (.ref a2)) :
    own_Met l Z (⟨"com/example/wherewithal/wherewithal/Diagnostic", "source", "()Ljava/lang/String;"⟩ : MethodName) prog_5_method_11_code 1 (some (.object "java/lang/String")) own_r_own_dsr #[(.ref a1)] h0 (own_Qv (some (.ref a2)) h0 n0) := by
  refine own_body (by decide +kernel) ?_
  intro p e s m below meth c T0 X0 hx hZ hby hml hown hnm hret hlk e0
  have N0 := Fr.nil n0
  refine own_cast (own_frame (L := [rv a1]) (ls := #[rv a1]) rfl rfl) ?_
  refine og_aloadN X0 hx (hb hby d10_0) rfl rfl ?_
  refine og_getF X0 hx hZ hown (own_hw hw 45 rfl) Via.refl e0 F1 (hb hby d10_1) ?_
  intro T1 X1 e1
  show own_Go p e below _ T1 (mkF m 4 #[rv a1] [(.ref a2)])
  exact own_retA X1 hx hret hlk (hb hby d10_4) rfl rfl (by decide) (by decide) (⟨rfl, N0, e1⟩)
theorem d9_0 : decode prog_5_method_10_code 0 = .ok (.aload_n 0, 1) := by decide +kernel
theorem d9_1 : decode prog_5_method_10_code 1 = .ok (.getfield 7, 3) := by decide +kernel
theorem d9_4 : decode prog_5_method_10_code 4 = .ok (.areturn, 1) := by decide +kernel
def own_r_own_g_severity : Room := { frames := 0, cells := 0, slots := 0, locals := 0 }
theorem own_g_severity (l : Launch) (Z : State) (a0 : Array Value) (hw : own_W a0 Z) (a1 : Addr) (c0 : Addr) (h0 : Heap) (n0 : Nat) (F1 : Fld Z h0 a1 "com/example/wherewithal/wherewithal/Diagnostic" "severity" "Lcom/example/wherewithal/wherewithal/Diagnostic$Severity;" (.ref c0)) :
    own_Met l Z (⟨"com/example/wherewithal/wherewithal/Diagnostic", "severity", "()Lcom/example/wherewithal/wherewithal/Diagnostic$Severity;"⟩ : MethodName) prog_5_method_10_code 1 (some (.object "com/example/wherewithal/wherewithal/Diagnostic$Severity")) own_r_own_g_severity #[(.ref a1)] h0 (own_Qv (some (.ref c0)) h0 n0) := by
  refine own_body (by decide +kernel) ?_
  intro p e s m below meth c T0 X0 hx hZ hby hml hown hnm hret hlk e0
  have N0 := Fr.nil n0
  refine own_cast (own_frame (L := [rv a1]) (ls := #[rv a1]) rfl rfl) ?_
  refine og_aloadN X0 hx (hb hby d9_0) rfl rfl ?_
  refine og_getF X0 hx hZ hown (own_hw hw 43 rfl) Via.refl e0 F1 (hb hby d9_1) ?_
  intro T1 X1 e1
  show own_Go p e below _ T1 (mkF m 4 #[rv a1] [(.ref c0)])
  exact own_retA X1 hx hret hlk (hb hby d9_4) rfl rfl (by decide) (by decide) (⟨rfl, N0, e1⟩)
theorem d11_0 : decode prog_5_method_12_code 0 = .ok (.aload_n 0, 1) := by decide +kernel
theorem d11_1 : decode prog_5_method_12_code 1 = .ok (.getfield 17, 3) := by decide +kernel
theorem d11_4 : decode prog_5_method_12_code 4 = .ok (.ireturn, 1) := by decide +kernel
def own_r_own_g_line : Room := { frames := 0, cells := 0, slots := 0, locals := 0 }
theorem own_g_line (l : Launch) (Z : State) (a0 : Array Value) (hw : own_W a0 Z) (a1 : Addr) (p2 : Int32) (h0 : Heap) (n0 : Nat) (F1 : Fld Z h0 a1 "com/example/wherewithal/wherewithal/Diagnostic" "line" "I" (.int p2)) :
    own_Met l Z (⟨"com/example/wherewithal/wherewithal/Diagnostic", "line", "()I"⟩ : MethodName) prog_5_method_12_code 1 (some .int) own_r_own_g_line #[(.ref a1)] h0 (own_Qv (some (.int p2)) h0 n0) := by
  refine own_body (by decide +kernel) ?_
  intro p e s m below meth c T0 X0 hx hZ hby hml hown hnm hret hlk e0
  have N0 := Fr.nil n0
  refine own_cast (own_frame (L := [rv a1]) (ls := #[rv a1]) rfl rfl) ?_
  refine og_aloadN X0 hx (hb hby d11_0) rfl rfl ?_
  refine og_getF X0 hx hZ hown (own_hw hw 47 rfl) Via.refl e0 F1 (hb hby d11_1) ?_
  intro T1 X1 e1
  show own_Go p e below _ T1 (mkF m 4 #[rv a1] [(.int p2)])
  exact own_retI X1 hx hret hlk (hb hby d11_4) rfl (by simp) (by decide) (by decide) (⟨rfl, N0, e1⟩)
theorem d12_0 : decode prog_5_method_13_code 0 = .ok (.aload_n 0, 1) := by decide +kernel
theorem d12_1 : decode prog_5_method_13_code 1 = .ok (.getfield 21, 3) := by decide +kernel
theorem d12_4 : decode prog_5_method_13_code 4 = .ok (.ireturn, 1) := by decide +kernel
def own_r_own_g_column : Room := { frames := 0, cells := 0, slots := 0, locals := 0 }
theorem own_g_column (l : Launch) (Z : State) (a0 : Array Value) (hw : own_W a0 Z) (a1 : Addr) (p2 : Int32) (h0 : Heap) (n0 : Nat) (F1 : Fld Z h0 a1 "com/example/wherewithal/wherewithal/Diagnostic" "column" "I" (.int p2)) :
    own_Met l Z (⟨"com/example/wherewithal/wherewithal/Diagnostic", "column", "()I"⟩ : MethodName) prog_5_method_13_code 1 (some .int) own_r_own_g_column #[(.ref a1)] h0 (own_Qv (some (.int p2)) h0 n0) := by
  refine own_body (by decide +kernel) ?_
  intro p e s m below meth c T0 X0 hx hZ hby hml hown hnm hret hlk e0
  have N0 := Fr.nil n0
  refine own_cast (own_frame (L := [rv a1]) (ls := #[rv a1]) rfl rfl) ?_
  refine og_aloadN X0 hx (hb hby d12_0) rfl rfl ?_
  refine og_getF X0 hx hZ hown (own_hw hw 49 rfl) Via.refl e0 F1 (hb hby d12_1) ?_
  intro T1 X1 e1
  show own_Go p e below _ T1 (mkF m 4 #[rv a1] [(.int p2)])
  exact own_retI X1 hx hret hlk (hb hby d12_4) rfl (by simp) (by decide) (by decide) (⟨rfl, N0, e1⟩)
theorem d13_0 : decode prog_5_method_14_code 0 = .ok (.aload_n 0, 1) := by decide +kernel
theorem d13_1 : decode prog_5_method_14_code 1 = .ok (.getfield 24, 3) := by decide +kernel
theorem d13_4 : decode prog_5_method_14_code 4 = .ok (.areturn, 1) := by decide +kernel
def own_r_own_g_message : Room := { frames := 0, cells := 0, slots := 0, locals := 0 }
theorem own_g_message (l : Launch) (Z : State) (a0 : Array Value) (hw : own_W a0 Z) (a1 : Addr) (c0 : Addr) (h0 : Heap) (n0 : Nat) (F1 : Fld Z h0 a1 "com/example/wherewithal/wherewithal/Diagnostic" "message" "Ljava/lang/String;" (.ref c0)) :
    own_Met l Z (⟨"com/example/wherewithal/wherewithal/Diagnostic", "message", "()Ljava/lang/String;"⟩ : MethodName) prog_5_method_14_code 1 (some (.object "java/lang/String")) own_r_own_g_message #[(.ref a1)] h0 (own_Qv (some (.ref c0)) h0 n0) := by
  refine own_body (by decide +kernel) ?_
  intro p e s m below meth c T0 X0 hx hZ hby hml hown hnm hret hlk e0
  have N0 := Fr.nil n0
  refine own_cast (own_frame (L := [rv a1]) (ls := #[rv a1]) rfl rfl) ?_
  refine og_aloadN X0 hx (hb hby d13_0) rfl rfl ?_
  refine og_getF X0 hx hZ hown (own_hw hw 51 rfl) Via.refl e0 F1 (hb hby d13_1) ?_
  intro T1 X1 e1
  show own_Go p e below _ T1 (mkF m 4 #[rv a1] [(.ref c0)])
  exact own_retA X1 hx hret hlk (hb hby d13_4) rfl rfl (by decide) (by decide) (⟨rfl, N0, e1⟩)
theorem own_pd46664 : parseMethodDescriptor "([C)V" = some ⟨[(.array .char)], none⟩ := by decide +kernel
theorem own_pd51426 : parseMethodDescriptor "(Ljava/lang/String;IILjava/lang/String;)Lcom/example/wherewithal/wherewithal/Diagnostic;" = some ⟨[(.object "java/lang/String"), .int, .int, (.object "java/lang/String")], some (.object "com/example/wherewithal/wherewithal/Diagnostic")⟩ := by decide +kernel
theorem own_pd64778 : parseMethodDescriptor "()Lcom/example/wherewithal/wherewithal/Diagnostic$Severity;" = some ⟨[], some (.object "com/example/wherewithal/wherewithal/Diagnostic$Severity")⟩ := by decide +kernel
theorem own_pd53479 : parseMethodDescriptor "()Ljava/lang/String;" = some ⟨[], some (.object "java/lang/String")⟩ := by decide +kernel
theorem own_pd13941 : parseMethodDescriptor "()I" = some ⟨[], some .int⟩ := by decide +kernel
theorem own_rm0 (l : Launch) (Z : State) (a0 : Array Value) (hw : own_W a0 Z) (p1 p2 p3 p4 p5 z : Int32) (c0 : Addr) (h0 : Heap) (n0 : Nat) (hO : Old Z n0 h0) (SC : Sta Z Z.heap "java/lang/String" "COMPACT_STRINGS" "Z" (.int z)) (hz : ¬ z = 0) (SE : Sta Z Z.heap "com/example/wherewithal/wherewithal/Diagnostic$Severity" "ERROR" "Lcom/example/wherewithal/wherewithal/Diagnostic$Severity;" (.ref c0)) :
    own_MetW l Z x code maxLocals ret room_1 #[(.int p1), (.int p2), (.int p3), (.int p4), (.int p5)] h0 (own_Q1 n0) := by
  refine own_bodyW (by decide +kernel) ?_
  intro p e s m below meth c T0 X0 hx hZ hby hml hown hnm hret hlk e0 hS hk hs0
  have hwS : ∀ a ∈ Bundle.stringAtoms, a.before a0 Z = true := fun d hd => hw d ((by decide +kernel : ∀ d ∈ Bundle.stringAtoms, d ∈ tables_1) d hd)
  have N0 := Fr.nil n0
  refine own_cast (own_frame (L := [iv p1, iv p2, iv p3, iv p4, iv p5]) (ls := #[iv p1, iv p2, iv p3, iv p4, iv p5, .unset, .unset, .unset, .unset, .unset, .unset, .unset, .unset]) rfl rfl) ?_
  refine og_iload X0 hx (hb hby at_0) rfl ?_
  refine og_iconst X0 hx (hb hby at_2) ?_
  refine og_iand X0 hx (hb hby at_3) ?_
  show own_Go p e below _ T0 (mkF m 4 #[iv p1, iv p2, iv p3, iv p4, iv p5, .unset, .unset, .unset, .unset, .unset, .unset, .unset, .unset] [(.int (p5 &&& 1))])
  by_cases hc4 : (p5 &&& 1) = 0
  · refine og_ifY X0 hx 13 (hb hby at_4) (teq hc4).1 (by decide) (by decide) ?_
    refine og_iconst X0 hx (hb hby at_13) ?_
    refine own_newP X0 hx hZ (own_hw hw 0 rfl) e0 (hb hby at_14) (by decide) 2 (by decide) (by decide) (by decide) (by decide) ?_
    intro T1 h1 k1 b1 g1 X1 e1 E1 A1
    have ge_b1 : n0 ≤ b1 := Nat.le_trans (own_oldle hO) (Nat.le_of_eq g1.symm)
    have hk1 := Nat.le_trans hk E1.1
    have O1 := hO.ext E1
    have A_b1_1 : Arv Z h1 b1 k1 .char 2 [(.int (0 : Int32)), (.int (0 : Int32))] (.int (0 : Int32)) := A1
    show own_Go p e below _ T1 (mkF m 16 #[iv p1, iv p2, iv p3, iv p4, iv p5, .unset, .unset, .unset, .unset, .unset, .unset, .unset, .unset] [(.ref b1)])
    refine og_astore X1 hx #[iv p1, iv p2, iv p3, iv p4, iv p5, .unset, rv b1, .unset, .unset, .unset, .unset, .unset, .unset] (hb hby at_16) rfl rfl ?_
    refine og_aload X1 hx (hb hby at_18) rfl rfl ?_
    refine og_iconst X1 hx (hb hby at_20) ?_
    refine og_iloadN X1 hx (hb hby at_21) rfl ?_
    refine og_sipush X1 hx (hb hby at_22) ?_
    refine og_iand X1 hx (hb hby at_25) ?_
    show own_Go p e below _ T1 (mkF m 26 #[iv p1, iv p2, iv p3, iv p4, iv p5, .unset, rv b1, .unset, .unset, .unset, .unset, .unset, .unset] [(.int (p3 &&& 255)), (.int 0), (.ref b1)])
    refine own_go (fun t k => XS.i2c X1.here hx rfl (hb hby at_26) rfl k) ?_
    show own_Go p e below _ T1 (mkF m 27 #[iv p1, iv p2, iv p3, iv p4, iv p5, .unset, rv b1, .unset, .unset, .unset, .unset, .unset, .unset] [(.int ((p3 &&& 255).toUInt32.toUInt16.toUInt32.toInt32)), (.int 0), (.ref b1)])
    obtain ⟨c2, hc2, ec2⟩ : ∃ c : Int32, (¬ c < 0 ∧ ¬ (255 : Int32) < c) ∧ (p3 &&& 255).toUInt32.toUInt16.toUInt32.toInt32 = c := ⟨_, own_ch _, i2c_mask _⟩
    rw [ec2]
    show own_Go p e below _ T1 (mkF m 27 #[iv p1, iv p2, iv p3, iv p4, iv p5, .unset, rv b1, .unset, .unset, .unset, .unset, .unset, .unset] [(.int c2), (.int 0), (.ref b1)])
    refine own_stC X1 hx hZ e1 A_b1_1 ⟨by decide, by decide⟩ 0 rfl (by show 0 < 2; decide) (hb hby at_27) ?_
    intro T3 h3 X3 e3 W3 A3
    have hk3 := Nat.le_trans hk1 (Keep.of_wr W3).1
    have O3 := O1.wr W3 ge_b1
    have N3 := Fr.snoc X3 N0 ge_b1
    have A_b1_3 : Arv Z h3 b1 k1 .char 2 [(.int c2), (.int (0 : Int32))] (.int (0 : Int32)) := (by have q := A3; rw [show nar .char c2 = c2 from own_ic _ hc2] at q; exact q)
    show own_Go p e below _ T3 (mkF m 28 #[iv p1, iv p2, iv p3, iv p4, iv p5, .unset, rv b1, .unset, .unset, .unset, .unset, .unset, .unset] [])
    refine og_aload X3 hx (hb hby at_28) rfl rfl ?_
    refine og_iconst X3 hx (hb hby at_30) ?_
    refine og_iloadN X3 hx (hb hby at_31) rfl ?_
    refine og_bipush X3 hx (hb hby at_32) ?_
    refine own_go (fun t k => XS.iushr X3.here hx rfl (hb hby at_34) rfl k) ?_
    show own_Go p e below _ T3 (mkF m 35 #[iv p1, iv p2, iv p3, iv p4, iv p5, .unset, rv b1, .unset, .unset, .unset, .unset, .unset, .unset] [(.int ((p3.toUInt32 >>> ((8 : Int32) &&& 31).toUInt32).toInt32)), (.int 1), (.ref b1)])
    refine og_sipush X3 hx (hb hby at_35) ?_
    refine og_iand X3 hx (hb hby at_38) ?_
    show own_Go p e below _ T3 (mkF m 39 #[iv p1, iv p2, iv p3, iv p4, iv p5, .unset, rv b1, .unset, .unset, .unset, .unset, .unset, .unset] [(.int (((p3.toUInt32 >>> ((8 : Int32) &&& 31).toUInt32).toInt32) &&& 255)), (.int 1), (.ref b1)])
    refine own_go (fun t k => XS.i2c X3.here hx rfl (hb hby at_39) rfl k) ?_
    show own_Go p e below _ T3 (mkF m 40 #[iv p1, iv p2, iv p3, iv p4, iv p5, .unset, rv b1, .unset, .unset, .unset, .unset, .unset, .unset] [(.int ((((p3.toUInt32 >>> ((8 : Int32) &&& 31).toUInt32).toInt32) &&& 255).toUInt32.toUInt16.toUInt32.toInt32)), (.int 1), (.ref b1)])
    obtain ⟨c4, hc4, ec4⟩ : ∃ c : Int32, (¬ c < 0 ∧ ¬ (255 : Int32) < c) ∧ (((p3.toUInt32 >>> ((8 : Int32) &&& 31).toUInt32).toInt32) &&& 255).toUInt32.toUInt16.toUInt32.toInt32 = c := ⟨_, own_ch _, i2c_mask _⟩
    rw [ec4]
    show own_Go p e below _ T3 (mkF m 40 #[iv p1, iv p2, iv p3, iv p4, iv p5, .unset, rv b1, .unset, .unset, .unset, .unset, .unset, .unset] [(.int c4), (.int 1), (.ref b1)])
    refine own_stC X3 hx hZ e3 A_b1_3 ⟨by decide, by decide⟩ 1 rfl (by show 1 < 2; decide) (hb hby at_40) ?_
    intro T5 h5 X5 e5 W5 A5
    have hk5 := Nat.le_trans hk3 (Keep.of_wr W5).1
    have O5 := O3.wr W5 ge_b1
    have N5 := Fr.snoc X5 N3 ge_b1
    have A_b1_5 : Arv Z h5 b1 k1 .char 2 [(.int c2), (.int c4)] (.int (0 : Int32)) := (by have q := A5; rw [show nar .char c4 = c4 from own_ic _ hc4] at q; exact q)
    show own_Go p e below _ T5 (mkF m 41 #[iv p1, iv p2, iv p3, iv p4, iv p5, .unset, rv b1, .unset, .unset, .unset, .unset, .unset, .unset] [])
    refine own_newO X5 hx hZ hown (own_hw hw 1 rfl) (own_hw hw 2 rfl) (own_hw hw 3 rfl) e5 (hb hby at_41) (by decide) (by decide) ?_
    intro T6 h6 b6 g6 X6 e6 E6 A6 D6
    have ne_b1_b6 : b1 ≠ b6 := Nat.ne_of_lt (Nat.lt_of_lt_of_eq A_b1_5.lt g6.symm)
    have ge_b6 : n0 ≤ b6 := Nat.le_trans (own_oldle O5) (Nat.le_of_eq g6.symm)
    have hk6 := Nat.le_trans hk5 E6.1
    have A_b1_6 := A_b1_5.ext E6
    have O6 := O5.ext E6
    have F_b6_coder_6 : Fld Z h6 b6 "java/lang/String" "coder" "B" (.int 0) := D6 (Or.inr (own_hw hw 27 rfl)) (ty := .byte) (by decide)
    have F_b6_value_6 : Fld Z h6 b6 "java/lang/String" "value" "[B" .null := D6 (Or.inr (own_hw hw 29 rfl)) (ty := (.array .byte)) (by decide)
    show own_Go p e below _ T6 (mkF m 44 #[iv p1, iv p2, iv p3, iv p4, iv p5, .unset, rv b1, .unset, .unset, .unset, .unset, .unset, .unset] [(.ref b6)])
    refine og_dup X6 hx (hb hby at_44) rfl ?_
    refine og_aload X6 hx (hb hby at_45) rfl rfl ?_
    have hws : ∀ d ∈ StrChars.Road.words, d.before a0 Z = true := fun d hd => hw d ((by decide +kernel : ∀ d ∈ StrChars.Road.words, d ∈ tables_1) d hd)
    have hp7 : ∀ c ∈ ([c2, c4] : List Int32), ¬ c < 0 ∧ ¬ (255 : Int32) < c := by
      intro c hc; simp only [List.mem_cons, List.not_mem_nil, or_false] at hc; rcases hc with rfl | rfl <;> assumption
    refine own_callNB X6 hx hZ hown (own_hw hw 4 rfl) (own_hw hw 5 rfl) (own_hw hw 6 rfl) (own_hw hw 3 rfl) (by decide) rfl (b := b6) (argsL := [(.ref b1)]) (rest := [(.ref b6)]) (StrChars.Road.backV (W := 1) hZ hws (kI := 4) (own_hw hw 2 rfl) (cs := ([c2, c4] : List Int32)) (bs := (([c2, c4] : List Int32)).map (fun c => c.toInt8.toInt32)) (n := 2) ge_b6 (own_oldle O6) A6 F_b6_value_6 F_b6_coder_6 A_b1_6 (SC.ext O6.2) hz rfl rfl (by decide) (by decide) hp7 rfl (by decide) (by decide)) e6 (by rw [hml]; rfl) (lenOf own_pd46664 rfl) rfl (hb hby at_47) (Nat.le_of_eq rfl) (by decide) (by decide) ?_
    intro v7 T7 L7 X7 q7
    obtain ⟨rfl, N7q, K7q, E7q, C7q, vb7, kb7, ge7, z7q, ne7q, V7q, A7q⟩ := q7
    have N7 := Fr.app N5 N7q
    have ne_b1_vb7 : b1 ≠ vb7 := Nat.ne_of_lt (Nat.lt_of_lt_of_le A_b1_6.lt z7q)
    have ne_b6_vb7 : b6 ≠ vb7 := Nat.ne_of_lt (Nat.lt_of_lt_of_le A6.lt z7q)
    have hk7 := Nat.le_trans hk6 K7q.1
    have A_b1_7 := A_b1_6.keep K7q (ninS ne_b1_b6 nin0)
    have E_b6_7 := A6.keep K7q
    have O7 := O6.keep K7q (allS ge_b6 all0)
    show own_Go p e below _ T7 (mkF m 50 #[iv p1, iv p2, iv p3, iv p4, iv p5, .unset, rv b1, .unset, .unset, .unset, .unset, .unset, .unset] [(.ref b6)])
    refine og_astore X7 hx #[iv p1, iv p2, iv p3, iv p4, iv p5, rv b6, rv b1, .unset, .unset, .unset, .unset, .unset, .unset] (hb hby at_50) rfl rfl ?_
    refine og_iload X7 hx (hb hby at_52) rfl ?_
    refine og_iconst X7 hx (hb hby at_54) ?_
    refine og_iand X7 hx (hb hby at_55) ?_
    show own_Go p e below _ T7 (mkF m 56 #[iv p1, iv p2, iv p3, iv p4, iv p5, rv b6, rv b1, .unset, .unset, .unset, .unset, .unset, .unset] [(.int (p5 &&& 2))])
    by_cases hc56 : (p5 &&& 2) = 0
    · refine og_ifY X7 hx 66 (hb hby at_56) (teq hc56).1 (by decide) (by decide) ?_
      refine og_iconst X7 hx (hb hby at_66) ?_
      refine own_newP X7 hx hZ (own_hw hw 0 rfl) rfl (hb hby at_67) (by decide) 2 (by decide) (by decide) (by decide) (by decide) ?_
      intro T8 h8 k8 b8 g8 X8 e8 E8 A8
      have ne_b1_b8 : b1 ≠ b8 := Nat.ne_of_lt (Nat.lt_of_lt_of_eq A_b1_7.lt g8.symm)
      have ne_b6_b8 : b6 ≠ b8 := Nat.ne_of_lt (Nat.lt_of_lt_of_eq E_b6_7.lt g8.symm)
      have ne_vb7_b8 : vb7 ≠ b8 := Nat.ne_of_lt (Nat.lt_of_lt_of_eq A7q.lt g8.symm)
      have ge_b8 : n0 ≤ b8 := Nat.le_trans (own_oldle O7) (Nat.le_of_eq g8.symm)
      have hk8 := Nat.le_trans hk7 E8.1
      have A_b1_8 := A_b1_7.ext E8
      have E_b6_8 := E_b6_7.ext E8
      have F_b6_coder_8 := C7q.ext E8
      have F_b6_value_8 := V7q.ext E8
      have A_vb7_8 := A7q.ext E8
      have O8 := O7.ext E8
      have A_b8_8 : Arv Z h8 b8 k8 .char 2 [(.int (0 : Int32)), (.int (0 : Int32))] (.int (0 : Int32)) := A8
      show own_Go p e below _ T8 (mkF m 69 #[iv p1, iv p2, iv p3, iv p4, iv p5, rv b6, rv b1, .unset, .unset, .unset, .unset, .unset, .unset] [(.ref b8)])
      refine og_astore X8 hx #[iv p1, iv p2, iv p3, iv p4, iv p5, rv b6, rv b1, rv b8, .unset, .unset, .unset, .unset, .unset] (hb hby at_69) rfl rfl ?_
      refine og_aload X8 hx (hb hby at_71) rfl rfl ?_
      refine og_iconst X8 hx (hb hby at_73) ?_
      refine og_iloadN X8 hx (hb hby at_74) rfl ?_
      refine og_sipush X8 hx (hb hby at_75) ?_
      refine og_iand X8 hx (hb hby at_78) ?_
      show own_Go p e below _ T8 (mkF m 79 #[iv p1, iv p2, iv p3, iv p4, iv p5, rv b6, rv b1, rv b8, .unset, .unset, .unset, .unset, .unset] [(.int (p4 &&& 255)), (.int 0), (.ref b8)])
      refine own_go (fun t k => XS.i2c X8.here hx rfl (hb hby at_79) rfl k) ?_
      show own_Go p e below _ T8 (mkF m 80 #[iv p1, iv p2, iv p3, iv p4, iv p5, rv b6, rv b1, rv b8, .unset, .unset, .unset, .unset, .unset] [(.int ((p4 &&& 255).toUInt32.toUInt16.toUInt32.toInt32)), (.int 0), (.ref b8)])
      obtain ⟨c9, hc9, ec9⟩ : ∃ c : Int32, (¬ c < 0 ∧ ¬ (255 : Int32) < c) ∧ (p4 &&& 255).toUInt32.toUInt16.toUInt32.toInt32 = c := ⟨_, own_ch _, i2c_mask _⟩
      rw [ec9]
      show own_Go p e below _ T8 (mkF m 80 #[iv p1, iv p2, iv p3, iv p4, iv p5, rv b6, rv b1, rv b8, .unset, .unset, .unset, .unset, .unset] [(.int c9), (.int 0), (.ref b8)])
      refine own_stC X8 hx hZ e8 A_b8_8 ⟨by decide, by decide⟩ 0 rfl (by show 0 < 2; decide) (hb hby at_80) ?_
      intro T10 h10 X10 e10 W10 A10
      have hk10 := Nat.le_trans hk8 (Keep.of_wr W10).1
      have A_b1_10 := A_b1_8.other W10 ne_b1_b8
      have E_b6_10 := E_b6_8.wr W10
      have F_b6_coder_10 := F_b6_coder_8.other W10 (Or.inl ne_b6_b8)
      have F_b6_value_10 := F_b6_value_8.other W10 (Or.inl ne_b6_b8)
      have A_vb7_10 := A_vb7_8.other W10 ne_vb7_b8
      have O10 := O8.wr W10 ge_b8
      have N10 := Fr.snoc X10 N7 ge_b8
      have A_b8_10 : Arv Z h10 b8 k8 .char 2 [(.int c9), (.int (0 : Int32))] (.int (0 : Int32)) := (by have q := A10; rw [show nar .char c9 = c9 from own_ic _ hc9] at q; exact q)
      show own_Go p e below _ T10 (mkF m 81 #[iv p1, iv p2, iv p3, iv p4, iv p5, rv b6, rv b1, rv b8, .unset, .unset, .unset, .unset, .unset] [])
      refine og_aload X10 hx (hb hby at_81) rfl rfl ?_
      refine og_iconst X10 hx (hb hby at_83) ?_
      refine og_iloadN X10 hx (hb hby at_84) rfl ?_
      refine og_bipush X10 hx (hb hby at_85) ?_
      refine own_go (fun t k => XS.iushr X10.here hx rfl (hb hby at_87) rfl k) ?_
      show own_Go p e below _ T10 (mkF m 88 #[iv p1, iv p2, iv p3, iv p4, iv p5, rv b6, rv b1, rv b8, .unset, .unset, .unset, .unset, .unset] [(.int ((p4.toUInt32 >>> ((8 : Int32) &&& 31).toUInt32).toInt32)), (.int 1), (.ref b8)])
      refine og_sipush X10 hx (hb hby at_88) ?_
      refine og_iand X10 hx (hb hby at_91) ?_
      show own_Go p e below _ T10 (mkF m 92 #[iv p1, iv p2, iv p3, iv p4, iv p5, rv b6, rv b1, rv b8, .unset, .unset, .unset, .unset, .unset] [(.int (((p4.toUInt32 >>> ((8 : Int32) &&& 31).toUInt32).toInt32) &&& 255)), (.int 1), (.ref b8)])
      refine own_go (fun t k => XS.i2c X10.here hx rfl (hb hby at_92) rfl k) ?_
      show own_Go p e below _ T10 (mkF m 93 #[iv p1, iv p2, iv p3, iv p4, iv p5, rv b6, rv b1, rv b8, .unset, .unset, .unset, .unset, .unset] [(.int ((((p4.toUInt32 >>> ((8 : Int32) &&& 31).toUInt32).toInt32) &&& 255).toUInt32.toUInt16.toUInt32.toInt32)), (.int 1), (.ref b8)])
      obtain ⟨c11, hc11, ec11⟩ : ∃ c : Int32, (¬ c < 0 ∧ ¬ (255 : Int32) < c) ∧ (((p4.toUInt32 >>> ((8 : Int32) &&& 31).toUInt32).toInt32) &&& 255).toUInt32.toUInt16.toUInt32.toInt32 = c := ⟨_, own_ch _, i2c_mask _⟩
      rw [ec11]
      show own_Go p e below _ T10 (mkF m 93 #[iv p1, iv p2, iv p3, iv p4, iv p5, rv b6, rv b1, rv b8, .unset, .unset, .unset, .unset, .unset] [(.int c11), (.int 1), (.ref b8)])
      refine own_stC X10 hx hZ e10 A_b8_10 ⟨by decide, by decide⟩ 1 rfl (by show 1 < 2; decide) (hb hby at_93) ?_
      intro T12 h12 X12 e12 W12 A12
      have hk12 := Nat.le_trans hk10 (Keep.of_wr W12).1
      have A_b1_12 := A_b1_10.other W12 ne_b1_b8
      have E_b6_12 := E_b6_10.wr W12
      have F_b6_coder_12 := F_b6_coder_10.other W12 (Or.inl ne_b6_b8)
      have F_b6_value_12 := F_b6_value_10.other W12 (Or.inl ne_b6_b8)
      have A_vb7_12 := A_vb7_10.other W12 ne_vb7_b8
      have O12 := O10.wr W12 ge_b8
      have N12 := Fr.snoc X12 N10 ge_b8
      have A_b8_12 : Arv Z h12 b8 k8 .char 2 [(.int c9), (.int c11)] (.int (0 : Int32)) := (by have q := A12; rw [show nar .char c11 = c11 from own_ic _ hc11] at q; exact q)
      show own_Go p e below _ T12 (mkF m 94 #[iv p1, iv p2, iv p3, iv p4, iv p5, rv b6, rv b1, rv b8, .unset, .unset, .unset, .unset, .unset] [])
      refine own_newO X12 hx hZ hown (own_hw hw 1 rfl) (own_hw hw 2 rfl) (own_hw hw 3 rfl) e12 (hb hby at_94) (by decide) (by decide) ?_
      intro T13 h13 b13 g13 X13 e13 E13 A13 D13
      have ne_b1_b13 : b1 ≠ b13 := Nat.ne_of_lt (Nat.lt_of_lt_of_eq A_b1_12.lt g13.symm)
      have ne_b6_b13 : b6 ≠ b13 := Nat.ne_of_lt (Nat.lt_of_lt_of_eq E_b6_12.lt g13.symm)
      have ne_b8_b13 : b8 ≠ b13 := Nat.ne_of_lt (Nat.lt_of_lt_of_eq A_b8_12.lt g13.symm)
      have ne_vb7_b13 : vb7 ≠ b13 := Nat.ne_of_lt (Nat.lt_of_lt_of_eq A_vb7_12.lt g13.symm)
      have ge_b13 : n0 ≤ b13 := Nat.le_trans (own_oldle O12) (Nat.le_of_eq g13.symm)
      have hk13 := Nat.le_trans hk12 E13.1
      have A_b1_13 := A_b1_12.ext E13
      have E_b6_13 := E_b6_12.ext E13
      have F_b6_coder_13 := F_b6_coder_12.ext E13
      have F_b6_value_13 := F_b6_value_12.ext E13
      have A_vb7_13 := A_vb7_12.ext E13
      have A_b8_13 := A_b8_12.ext E13
      have O13 := O12.ext E13
      have F_b13_coder_13 : Fld Z h13 b13 "java/lang/String" "coder" "B" (.int 0) := D13 (Or.inr (own_hw hw 27 rfl)) (ty := .byte) (by decide)
      have F_b13_value_13 : Fld Z h13 b13 "java/lang/String" "value" "[B" .null := D13 (Or.inr (own_hw hw 29 rfl)) (ty := (.array .byte)) (by decide)
      show own_Go p e below _ T13 (mkF m 97 #[iv p1, iv p2, iv p3, iv p4, iv p5, rv b6, rv b1, rv b8, .unset, .unset, .unset, .unset, .unset] [(.ref b13)])
      refine og_dup X13 hx (hb hby at_97) rfl ?_
      refine og_aload X13 hx (hb hby at_98) rfl rfl ?_
      have hws : ∀ d ∈ StrChars.Road.words, d.before a0 Z = true := fun d hd => hw d ((by decide +kernel : ∀ d ∈ StrChars.Road.words, d ∈ tables_1) d hd)
      have hp14 : ∀ c ∈ ([c9, c11] : List Int32), ¬ c < 0 ∧ ¬ (255 : Int32) < c := by
        intro c hc; simp only [List.mem_cons, List.not_mem_nil, or_false] at hc; rcases hc with rfl | rfl <;> assumption
      refine own_callNB X13 hx hZ hown (own_hw hw 4 rfl) (own_hw hw 5 rfl) (own_hw hw 6 rfl) (own_hw hw 3 rfl) (by decide) rfl (b := b13) (argsL := [(.ref b8)]) (rest := [(.ref b13)]) (StrChars.Road.backV (W := 1) hZ hws (kI := 4) (own_hw hw 2 rfl) (cs := ([c9, c11] : List Int32)) (bs := (([c9, c11] : List Int32)).map (fun c => c.toInt8.toInt32)) (n := 2) ge_b13 (own_oldle O13) A13 F_b13_value_13 F_b13_coder_13 A_b8_13 (SC.ext O13.2) hz rfl rfl (by decide) (by decide) hp14 rfl (by decide) (by decide)) e13 (by rw [hml]; rfl) (lenOf own_pd46664 rfl) rfl (hb hby at_100) (Nat.le_of_eq rfl) (by decide) (by decide) ?_
      intro v14 T14 L14 X14 q14
      obtain ⟨rfl, N14q, K14q, E14q, C14q, vb14, kb14, ge14, z14q, ne14q, V14q, A14q⟩ := q14
      have N14 := Fr.app N12 N14q
      have ne_b1_vb14 : b1 ≠ vb14 := Nat.ne_of_lt (Nat.lt_of_lt_of_le A_b1_13.lt z14q)
      have ne_b13_vb14 : b13 ≠ vb14 := Nat.ne_of_lt (Nat.lt_of_lt_of_le A13.lt z14q)
      have ne_b6_vb14 : b6 ≠ vb14 := Nat.ne_of_lt (Nat.lt_of_lt_of_le E_b6_13.lt z14q)
      have ne_b8_vb14 : b8 ≠ vb14 := Nat.ne_of_lt (Nat.lt_of_lt_of_le A_b8_13.lt z14q)
      have ne_vb7_vb14 : vb7 ≠ vb14 := Nat.ne_of_lt (Nat.lt_of_lt_of_le A_vb7_13.lt z14q)
      have hk14 := Nat.le_trans hk13 K14q.1
      have A_b1_14 := A_b1_13.keep K14q (ninS ne_b1_b13 nin0)
      have E_b6_14 := E_b6_13.keep K14q
      have F_b6_coder_14 := F_b6_coder_13.keep K14q (ninS ne_b6_b13 nin0)
      have F_b6_value_14 := F_b6_value_13.keep K14q (ninS ne_b6_b13 nin0)
      have A_vb7_14 := A_vb7_13.keep K14q (ninS ne_vb7_b13 nin0)
      have A_b8_14 := A_b8_13.keep K14q (ninS ne_b8_b13 nin0)
      have E_b13_14 := A13.keep K14q
      have O14 := O13.keep K14q (allS ge_b13 all0)
      show own_Go p e below _ T14 (mkF m 103 #[iv p1, iv p2, iv p3, iv p4, iv p5, rv b6, rv b1, rv b8, .unset, .unset, .unset, .unset, .unset] [(.ref b13)])
      refine og_astore X14 hx #[iv p1, iv p2, iv p3, iv p4, iv p5, rv b6, rv b13, rv b8, .unset, .unset, .unset, .unset, .unset] (hb hby at_103) rfl rfl ?_
      refine og_aload X14 hx (hb hby at_105) rfl rfl ?_
      refine og_iloadN X14 hx (hb hby at_107) rfl ?_
      refine og_iloadN X14 hx (hb hby at_108) rfl ?_
      refine og_aload X14 hx (hb hby at_109) rfl rfl ?_
      refine own_callS X14 hx hZ hown (own_hw hw 30 rfl) (own_hw hw 31 rfl) (own_hw hw 32 rfl) (own_hw hw 33 rfl) (by decide) (argsL := [(.ref b6), (.int p1), (.int p2), (.ref b13)]) (rest := []) (own_der l Z a0 hw c0 b6 p1 p2 b13 T14.heap n0 O14 SE) rfl (by rw [hml]; rfl) (lenOf own_pd51426 rfl) rfl (hb hby at_111) (W := 0) (Nat.le_of_eq rfl) (by decide) ?_
      intro v15 T15 L15 X15 q15
      obtain ⟨d15, rfl, N15q, K15q, z15q, g15q, Ed15, G15_severity, G15_source, G15_line, G15_column, G15_message⟩ := q15
      have N15 := Fr.app N14 N15q
      have ne_b1_d15 : b1 ≠ d15 := Nat.ne_of_lt (Nat.lt_of_lt_of_le A_b1_14.lt z15q)
      have ne_b13_d15 : b13 ≠ d15 := Nat.ne_of_lt (Nat.lt_of_lt_of_le E_b13_14.lt z15q)
      have ne_b6_d15 : b6 ≠ d15 := Nat.ne_of_lt (Nat.lt_of_lt_of_le E_b6_14.lt z15q)
      have ne_b8_d15 : b8 ≠ d15 := Nat.ne_of_lt (Nat.lt_of_lt_of_le A_b8_14.lt z15q)
      have ne_vb14_d15 : vb14 ≠ d15 := Nat.ne_of_lt (Nat.lt_of_lt_of_le A14q.lt z15q)
      have ne_vb7_d15 : vb7 ≠ d15 := Nat.ne_of_lt (Nat.lt_of_lt_of_le A_vb7_14.lt z15q)
      have hk15 := Nat.le_trans hk14 K15q.1
      have A_b1_15 := A_b1_14.keep K15q nin0
      have E_b6_15 := E_b6_14.keep K15q
      have F_b6_coder_15 := F_b6_coder_14.keep K15q nin0
      have F_b6_value_15 := F_b6_value_14.keep K15q nin0
      have A_vb7_15 := A_vb7_14.keep K15q nin0
      have A_b8_15 := A_b8_14.keep K15q nin0
      have E_b13_15 := E_b13_14.keep K15q
      have F_b13_coder_15 := C14q.keep K15q nin0
      have F_b13_value_15 := V14q.keep K15q nin0
      have A_vb14_15 := A14q.keep K15q nin0
      have O15 := O14.keep K15q all0
      show own_Go p e below _ T15 (mkF m 114 #[iv p1, iv p2, iv p3, iv p4, iv p5, rv b6, rv b13, rv b8, .unset, .unset, .unset, .unset, .unset] [(.ref d15)])
      refine og_astore X15 hx #[iv p1, iv p2, iv p3, iv p4, iv p5, rv b6, rv b13, rv d15, .unset, .unset, .unset, .unset, .unset] (hb hby at_114) rfl rfl ?_
      refine og_aload X15 hx (hb hby at_116) rfl rfl ?_
      refine own_callV X15 hx hZ hown (own_hw hw 53 rfl) (own_hw hw 54 rfl) (notFace_of_selects (args := #[]) (mvT hZ (own_hw hw 56 rfl))) (own_hw hw 56 rfl) (own_hw hw 55 rfl) (own_hw hw 57 rfl) (own_hw hw 32 rfl) (by decide) (b := d15) (argsL := []) (rest := []) (own_g_severity l Z a0 hw d15 c0 T15.heap n0 G15_severity) rfl Ed15 (by rw [hml]; rfl) (lenOf own_pd64778 rfl) rfl (hb hby at_118) (W := 0) (Nat.le_of_eq rfl) (by decide) ?_
      intro v16 T16 L16 X16 q16
      obtain ⟨rfl, N16q, e16⟩ := q16
      have N16 := Fr.app N15 N16q
      show own_Go p e below _ T16 (mkF m 121 #[iv p1, iv p2, iv p3, iv p4, iv p5, rv b6, rv b13, rv d15, .unset, .unset, .unset, .unset, .unset] [(.ref c0)])
      refine og_getS X16 hx hZ hown (own_hw hw 58 rfl) Via.refl e16 (SE.ext O15.2) (hb hby at_121) ?_
      intro T17 X17 e17
      show own_Go p e below _ T17 (mkF m 124 #[iv p1, iv p2, iv p3, iv p4, iv p5, rv b6, rv b13, rv d15, .unset, .unset, .unset, .unset, .unset] [(.ref c0), (.ref c0)])
      refine og_acmp X17 hx (pc' := 127) (same := true) rfl rfl (hb hby at_124) (decide_eq_true (rfl)) (by decide) (by decide) ?_
      show own_Go p e below _ T17 (mkF m 127 #[iv p1, iv p2, iv p3, iv p4, iv p5, rv b6, rv b13, rv d15, .unset, .unset, .unset, .unset, .unset] [])
      refine og_iconst X17 hx (hb hby at_127) ?_
      refine og_goto X17 hx 132 (hb hby at_128) (by decide) (by decide) ?_
      refine og_istore X17 hx #[iv p1, iv p2, iv p3, iv p4, iv p5, rv b6, rv b13, rv d15, iv 1, .unset, .unset, .unset, .unset] (hb hby at_132) rfl ?_
      refine og_aload X17 hx (hb hby at_134) rfl rfl ?_
      refine own_callV X17 hx hZ hown (own_hw hw 59 rfl) (own_hw hw 60 rfl) (notFace_of_selects (args := #[]) (mvT hZ (own_hw hw 62 rfl))) (own_hw hw 62 rfl) (own_hw hw 61 rfl) (own_hw hw 63 rfl) (own_hw hw 32 rfl) (by decide) (b := d15) (argsL := []) (rest := []) (own_dsr l Z a0 hw d15 b6 T15.heap n0 G15_source) e17 Ed15 (by rw [hml]; rfl) (lenOf own_pd53479 rfl) rfl (hb hby at_136) (W := 0) (Nat.le_of_eq rfl) (by decide) ?_
      intro v18 T18 L18 X18 q18
      obtain ⟨rfl, N18q, e18⟩ := q18
      have N18 := Fr.app N16 N18q
      show own_Go p e below _ T18 (mkF m 139 #[iv p1, iv p2, iv p3, iv p4, iv p5, rv b6, rv b13, rv d15, iv 1, .unset, .unset, .unset, .unset] [(.ref b6)])
      refine og_aload X18 hx (hb hby at_139) rfl rfl ?_
      refine og_acmp X18 hx (pc' := 144) (same := true) rfl rfl (hb hby at_141) (decide_eq_true (rfl)) (by decide) (by decide) ?_
      show own_Go p e below _ T18 (mkF m 144 #[iv p1, iv p2, iv p3, iv p4, iv p5, rv b6, rv b13, rv d15, iv 1, .unset, .unset, .unset, .unset] [])
      refine og_iconst X18 hx (hb hby at_144) ?_
      refine og_goto X18 hx 149 (hb hby at_145) (by decide) (by decide) ?_
      refine og_istore X18 hx #[iv p1, iv p2, iv p3, iv p4, iv p5, rv b6, rv b13, rv d15, iv 1, iv 1, .unset, .unset, .unset] (hb hby at_149) rfl ?_
      refine og_aload X18 hx (hb hby at_151) rfl rfl ?_
      refine own_callV X18 hx hZ hown (own_hw hw 64 rfl) (own_hw hw 65 rfl) (notFace_of_selects (args := #[]) (mvT hZ (own_hw hw 67 rfl))) (own_hw hw 67 rfl) (own_hw hw 66 rfl) (own_hw hw 68 rfl) (own_hw hw 32 rfl) (by decide) (b := d15) (argsL := []) (rest := []) (own_g_line l Z a0 hw d15 p1 T15.heap n0 G15_line) e18 Ed15 (by rw [hml]; rfl) (lenOf own_pd13941 rfl) rfl (hb hby at_153) (W := 0) (Nat.le_of_eq rfl) (by decide) ?_
      intro v19 T19 L19 X19 q19
      obtain ⟨rfl, N19q, e19⟩ := q19
      have N19 := Fr.app N18 N19q
      show own_Go p e below _ T19 (mkF m 156 #[iv p1, iv p2, iv p3, iv p4, iv p5, rv b6, rv b13, rv d15, iv 1, iv 1, .unset, .unset, .unset] [(.int p1)])
      refine og_iloadN X19 hx (hb hby at_156) rfl ?_
      refine og_icN X19 hx (hb hby at_157) (teq rfl).2 ?_
      refine og_iconst X19 hx (hb hby at_160) ?_
      refine og_goto X19 hx 165 (hb hby at_161) (by decide) (by decide) ?_
      refine og_istore X19 hx #[iv p1, iv p2, iv p3, iv p4, iv p5, rv b6, rv b13, rv d15, iv 1, iv 1, iv 1, .unset, .unset] (hb hby at_165) rfl ?_
      refine og_aload X19 hx (hb hby at_167) rfl rfl ?_
      refine own_callV X19 hx hZ hown (own_hw hw 69 rfl) (own_hw hw 70 rfl) (notFace_of_selects (args := #[]) (mvT hZ (own_hw hw 72 rfl))) (own_hw hw 72 rfl) (own_hw hw 71 rfl) (own_hw hw 73 rfl) (own_hw hw 32 rfl) (by decide) (b := d15) (argsL := []) (rest := []) (own_g_column l Z a0 hw d15 p2 T15.heap n0 G15_column) e19 Ed15 (by rw [hml]; rfl) (lenOf own_pd13941 rfl) rfl (hb hby at_169) (W := 0) (Nat.le_of_eq rfl) (by decide) ?_
      intro v20 T20 L20 X20 q20
      obtain ⟨rfl, N20q, e20⟩ := q20
      have N20 := Fr.app N19 N20q
      show own_Go p e below _ T20 (mkF m 172 #[iv p1, iv p2, iv p3, iv p4, iv p5, rv b6, rv b13, rv d15, iv 1, iv 1, iv 1, .unset, .unset] [(.int p2)])
      refine og_iloadN X20 hx (hb hby at_172) rfl ?_
      refine og_icN X20 hx (hb hby at_173) (teq rfl).2 ?_
      refine og_iconst X20 hx (hb hby at_176) ?_
      refine og_goto X20 hx 181 (hb hby at_177) (by decide) (by decide) ?_
      refine og_istore X20 hx #[iv p1, iv p2, iv p3, iv p4, iv p5, rv b6, rv b13, rv d15, iv 1, iv 1, iv 1, iv 1, .unset] (hb hby at_181) rfl ?_
      refine og_aload X20 hx (hb hby at_183) rfl rfl ?_
      refine own_callV X20 hx hZ hown (own_hw hw 74 rfl) (own_hw hw 75 rfl) (notFace_of_selects (args := #[]) (mvT hZ (own_hw hw 77 rfl))) (own_hw hw 77 rfl) (own_hw hw 76 rfl) (own_hw hw 78 rfl) (own_hw hw 32 rfl) (by decide) (b := d15) (argsL := []) (rest := []) (own_g_message l Z a0 hw d15 b13 T15.heap n0 G15_message) e20 Ed15 (by rw [hml]; rfl) (lenOf own_pd53479 rfl) rfl (hb hby at_185) (W := 0) (Nat.le_of_eq rfl) (by decide) ?_
      intro v21 T21 L21 X21 q21
      obtain ⟨rfl, N21q, e21⟩ := q21
      have N21 := Fr.app N20 N21q
      show own_Go p e below _ T21 (mkF m 188 #[iv p1, iv p2, iv p3, iv p4, iv p5, rv b6, rv b13, rv d15, iv 1, iv 1, iv 1, iv 1, .unset] [(.ref b13)])
      refine og_aload X21 hx (hb hby at_188) rfl rfl ?_
      refine og_acmp X21 hx (pc' := 193) (same := true) rfl rfl (hb hby at_190) (decide_eq_true (rfl)) (by decide) (by decide) ?_
      show own_Go p e below _ T21 (mkF m 193 #[iv p1, iv p2, iv p3, iv p4, iv p5, rv b6, rv b13, rv d15, iv 1, iv 1, iv 1, iv 1, .unset] [])
      refine og_iconst X21 hx (hb hby at_193) ?_
      refine og_goto X21 hx 198 (hb hby at_194) (by decide) (by decide) ?_
      refine og_istore X21 hx #[iv p1, iv p2, iv p3, iv p4, iv p5, rv b6, rv b13, rv d15, iv 1, iv 1, iv 1, iv 1, iv 1] (hb hby at_198) rfl ?_
      refine og_iload X21 hx (hb hby at_200) rfl ?_
      refine og_ifN X21 hx (hb hby at_202) (feq (by decide)).1 ?_
      refine og_iload X21 hx (hb hby at_205) rfl ?_
      refine og_ifN X21 hx (hb hby at_207) (feq (by decide)).1 ?_
      refine og_iload X21 hx (hb hby at_210) rfl ?_
      refine og_ifN X21 hx (hb hby at_212) (feq (by decide)).1 ?_
      refine og_iload X21 hx (hb hby at_215) rfl ?_
      refine og_ifN X21 hx (hb hby at_217) (feq (by decide)).1 ?_
      refine og_iload X21 hx (hb hby at_220) rfl ?_
      refine og_ifN X21 hx (hb hby at_222) (feq (by decide)).1 ?_
      refine og_iconst X21 hx (hb hby at_225) ?_
      refine og_goto X21 hx 230 (hb hby at_226) (by decide) (by decide) ?_
      exact own_retIW X21 hx hret hlk (hb hby at_230) rfl (by simp) hS (by rw [e21]; exact hk15) (by decide) (by decide) (⟨rfl, N21⟩)
    · refine og_ifN X7 hx (hb hby at_56) (feq hc56).1 ?_
      refine own_ldcS X7 hx hZ hown (own_hw hw 79 rfl) hwS rfl hS hk7 (hb hby at_59) 0 (by decide) (by decide) (by decide) (by decide) ?_
      intro s22 T22 h22 k22 X22 e22 E22 hS22 hk22 hZ22 hown22
      have A_b1_22 := A_b1_7.ext E22
      have E_b6_22 := E_b6_7.ext E22
      have F_b6_coder_22 := C7q.ext E22
      have F_b6_value_22 := V7q.ext E22
      have A_vb7_22 := A7q.ext E22
      have O22 := O7.ext E22
      show own_Go p e below _ T22 (mkF m 61 #[iv p1, iv p2, iv p3, iv p4, iv p5, rv b6, rv b1, .unset, .unset, .unset, .unset, .unset, .unset] [(.ref s22)])
      refine og_astore X22 hx #[iv p1, iv p2, iv p3, iv p4, iv p5, rv b6, rv s22, .unset, .unset, .unset, .unset, .unset, .unset] (hb hby at_61) rfl rfl ?_
      refine og_goto X22 hx 105 (hb hby at_63) (by decide) (by decide) ?_
      refine og_aload X22 hx (hb hby at_105) rfl rfl ?_
      refine og_iloadN X22 hx (hb hby at_107) rfl ?_
      refine og_iloadN X22 hx (hb hby at_108) rfl ?_
      refine og_aload X22 hx (hb hby at_109) rfl rfl ?_
      refine own_callS X22 hx hZ22 hown22 (own_hw hw 30 rfl) (own_hw hw 31 rfl) (own_hw hw 32 rfl) (own_hw hw 33 rfl) (by decide) (argsL := [(.ref b6), (.int p1), (.int p2), (.ref s22)]) (rest := []) (own_der l Z a0 hw c0 b6 p1 p2 s22 h22 n0 O22 SE) e22 (by rw [hml]; rfl) (lenOf own_pd51426 rfl) rfl (hb hby at_111) (W := 0) (Nat.le_of_eq rfl) (by decide) ?_
      intro v23 T23 L23 X23 q23
      obtain ⟨d23, rfl, N23q, K23q, z23q, g23q, Ed23, G23_severity, G23_source, G23_line, G23_column, G23_message⟩ := q23
      have N23 := Fr.app N7 N23q
      have ne_b1_d23 : b1 ≠ d23 := Nat.ne_of_lt (Nat.lt_of_lt_of_le A_b1_22.lt z23q)
      have ne_b6_d23 : b6 ≠ d23 := Nat.ne_of_lt (Nat.lt_of_lt_of_le E_b6_22.lt z23q)
      have ne_vb7_d23 : vb7 ≠ d23 := Nat.ne_of_lt (Nat.lt_of_lt_of_le A_vb7_22.lt z23q)
      have hk23 := Nat.le_trans hk22 K23q.1
      have A_b1_23 := A_b1_22.keep K23q nin0
      have E_b6_23 := E_b6_22.keep K23q
      have F_b6_coder_23 := F_b6_coder_22.keep K23q nin0
      have F_b6_value_23 := F_b6_value_22.keep K23q nin0
      have A_vb7_23 := A_vb7_22.keep K23q nin0
      have O23 := O22.keep K23q all0
      show own_Go p e below _ T23 (mkF m 114 #[iv p1, iv p2, iv p3, iv p4, iv p5, rv b6, rv s22, .unset, .unset, .unset, .unset, .unset, .unset] [(.ref d23)])
      refine og_astore X23 hx #[iv p1, iv p2, iv p3, iv p4, iv p5, rv b6, rv s22, rv d23, .unset, .unset, .unset, .unset, .unset] (hb hby at_114) rfl rfl ?_
      refine og_aload X23 hx (hb hby at_116) rfl rfl ?_
      refine own_callV X23 hx hZ22 hown22 (own_hw hw 53 rfl) (own_hw hw 54 rfl) (notFace_of_selects (args := #[]) (mvT hZ22 (own_hw hw 56 rfl))) (own_hw hw 56 rfl) (own_hw hw 55 rfl) (own_hw hw 57 rfl) (own_hw hw 32 rfl) (by decide) (b := d23) (argsL := []) (rest := []) (own_g_severity l Z a0 hw d23 c0 T23.heap n0 G23_severity) rfl Ed23 (by rw [hml]; rfl) (lenOf own_pd64778 rfl) rfl (hb hby at_118) (W := 0) (Nat.le_of_eq rfl) (by decide) ?_
      intro v24 T24 L24 X24 q24
      obtain ⟨rfl, N24q, e24⟩ := q24
      have N24 := Fr.app N23 N24q
      show own_Go p e below _ T24 (mkF m 121 #[iv p1, iv p2, iv p3, iv p4, iv p5, rv b6, rv s22, rv d23, .unset, .unset, .unset, .unset, .unset] [(.ref c0)])
      refine og_getS X24 hx hZ22 hown22 (own_hw hw 58 rfl) Via.refl e24 (SE.ext O23.2) (hb hby at_121) ?_
      intro T25 X25 e25
      show own_Go p e below _ T25 (mkF m 124 #[iv p1, iv p2, iv p3, iv p4, iv p5, rv b6, rv s22, rv d23, .unset, .unset, .unset, .unset, .unset] [(.ref c0), (.ref c0)])
      refine og_acmp X25 hx (pc' := 127) (same := true) rfl rfl (hb hby at_124) (decide_eq_true (rfl)) (by decide) (by decide) ?_
      show own_Go p e below _ T25 (mkF m 127 #[iv p1, iv p2, iv p3, iv p4, iv p5, rv b6, rv s22, rv d23, .unset, .unset, .unset, .unset, .unset] [])
      refine og_iconst X25 hx (hb hby at_127) ?_
      refine og_goto X25 hx 132 (hb hby at_128) (by decide) (by decide) ?_
      refine og_istore X25 hx #[iv p1, iv p2, iv p3, iv p4, iv p5, rv b6, rv s22, rv d23, iv 1, .unset, .unset, .unset, .unset] (hb hby at_132) rfl ?_
      refine og_aload X25 hx (hb hby at_134) rfl rfl ?_
      refine own_callV X25 hx hZ22 hown22 (own_hw hw 59 rfl) (own_hw hw 60 rfl) (notFace_of_selects (args := #[]) (mvT hZ22 (own_hw hw 62 rfl))) (own_hw hw 62 rfl) (own_hw hw 61 rfl) (own_hw hw 63 rfl) (own_hw hw 32 rfl) (by decide) (b := d23) (argsL := []) (rest := []) (own_dsr l Z a0 hw d23 b6 T23.heap n0 G23_source) e25 Ed23 (by rw [hml]; rfl) (lenOf own_pd53479 rfl) rfl (hb hby at_136) (W := 0) (Nat.le_of_eq rfl) (by decide) ?_
      intro v26 T26 L26 X26 q26
      obtain ⟨rfl, N26q, e26⟩ := q26
      have N26 := Fr.app N24 N26q
      show own_Go p e below _ T26 (mkF m 139 #[iv p1, iv p2, iv p3, iv p4, iv p5, rv b6, rv s22, rv d23, iv 1, .unset, .unset, .unset, .unset] [(.ref b6)])
      refine og_aload X26 hx (hb hby at_139) rfl rfl ?_
      refine og_acmp X26 hx (pc' := 144) (same := true) rfl rfl (hb hby at_141) (decide_eq_true (rfl)) (by decide) (by decide) ?_
      show own_Go p e below _ T26 (mkF m 144 #[iv p1, iv p2, iv p3, iv p4, iv p5, rv b6, rv s22, rv d23, iv 1, .unset, .unset, .unset, .unset] [])
      refine og_iconst X26 hx (hb hby at_144) ?_
      refine og_goto X26 hx 149 (hb hby at_145) (by decide) (by decide) ?_
      refine og_istore X26 hx #[iv p1, iv p2, iv p3, iv p4, iv p5, rv b6, rv s22, rv d23, iv 1, iv 1, .unset, .unset, .unset] (hb hby at_149) rfl ?_
      refine og_aload X26 hx (hb hby at_151) rfl rfl ?_
      refine own_callV X26 hx hZ22 hown22 (own_hw hw 64 rfl) (own_hw hw 65 rfl) (notFace_of_selects (args := #[]) (mvT hZ22 (own_hw hw 67 rfl))) (own_hw hw 67 rfl) (own_hw hw 66 rfl) (own_hw hw 68 rfl) (own_hw hw 32 rfl) (by decide) (b := d23) (argsL := []) (rest := []) (own_g_line l Z a0 hw d23 p1 T23.heap n0 G23_line) e26 Ed23 (by rw [hml]; rfl) (lenOf own_pd13941 rfl) rfl (hb hby at_153) (W := 0) (Nat.le_of_eq rfl) (by decide) ?_
      intro v27 T27 L27 X27 q27
      obtain ⟨rfl, N27q, e27⟩ := q27
      have N27 := Fr.app N26 N27q
      show own_Go p e below _ T27 (mkF m 156 #[iv p1, iv p2, iv p3, iv p4, iv p5, rv b6, rv s22, rv d23, iv 1, iv 1, .unset, .unset, .unset] [(.int p1)])
      refine og_iloadN X27 hx (hb hby at_156) rfl ?_
      refine og_icN X27 hx (hb hby at_157) (teq rfl).2 ?_
      refine og_iconst X27 hx (hb hby at_160) ?_
      refine og_goto X27 hx 165 (hb hby at_161) (by decide) (by decide) ?_
      refine og_istore X27 hx #[iv p1, iv p2, iv p3, iv p4, iv p5, rv b6, rv s22, rv d23, iv 1, iv 1, iv 1, .unset, .unset] (hb hby at_165) rfl ?_
      refine og_aload X27 hx (hb hby at_167) rfl rfl ?_
      refine own_callV X27 hx hZ22 hown22 (own_hw hw 69 rfl) (own_hw hw 70 rfl) (notFace_of_selects (args := #[]) (mvT hZ22 (own_hw hw 72 rfl))) (own_hw hw 72 rfl) (own_hw hw 71 rfl) (own_hw hw 73 rfl) (own_hw hw 32 rfl) (by decide) (b := d23) (argsL := []) (rest := []) (own_g_column l Z a0 hw d23 p2 T23.heap n0 G23_column) e27 Ed23 (by rw [hml]; rfl) (lenOf own_pd13941 rfl) rfl (hb hby at_169) (W := 0) (Nat.le_of_eq rfl) (by decide) ?_
      intro v28 T28 L28 X28 q28
      obtain ⟨rfl, N28q, e28⟩ := q28
      have N28 := Fr.app N27 N28q
      show own_Go p e below _ T28 (mkF m 172 #[iv p1, iv p2, iv p3, iv p4, iv p5, rv b6, rv s22, rv d23, iv 1, iv 1, iv 1, .unset, .unset] [(.int p2)])
      refine og_iloadN X28 hx (hb hby at_172) rfl ?_
      refine og_icN X28 hx (hb hby at_173) (teq rfl).2 ?_
      refine og_iconst X28 hx (hb hby at_176) ?_
      refine og_goto X28 hx 181 (hb hby at_177) (by decide) (by decide) ?_
      refine og_istore X28 hx #[iv p1, iv p2, iv p3, iv p4, iv p5, rv b6, rv s22, rv d23, iv 1, iv 1, iv 1, iv 1, .unset] (hb hby at_181) rfl ?_
      refine og_aload X28 hx (hb hby at_183) rfl rfl ?_
      refine own_callV X28 hx hZ22 hown22 (own_hw hw 74 rfl) (own_hw hw 75 rfl) (notFace_of_selects (args := #[]) (mvT hZ22 (own_hw hw 77 rfl))) (own_hw hw 77 rfl) (own_hw hw 76 rfl) (own_hw hw 78 rfl) (own_hw hw 32 rfl) (by decide) (b := d23) (argsL := []) (rest := []) (own_g_message l Z a0 hw d23 s22 T23.heap n0 G23_message) e28 Ed23 (by rw [hml]; rfl) (lenOf own_pd53479 rfl) rfl (hb hby at_185) (W := 0) (Nat.le_of_eq rfl) (by decide) ?_
      intro v29 T29 L29 X29 q29
      obtain ⟨rfl, N29q, e29⟩ := q29
      have N29 := Fr.app N28 N29q
      show own_Go p e below _ T29 (mkF m 188 #[iv p1, iv p2, iv p3, iv p4, iv p5, rv b6, rv s22, rv d23, iv 1, iv 1, iv 1, iv 1, .unset] [(.ref s22)])
      refine og_aload X29 hx (hb hby at_188) rfl rfl ?_
      refine og_acmp X29 hx (pc' := 193) (same := true) rfl rfl (hb hby at_190) (decide_eq_true (rfl)) (by decide) (by decide) ?_
      show own_Go p e below _ T29 (mkF m 193 #[iv p1, iv p2, iv p3, iv p4, iv p5, rv b6, rv s22, rv d23, iv 1, iv 1, iv 1, iv 1, .unset] [])
      refine og_iconst X29 hx (hb hby at_193) ?_
      refine og_goto X29 hx 198 (hb hby at_194) (by decide) (by decide) ?_
      refine og_istore X29 hx #[iv p1, iv p2, iv p3, iv p4, iv p5, rv b6, rv s22, rv d23, iv 1, iv 1, iv 1, iv 1, iv 1] (hb hby at_198) rfl ?_
      refine og_iload X29 hx (hb hby at_200) rfl ?_
      refine og_ifN X29 hx (hb hby at_202) (feq (by decide)).1 ?_
      refine og_iload X29 hx (hb hby at_205) rfl ?_
      refine og_ifN X29 hx (hb hby at_207) (feq (by decide)).1 ?_
      refine og_iload X29 hx (hb hby at_210) rfl ?_
      refine og_ifN X29 hx (hb hby at_212) (feq (by decide)).1 ?_
      refine og_iload X29 hx (hb hby at_215) rfl ?_
      refine og_ifN X29 hx (hb hby at_217) (feq (by decide)).1 ?_
      refine og_iload X29 hx (hb hby at_220) rfl ?_
      refine og_ifN X29 hx (hb hby at_222) (feq (by decide)).1 ?_
      refine og_iconst X29 hx (hb hby at_225) ?_
      refine og_goto X29 hx 230 (hb hby at_226) (by decide) (by decide) ?_
      exact own_retIW X29 hx hret hlk (hb hby at_230) rfl (by simp) hS22 (by rw [e29]; exact hk23) (by decide) (by decide) (⟨rfl, N29⟩)
  · refine og_ifN X0 hx (hb hby at_4) (feq hc4).1 ?_
    refine og_null X0 hx (hb hby at_7) ?_
    refine og_astore X0 hx #[iv p1, iv p2, iv p3, iv p4, iv p5, .val .null, .unset, .unset, .unset, .unset, .unset, .unset, .unset] (hb hby at_8) rfl rfl ?_
    refine og_goto X0 hx 52 (hb hby at_10) (by decide) (by decide) ?_
    refine og_iload X0 hx (hb hby at_52) rfl ?_
    refine og_iconst X0 hx (hb hby at_54) ?_
    refine og_iand X0 hx (hb hby at_55) ?_
    show own_Go p e below _ T0 (mkF m 56 #[iv p1, iv p2, iv p3, iv p4, iv p5, .val .null, .unset, .unset, .unset, .unset, .unset, .unset, .unset] [(.int (p5 &&& 2))])
    by_cases hc56 : (p5 &&& 2) = 0
    · refine og_ifY X0 hx 66 (hb hby at_56) (teq hc56).1 (by decide) (by decide) ?_
      refine og_iconst X0 hx (hb hby at_66) ?_
      refine own_newP X0 hx hZ (own_hw hw 0 rfl) e0 (hb hby at_67) (by decide) 2 (by decide) (by decide) (by decide) (by decide) ?_
      intro T30 h30 k30 b30 g30 X30 e30 E30 A30
      have ge_b30 : n0 ≤ b30 := Nat.le_trans (own_oldle hO) (Nat.le_of_eq g30.symm)
      have hk30 := Nat.le_trans hk E30.1
      have O30 := hO.ext E30
      have A_b30_30 : Arv Z h30 b30 k30 .char 2 [(.int (0 : Int32)), (.int (0 : Int32))] (.int (0 : Int32)) := A30
      show own_Go p e below _ T30 (mkF m 69 #[iv p1, iv p2, iv p3, iv p4, iv p5, .val .null, .unset, .unset, .unset, .unset, .unset, .unset, .unset] [(.ref b30)])
      refine og_astore X30 hx #[iv p1, iv p2, iv p3, iv p4, iv p5, .val .null, .unset, rv b30, .unset, .unset, .unset, .unset, .unset] (hb hby at_69) rfl rfl ?_
      refine og_aload X30 hx (hb hby at_71) rfl rfl ?_
      refine og_iconst X30 hx (hb hby at_73) ?_
      refine og_iloadN X30 hx (hb hby at_74) rfl ?_
      refine og_sipush X30 hx (hb hby at_75) ?_
      refine og_iand X30 hx (hb hby at_78) ?_
      show own_Go p e below _ T30 (mkF m 79 #[iv p1, iv p2, iv p3, iv p4, iv p5, .val .null, .unset, rv b30, .unset, .unset, .unset, .unset, .unset] [(.int (p4 &&& 255)), (.int 0), (.ref b30)])
      refine own_go (fun t k => XS.i2c X30.here hx rfl (hb hby at_79) rfl k) ?_
      show own_Go p e below _ T30 (mkF m 80 #[iv p1, iv p2, iv p3, iv p4, iv p5, .val .null, .unset, rv b30, .unset, .unset, .unset, .unset, .unset] [(.int ((p4 &&& 255).toUInt32.toUInt16.toUInt32.toInt32)), (.int 0), (.ref b30)])
      obtain ⟨c31, hc31, ec31⟩ : ∃ c : Int32, (¬ c < 0 ∧ ¬ (255 : Int32) < c) ∧ (p4 &&& 255).toUInt32.toUInt16.toUInt32.toInt32 = c := ⟨_, own_ch _, i2c_mask _⟩
      rw [ec31]
      show own_Go p e below _ T30 (mkF m 80 #[iv p1, iv p2, iv p3, iv p4, iv p5, .val .null, .unset, rv b30, .unset, .unset, .unset, .unset, .unset] [(.int c31), (.int 0), (.ref b30)])
      refine own_stC X30 hx hZ e30 A_b30_30 ⟨by decide, by decide⟩ 0 rfl (by show 0 < 2; decide) (hb hby at_80) ?_
      intro T32 h32 X32 e32 W32 A32
      have hk32 := Nat.le_trans hk30 (Keep.of_wr W32).1
      have O32 := O30.wr W32 ge_b30
      have N32 := Fr.snoc X32 N0 ge_b30
      have A_b30_32 : Arv Z h32 b30 k30 .char 2 [(.int c31), (.int (0 : Int32))] (.int (0 : Int32)) := (by have q := A32; rw [show nar .char c31 = c31 from own_ic _ hc31] at q; exact q)
      show own_Go p e below _ T32 (mkF m 81 #[iv p1, iv p2, iv p3, iv p4, iv p5, .val .null, .unset, rv b30, .unset, .unset, .unset, .unset, .unset] [])
      refine og_aload X32 hx (hb hby at_81) rfl rfl ?_
      refine og_iconst X32 hx (hb hby at_83) ?_
      refine og_iloadN X32 hx (hb hby at_84) rfl ?_
      refine og_bipush X32 hx (hb hby at_85) ?_
      refine own_go (fun t k => XS.iushr X32.here hx rfl (hb hby at_87) rfl k) ?_
      show own_Go p e below _ T32 (mkF m 88 #[iv p1, iv p2, iv p3, iv p4, iv p5, .val .null, .unset, rv b30, .unset, .unset, .unset, .unset, .unset] [(.int ((p4.toUInt32 >>> ((8 : Int32) &&& 31).toUInt32).toInt32)), (.int 1), (.ref b30)])
      refine og_sipush X32 hx (hb hby at_88) ?_
      refine og_iand X32 hx (hb hby at_91) ?_
      show own_Go p e below _ T32 (mkF m 92 #[iv p1, iv p2, iv p3, iv p4, iv p5, .val .null, .unset, rv b30, .unset, .unset, .unset, .unset, .unset] [(.int (((p4.toUInt32 >>> ((8 : Int32) &&& 31).toUInt32).toInt32) &&& 255)), (.int 1), (.ref b30)])
      refine own_go (fun t k => XS.i2c X32.here hx rfl (hb hby at_92) rfl k) ?_
      show own_Go p e below _ T32 (mkF m 93 #[iv p1, iv p2, iv p3, iv p4, iv p5, .val .null, .unset, rv b30, .unset, .unset, .unset, .unset, .unset] [(.int ((((p4.toUInt32 >>> ((8 : Int32) &&& 31).toUInt32).toInt32) &&& 255).toUInt32.toUInt16.toUInt32.toInt32)), (.int 1), (.ref b30)])
      obtain ⟨c33, hc33, ec33⟩ : ∃ c : Int32, (¬ c < 0 ∧ ¬ (255 : Int32) < c) ∧ (((p4.toUInt32 >>> ((8 : Int32) &&& 31).toUInt32).toInt32) &&& 255).toUInt32.toUInt16.toUInt32.toInt32 = c := ⟨_, own_ch _, i2c_mask _⟩
      rw [ec33]
      show own_Go p e below _ T32 (mkF m 93 #[iv p1, iv p2, iv p3, iv p4, iv p5, .val .null, .unset, rv b30, .unset, .unset, .unset, .unset, .unset] [(.int c33), (.int 1), (.ref b30)])
      refine own_stC X32 hx hZ e32 A_b30_32 ⟨by decide, by decide⟩ 1 rfl (by show 1 < 2; decide) (hb hby at_93) ?_
      intro T34 h34 X34 e34 W34 A34
      have hk34 := Nat.le_trans hk32 (Keep.of_wr W34).1
      have O34 := O32.wr W34 ge_b30
      have N34 := Fr.snoc X34 N32 ge_b30
      have A_b30_34 : Arv Z h34 b30 k30 .char 2 [(.int c31), (.int c33)] (.int (0 : Int32)) := (by have q := A34; rw [show nar .char c33 = c33 from own_ic _ hc33] at q; exact q)
      show own_Go p e below _ T34 (mkF m 94 #[iv p1, iv p2, iv p3, iv p4, iv p5, .val .null, .unset, rv b30, .unset, .unset, .unset, .unset, .unset] [])
      refine own_newO X34 hx hZ hown (own_hw hw 1 rfl) (own_hw hw 2 rfl) (own_hw hw 3 rfl) e34 (hb hby at_94) (by decide) (by decide) ?_
      intro T35 h35 b35 g35 X35 e35 E35 A35 D35
      have ne_b30_b35 : b30 ≠ b35 := Nat.ne_of_lt (Nat.lt_of_lt_of_eq A_b30_34.lt g35.symm)
      have ge_b35 : n0 ≤ b35 := Nat.le_trans (own_oldle O34) (Nat.le_of_eq g35.symm)
      have hk35 := Nat.le_trans hk34 E35.1
      have A_b30_35 := A_b30_34.ext E35
      have O35 := O34.ext E35
      have F_b35_coder_35 : Fld Z h35 b35 "java/lang/String" "coder" "B" (.int 0) := D35 (Or.inr (own_hw hw 27 rfl)) (ty := .byte) (by decide)
      have F_b35_value_35 : Fld Z h35 b35 "java/lang/String" "value" "[B" .null := D35 (Or.inr (own_hw hw 29 rfl)) (ty := (.array .byte)) (by decide)
      show own_Go p e below _ T35 (mkF m 97 #[iv p1, iv p2, iv p3, iv p4, iv p5, .val .null, .unset, rv b30, .unset, .unset, .unset, .unset, .unset] [(.ref b35)])
      refine og_dup X35 hx (hb hby at_97) rfl ?_
      refine og_aload X35 hx (hb hby at_98) rfl rfl ?_
      have hws : ∀ d ∈ StrChars.Road.words, d.before a0 Z = true := fun d hd => hw d ((by decide +kernel : ∀ d ∈ StrChars.Road.words, d ∈ tables_1) d hd)
      have hp36 : ∀ c ∈ ([c31, c33] : List Int32), ¬ c < 0 ∧ ¬ (255 : Int32) < c := by
        intro c hc; simp only [List.mem_cons, List.not_mem_nil, or_false] at hc; rcases hc with rfl | rfl <;> assumption
      refine own_callNB X35 hx hZ hown (own_hw hw 4 rfl) (own_hw hw 5 rfl) (own_hw hw 6 rfl) (own_hw hw 3 rfl) (by decide) rfl (b := b35) (argsL := [(.ref b30)]) (rest := [(.ref b35)]) (StrChars.Road.backV (W := 1) hZ hws (kI := 4) (own_hw hw 2 rfl) (cs := ([c31, c33] : List Int32)) (bs := (([c31, c33] : List Int32)).map (fun c => c.toInt8.toInt32)) (n := 2) ge_b35 (own_oldle O35) A35 F_b35_value_35 F_b35_coder_35 A_b30_35 (SC.ext O35.2) hz rfl rfl (by decide) (by decide) hp36 rfl (by decide) (by decide)) e35 (by rw [hml]; rfl) (lenOf own_pd46664 rfl) rfl (hb hby at_100) (Nat.le_of_eq rfl) (by decide) (by decide) ?_
      intro v36 T36 L36 X36 q36
      obtain ⟨rfl, N36q, K36q, E36q, C36q, vb36, kb36, ge36, z36q, ne36q, V36q, A36q⟩ := q36
      have N36 := Fr.app N34 N36q
      have ne_b30_vb36 : b30 ≠ vb36 := Nat.ne_of_lt (Nat.lt_of_lt_of_le A_b30_35.lt z36q)
      have ne_b35_vb36 : b35 ≠ vb36 := Nat.ne_of_lt (Nat.lt_of_lt_of_le A35.lt z36q)
      have hk36 := Nat.le_trans hk35 K36q.1
      have A_b30_36 := A_b30_35.keep K36q (ninS ne_b30_b35 nin0)
      have E_b35_36 := A35.keep K36q
      have O36 := O35.keep K36q (allS ge_b35 all0)
      show own_Go p e below _ T36 (mkF m 103 #[iv p1, iv p2, iv p3, iv p4, iv p5, .val .null, .unset, rv b30, .unset, .unset, .unset, .unset, .unset] [(.ref b35)])
      refine og_astore X36 hx #[iv p1, iv p2, iv p3, iv p4, iv p5, .val .null, rv b35, rv b30, .unset, .unset, .unset, .unset, .unset] (hb hby at_103) rfl rfl ?_
      refine og_aload X36 hx (hb hby at_105) rfl rfl ?_
      refine og_iloadN X36 hx (hb hby at_107) rfl ?_
      refine og_iloadN X36 hx (hb hby at_108) rfl ?_
      refine og_aload X36 hx (hb hby at_109) rfl rfl ?_
      refine own_callS X36 hx hZ hown (own_hw hw 30 rfl) (own_hw hw 31 rfl) (own_hw hw 32 rfl) (own_hw hw 33 rfl) (by decide) (argsL := [.null, (.int p1), (.int p2), (.ref b35)]) (rest := []) (own_den l Z a0 hw c0 p1 p2 b35 T36.heap n0 O36 SE) rfl (by rw [hml]; rfl) (lenOf own_pd51426 rfl) rfl (hb hby at_111) (W := 0) (Nat.le_of_eq rfl) (by decide) ?_
      intro v37 T37 L37 X37 q37
      obtain ⟨d37, rfl, N37q, K37q, z37q, g37q, Ed37, G37_severity, G37_source, G37_line, G37_column, G37_message⟩ := q37
      have N37 := Fr.app N36 N37q
      have ne_b30_d37 : b30 ≠ d37 := Nat.ne_of_lt (Nat.lt_of_lt_of_le A_b30_36.lt z37q)
      have ne_b35_d37 : b35 ≠ d37 := Nat.ne_of_lt (Nat.lt_of_lt_of_le E_b35_36.lt z37q)
      have ne_vb36_d37 : vb36 ≠ d37 := Nat.ne_of_lt (Nat.lt_of_lt_of_le A36q.lt z37q)
      have hk37 := Nat.le_trans hk36 K37q.1
      have A_b30_37 := A_b30_36.keep K37q nin0
      have E_b35_37 := E_b35_36.keep K37q
      have F_b35_coder_37 := C36q.keep K37q nin0
      have F_b35_value_37 := V36q.keep K37q nin0
      have A_vb36_37 := A36q.keep K37q nin0
      have O37 := O36.keep K37q all0
      show own_Go p e below _ T37 (mkF m 114 #[iv p1, iv p2, iv p3, iv p4, iv p5, .val .null, rv b35, rv b30, .unset, .unset, .unset, .unset, .unset] [(.ref d37)])
      refine og_astore X37 hx #[iv p1, iv p2, iv p3, iv p4, iv p5, .val .null, rv b35, rv d37, .unset, .unset, .unset, .unset, .unset] (hb hby at_114) rfl rfl ?_
      refine og_aload X37 hx (hb hby at_116) rfl rfl ?_
      refine own_callV X37 hx hZ hown (own_hw hw 53 rfl) (own_hw hw 54 rfl) (notFace_of_selects (args := #[]) (mvT hZ (own_hw hw 56 rfl))) (own_hw hw 56 rfl) (own_hw hw 55 rfl) (own_hw hw 57 rfl) (own_hw hw 32 rfl) (by decide) (b := d37) (argsL := []) (rest := []) (own_g_severity l Z a0 hw d37 c0 T37.heap n0 G37_severity) rfl Ed37 (by rw [hml]; rfl) (lenOf own_pd64778 rfl) rfl (hb hby at_118) (W := 0) (Nat.le_of_eq rfl) (by decide) ?_
      intro v38 T38 L38 X38 q38
      obtain ⟨rfl, N38q, e38⟩ := q38
      have N38 := Fr.app N37 N38q
      show own_Go p e below _ T38 (mkF m 121 #[iv p1, iv p2, iv p3, iv p4, iv p5, .val .null, rv b35, rv d37, .unset, .unset, .unset, .unset, .unset] [(.ref c0)])
      refine og_getS X38 hx hZ hown (own_hw hw 58 rfl) Via.refl e38 (SE.ext O37.2) (hb hby at_121) ?_
      intro T39 X39 e39
      show own_Go p e below _ T39 (mkF m 124 #[iv p1, iv p2, iv p3, iv p4, iv p5, .val .null, rv b35, rv d37, .unset, .unset, .unset, .unset, .unset] [(.ref c0), (.ref c0)])
      refine og_acmp X39 hx (pc' := 127) (same := true) rfl rfl (hb hby at_124) (decide_eq_true (rfl)) (by decide) (by decide) ?_
      show own_Go p e below _ T39 (mkF m 127 #[iv p1, iv p2, iv p3, iv p4, iv p5, .val .null, rv b35, rv d37, .unset, .unset, .unset, .unset, .unset] [])
      refine og_iconst X39 hx (hb hby at_127) ?_
      refine og_goto X39 hx 132 (hb hby at_128) (by decide) (by decide) ?_
      refine og_istore X39 hx #[iv p1, iv p2, iv p3, iv p4, iv p5, .val .null, rv b35, rv d37, iv 1, .unset, .unset, .unset, .unset] (hb hby at_132) rfl ?_
      refine og_aload X39 hx (hb hby at_134) rfl rfl ?_
      refine own_callV X39 hx hZ hown (own_hw hw 59 rfl) (own_hw hw 60 rfl) (notFace_of_selects (args := #[]) (mvT hZ (own_hw hw 62 rfl))) (own_hw hw 62 rfl) (own_hw hw 61 rfl) (own_hw hw 63 rfl) (own_hw hw 32 rfl) (by decide) (b := d37) (argsL := []) (rest := []) (own_dsn l Z a0 hw d37 T37.heap n0 G37_source) e39 Ed37 (by rw [hml]; rfl) (lenOf own_pd53479 rfl) rfl (hb hby at_136) (W := 0) (Nat.le_of_eq rfl) (by decide) ?_
      intro v40 T40 L40 X40 q40
      obtain ⟨rfl, N40q, e40⟩ := q40
      have N40 := Fr.app N38 N40q
      show own_Go p e below _ T40 (mkF m 139 #[iv p1, iv p2, iv p3, iv p4, iv p5, .val .null, rv b35, rv d37, iv 1, .unset, .unset, .unset, .unset] [.null])
      refine og_aload X40 hx (hb hby at_139) rfl rfl ?_
      refine og_acmp X40 hx (pc' := 144) (same := true) rfl rfl (hb hby at_141) (decide_eq_true (rfl)) (by decide) (by decide) ?_
      show own_Go p e below _ T40 (mkF m 144 #[iv p1, iv p2, iv p3, iv p4, iv p5, .val .null, rv b35, rv d37, iv 1, .unset, .unset, .unset, .unset] [])
      refine og_iconst X40 hx (hb hby at_144) ?_
      refine og_goto X40 hx 149 (hb hby at_145) (by decide) (by decide) ?_
      refine og_istore X40 hx #[iv p1, iv p2, iv p3, iv p4, iv p5, .val .null, rv b35, rv d37, iv 1, iv 1, .unset, .unset, .unset] (hb hby at_149) rfl ?_
      refine og_aload X40 hx (hb hby at_151) rfl rfl ?_
      refine own_callV X40 hx hZ hown (own_hw hw 64 rfl) (own_hw hw 65 rfl) (notFace_of_selects (args := #[]) (mvT hZ (own_hw hw 67 rfl))) (own_hw hw 67 rfl) (own_hw hw 66 rfl) (own_hw hw 68 rfl) (own_hw hw 32 rfl) (by decide) (b := d37) (argsL := []) (rest := []) (own_g_line l Z a0 hw d37 p1 T37.heap n0 G37_line) e40 Ed37 (by rw [hml]; rfl) (lenOf own_pd13941 rfl) rfl (hb hby at_153) (W := 0) (Nat.le_of_eq rfl) (by decide) ?_
      intro v41 T41 L41 X41 q41
      obtain ⟨rfl, N41q, e41⟩ := q41
      have N41 := Fr.app N40 N41q
      show own_Go p e below _ T41 (mkF m 156 #[iv p1, iv p2, iv p3, iv p4, iv p5, .val .null, rv b35, rv d37, iv 1, iv 1, .unset, .unset, .unset] [(.int p1)])
      refine og_iloadN X41 hx (hb hby at_156) rfl ?_
      refine og_icN X41 hx (hb hby at_157) (teq rfl).2 ?_
      refine og_iconst X41 hx (hb hby at_160) ?_
      refine og_goto X41 hx 165 (hb hby at_161) (by decide) (by decide) ?_
      refine og_istore X41 hx #[iv p1, iv p2, iv p3, iv p4, iv p5, .val .null, rv b35, rv d37, iv 1, iv 1, iv 1, .unset, .unset] (hb hby at_165) rfl ?_
      refine og_aload X41 hx (hb hby at_167) rfl rfl ?_
      refine own_callV X41 hx hZ hown (own_hw hw 69 rfl) (own_hw hw 70 rfl) (notFace_of_selects (args := #[]) (mvT hZ (own_hw hw 72 rfl))) (own_hw hw 72 rfl) (own_hw hw 71 rfl) (own_hw hw 73 rfl) (own_hw hw 32 rfl) (by decide) (b := d37) (argsL := []) (rest := []) (own_g_column l Z a0 hw d37 p2 T37.heap n0 G37_column) e41 Ed37 (by rw [hml]; rfl) (lenOf own_pd13941 rfl) rfl (hb hby at_169) (W := 0) (Nat.le_of_eq rfl) (by decide) ?_
      intro v42 T42 L42 X42 q42
      obtain ⟨rfl, N42q, e42⟩ := q42
      have N42 := Fr.app N41 N42q
      show own_Go p e below _ T42 (mkF m 172 #[iv p1, iv p2, iv p3, iv p4, iv p5, .val .null, rv b35, rv d37, iv 1, iv 1, iv 1, .unset, .unset] [(.int p2)])
      refine og_iloadN X42 hx (hb hby at_172) rfl ?_
      refine og_icN X42 hx (hb hby at_173) (teq rfl).2 ?_
      refine og_iconst X42 hx (hb hby at_176) ?_
      refine og_goto X42 hx 181 (hb hby at_177) (by decide) (by decide) ?_
      refine og_istore X42 hx #[iv p1, iv p2, iv p3, iv p4, iv p5, .val .null, rv b35, rv d37, iv 1, iv 1, iv 1, iv 1, .unset] (hb hby at_181) rfl ?_
      refine og_aload X42 hx (hb hby at_183) rfl rfl ?_
      refine own_callV X42 hx hZ hown (own_hw hw 74 rfl) (own_hw hw 75 rfl) (notFace_of_selects (args := #[]) (mvT hZ (own_hw hw 77 rfl))) (own_hw hw 77 rfl) (own_hw hw 76 rfl) (own_hw hw 78 rfl) (own_hw hw 32 rfl) (by decide) (b := d37) (argsL := []) (rest := []) (own_g_message l Z a0 hw d37 b35 T37.heap n0 G37_message) e42 Ed37 (by rw [hml]; rfl) (lenOf own_pd53479 rfl) rfl (hb hby at_185) (W := 0) (Nat.le_of_eq rfl) (by decide) ?_
      intro v43 T43 L43 X43 q43
      obtain ⟨rfl, N43q, e43⟩ := q43
      have N43 := Fr.app N42 N43q
      show own_Go p e below _ T43 (mkF m 188 #[iv p1, iv p2, iv p3, iv p4, iv p5, .val .null, rv b35, rv d37, iv 1, iv 1, iv 1, iv 1, .unset] [(.ref b35)])
      refine og_aload X43 hx (hb hby at_188) rfl rfl ?_
      refine og_acmp X43 hx (pc' := 193) (same := true) rfl rfl (hb hby at_190) (decide_eq_true (rfl)) (by decide) (by decide) ?_
      show own_Go p e below _ T43 (mkF m 193 #[iv p1, iv p2, iv p3, iv p4, iv p5, .val .null, rv b35, rv d37, iv 1, iv 1, iv 1, iv 1, .unset] [])
      refine og_iconst X43 hx (hb hby at_193) ?_
      refine og_goto X43 hx 198 (hb hby at_194) (by decide) (by decide) ?_
      refine og_istore X43 hx #[iv p1, iv p2, iv p3, iv p4, iv p5, .val .null, rv b35, rv d37, iv 1, iv 1, iv 1, iv 1, iv 1] (hb hby at_198) rfl ?_
      refine og_iload X43 hx (hb hby at_200) rfl ?_
      refine og_ifN X43 hx (hb hby at_202) (feq (by decide)).1 ?_
      refine og_iload X43 hx (hb hby at_205) rfl ?_
      refine og_ifN X43 hx (hb hby at_207) (feq (by decide)).1 ?_
      refine og_iload X43 hx (hb hby at_210) rfl ?_
      refine og_ifN X43 hx (hb hby at_212) (feq (by decide)).1 ?_
      refine og_iload X43 hx (hb hby at_215) rfl ?_
      refine og_ifN X43 hx (hb hby at_217) (feq (by decide)).1 ?_
      refine og_iload X43 hx (hb hby at_220) rfl ?_
      refine og_ifN X43 hx (hb hby at_222) (feq (by decide)).1 ?_
      refine og_iconst X43 hx (hb hby at_225) ?_
      refine og_goto X43 hx 230 (hb hby at_226) (by decide) (by decide) ?_
      exact own_retIW X43 hx hret hlk (hb hby at_230) rfl (by simp) hS (by rw [e43]; exact hk37) (by decide) (by decide) (⟨rfl, N43⟩)
    · refine og_ifN X0 hx (hb hby at_56) (feq hc56).1 ?_
      refine own_ldcS X0 hx hZ hown (own_hw hw 79 rfl) hwS e0 hS hk (hb hby at_59) 0 (by decide) (by decide) (by decide) (by decide) ?_
      intro s44 T44 h44 k44 X44 e44 E44 hS44 hk44 hZ44 hown44
      have O44 := hO.ext E44
      show own_Go p e below _ T44 (mkF m 61 #[iv p1, iv p2, iv p3, iv p4, iv p5, .val .null, .unset, .unset, .unset, .unset, .unset, .unset, .unset] [(.ref s44)])
      refine og_astore X44 hx #[iv p1, iv p2, iv p3, iv p4, iv p5, .val .null, rv s44, .unset, .unset, .unset, .unset, .unset, .unset] (hb hby at_61) rfl rfl ?_
      refine og_goto X44 hx 105 (hb hby at_63) (by decide) (by decide) ?_
      refine og_aload X44 hx (hb hby at_105) rfl rfl ?_
      refine og_iloadN X44 hx (hb hby at_107) rfl ?_
      refine og_iloadN X44 hx (hb hby at_108) rfl ?_
      refine og_aload X44 hx (hb hby at_109) rfl rfl ?_
      refine own_callS X44 hx hZ44 hown44 (own_hw hw 30 rfl) (own_hw hw 31 rfl) (own_hw hw 32 rfl) (own_hw hw 33 rfl) (by decide) (argsL := [.null, (.int p1), (.int p2), (.ref s44)]) (rest := []) (own_den l Z a0 hw c0 p1 p2 s44 h44 n0 O44 SE) e44 (by rw [hml]; rfl) (lenOf own_pd51426 rfl) rfl (hb hby at_111) (W := 0) (Nat.le_of_eq rfl) (by decide) ?_
      intro v45 T45 L45 X45 q45
      obtain ⟨d45, rfl, N45q, K45q, z45q, g45q, Ed45, G45_severity, G45_source, G45_line, G45_column, G45_message⟩ := q45
      have N45 := Fr.app N0 N45q
      have hk45 := Nat.le_trans hk44 K45q.1
      have O45 := O44.keep K45q all0
      show own_Go p e below _ T45 (mkF m 114 #[iv p1, iv p2, iv p3, iv p4, iv p5, .val .null, rv s44, .unset, .unset, .unset, .unset, .unset, .unset] [(.ref d45)])
      refine og_astore X45 hx #[iv p1, iv p2, iv p3, iv p4, iv p5, .val .null, rv s44, rv d45, .unset, .unset, .unset, .unset, .unset] (hb hby at_114) rfl rfl ?_
      refine og_aload X45 hx (hb hby at_116) rfl rfl ?_
      refine own_callV X45 hx hZ44 hown44 (own_hw hw 53 rfl) (own_hw hw 54 rfl) (notFace_of_selects (args := #[]) (mvT hZ44 (own_hw hw 56 rfl))) (own_hw hw 56 rfl) (own_hw hw 55 rfl) (own_hw hw 57 rfl) (own_hw hw 32 rfl) (by decide) (b := d45) (argsL := []) (rest := []) (own_g_severity l Z a0 hw d45 c0 T45.heap n0 G45_severity) rfl Ed45 (by rw [hml]; rfl) (lenOf own_pd64778 rfl) rfl (hb hby at_118) (W := 0) (Nat.le_of_eq rfl) (by decide) ?_
      intro v46 T46 L46 X46 q46
      obtain ⟨rfl, N46q, e46⟩ := q46
      have N46 := Fr.app N45 N46q
      show own_Go p e below _ T46 (mkF m 121 #[iv p1, iv p2, iv p3, iv p4, iv p5, .val .null, rv s44, rv d45, .unset, .unset, .unset, .unset, .unset] [(.ref c0)])
      refine og_getS X46 hx hZ44 hown44 (own_hw hw 58 rfl) Via.refl e46 (SE.ext O45.2) (hb hby at_121) ?_
      intro T47 X47 e47
      show own_Go p e below _ T47 (mkF m 124 #[iv p1, iv p2, iv p3, iv p4, iv p5, .val .null, rv s44, rv d45, .unset, .unset, .unset, .unset, .unset] [(.ref c0), (.ref c0)])
      refine og_acmp X47 hx (pc' := 127) (same := true) rfl rfl (hb hby at_124) (decide_eq_true (rfl)) (by decide) (by decide) ?_
      show own_Go p e below _ T47 (mkF m 127 #[iv p1, iv p2, iv p3, iv p4, iv p5, .val .null, rv s44, rv d45, .unset, .unset, .unset, .unset, .unset] [])
      refine og_iconst X47 hx (hb hby at_127) ?_
      refine og_goto X47 hx 132 (hb hby at_128) (by decide) (by decide) ?_
      refine og_istore X47 hx #[iv p1, iv p2, iv p3, iv p4, iv p5, .val .null, rv s44, rv d45, iv 1, .unset, .unset, .unset, .unset] (hb hby at_132) rfl ?_
      refine og_aload X47 hx (hb hby at_134) rfl rfl ?_
      refine own_callV X47 hx hZ44 hown44 (own_hw hw 59 rfl) (own_hw hw 60 rfl) (notFace_of_selects (args := #[]) (mvT hZ44 (own_hw hw 62 rfl))) (own_hw hw 62 rfl) (own_hw hw 61 rfl) (own_hw hw 63 rfl) (own_hw hw 32 rfl) (by decide) (b := d45) (argsL := []) (rest := []) (own_dsn l Z a0 hw d45 T45.heap n0 G45_source) e47 Ed45 (by rw [hml]; rfl) (lenOf own_pd53479 rfl) rfl (hb hby at_136) (W := 0) (Nat.le_of_eq rfl) (by decide) ?_
      intro v48 T48 L48 X48 q48
      obtain ⟨rfl, N48q, e48⟩ := q48
      have N48 := Fr.app N46 N48q
      show own_Go p e below _ T48 (mkF m 139 #[iv p1, iv p2, iv p3, iv p4, iv p5, .val .null, rv s44, rv d45, iv 1, .unset, .unset, .unset, .unset] [.null])
      refine og_aload X48 hx (hb hby at_139) rfl rfl ?_
      refine og_acmp X48 hx (pc' := 144) (same := true) rfl rfl (hb hby at_141) (decide_eq_true (rfl)) (by decide) (by decide) ?_
      show own_Go p e below _ T48 (mkF m 144 #[iv p1, iv p2, iv p3, iv p4, iv p5, .val .null, rv s44, rv d45, iv 1, .unset, .unset, .unset, .unset] [])
      refine og_iconst X48 hx (hb hby at_144) ?_
      refine og_goto X48 hx 149 (hb hby at_145) (by decide) (by decide) ?_
      refine og_istore X48 hx #[iv p1, iv p2, iv p3, iv p4, iv p5, .val .null, rv s44, rv d45, iv 1, iv 1, .unset, .unset, .unset] (hb hby at_149) rfl ?_
      refine og_aload X48 hx (hb hby at_151) rfl rfl ?_
      refine own_callV X48 hx hZ44 hown44 (own_hw hw 64 rfl) (own_hw hw 65 rfl) (notFace_of_selects (args := #[]) (mvT hZ44 (own_hw hw 67 rfl))) (own_hw hw 67 rfl) (own_hw hw 66 rfl) (own_hw hw 68 rfl) (own_hw hw 32 rfl) (by decide) (b := d45) (argsL := []) (rest := []) (own_g_line l Z a0 hw d45 p1 T45.heap n0 G45_line) e48 Ed45 (by rw [hml]; rfl) (lenOf own_pd13941 rfl) rfl (hb hby at_153) (W := 0) (Nat.le_of_eq rfl) (by decide) ?_
      intro v49 T49 L49 X49 q49
      obtain ⟨rfl, N49q, e49⟩ := q49
      have N49 := Fr.app N48 N49q
      show own_Go p e below _ T49 (mkF m 156 #[iv p1, iv p2, iv p3, iv p4, iv p5, .val .null, rv s44, rv d45, iv 1, iv 1, .unset, .unset, .unset] [(.int p1)])
      refine og_iloadN X49 hx (hb hby at_156) rfl ?_
      refine og_icN X49 hx (hb hby at_157) (teq rfl).2 ?_
      refine og_iconst X49 hx (hb hby at_160) ?_
      refine og_goto X49 hx 165 (hb hby at_161) (by decide) (by decide) ?_
      refine og_istore X49 hx #[iv p1, iv p2, iv p3, iv p4, iv p5, .val .null, rv s44, rv d45, iv 1, iv 1, iv 1, .unset, .unset] (hb hby at_165) rfl ?_
      refine og_aload X49 hx (hb hby at_167) rfl rfl ?_
      refine own_callV X49 hx hZ44 hown44 (own_hw hw 69 rfl) (own_hw hw 70 rfl) (notFace_of_selects (args := #[]) (mvT hZ44 (own_hw hw 72 rfl))) (own_hw hw 72 rfl) (own_hw hw 71 rfl) (own_hw hw 73 rfl) (own_hw hw 32 rfl) (by decide) (b := d45) (argsL := []) (rest := []) (own_g_column l Z a0 hw d45 p2 T45.heap n0 G45_column) e49 Ed45 (by rw [hml]; rfl) (lenOf own_pd13941 rfl) rfl (hb hby at_169) (W := 0) (Nat.le_of_eq rfl) (by decide) ?_
      intro v50 T50 L50 X50 q50
      obtain ⟨rfl, N50q, e50⟩ := q50
      have N50 := Fr.app N49 N50q
      show own_Go p e below _ T50 (mkF m 172 #[iv p1, iv p2, iv p3, iv p4, iv p5, .val .null, rv s44, rv d45, iv 1, iv 1, iv 1, .unset, .unset] [(.int p2)])
      refine og_iloadN X50 hx (hb hby at_172) rfl ?_
      refine og_icN X50 hx (hb hby at_173) (teq rfl).2 ?_
      refine og_iconst X50 hx (hb hby at_176) ?_
      refine og_goto X50 hx 181 (hb hby at_177) (by decide) (by decide) ?_
      refine og_istore X50 hx #[iv p1, iv p2, iv p3, iv p4, iv p5, .val .null, rv s44, rv d45, iv 1, iv 1, iv 1, iv 1, .unset] (hb hby at_181) rfl ?_
      refine og_aload X50 hx (hb hby at_183) rfl rfl ?_
      refine own_callV X50 hx hZ44 hown44 (own_hw hw 74 rfl) (own_hw hw 75 rfl) (notFace_of_selects (args := #[]) (mvT hZ44 (own_hw hw 77 rfl))) (own_hw hw 77 rfl) (own_hw hw 76 rfl) (own_hw hw 78 rfl) (own_hw hw 32 rfl) (by decide) (b := d45) (argsL := []) (rest := []) (own_g_message l Z a0 hw d45 s44 T45.heap n0 G45_message) e50 Ed45 (by rw [hml]; rfl) (lenOf own_pd53479 rfl) rfl (hb hby at_185) (W := 0) (Nat.le_of_eq rfl) (by decide) ?_
      intro v51 T51 L51 X51 q51
      obtain ⟨rfl, N51q, e51⟩ := q51
      have N51 := Fr.app N50 N51q
      show own_Go p e below _ T51 (mkF m 188 #[iv p1, iv p2, iv p3, iv p4, iv p5, .val .null, rv s44, rv d45, iv 1, iv 1, iv 1, iv 1, .unset] [(.ref s44)])
      refine og_aload X51 hx (hb hby at_188) rfl rfl ?_
      refine og_acmp X51 hx (pc' := 193) (same := true) rfl rfl (hb hby at_190) (decide_eq_true (rfl)) (by decide) (by decide) ?_
      show own_Go p e below _ T51 (mkF m 193 #[iv p1, iv p2, iv p3, iv p4, iv p5, .val .null, rv s44, rv d45, iv 1, iv 1, iv 1, iv 1, .unset] [])
      refine og_iconst X51 hx (hb hby at_193) ?_
      refine og_goto X51 hx 198 (hb hby at_194) (by decide) (by decide) ?_
      refine og_istore X51 hx #[iv p1, iv p2, iv p3, iv p4, iv p5, .val .null, rv s44, rv d45, iv 1, iv 1, iv 1, iv 1, iv 1] (hb hby at_198) rfl ?_
      refine og_iload X51 hx (hb hby at_200) rfl ?_
      refine og_ifN X51 hx (hb hby at_202) (feq (by decide)).1 ?_
      refine og_iload X51 hx (hb hby at_205) rfl ?_
      refine og_ifN X51 hx (hb hby at_207) (feq (by decide)).1 ?_
      refine og_iload X51 hx (hb hby at_210) rfl ?_
      refine og_ifN X51 hx (hb hby at_212) (feq (by decide)).1 ?_
      refine og_iload X51 hx (hb hby at_215) rfl ?_
      refine og_ifN X51 hx (hb hby at_217) (feq (by decide)).1 ?_
      refine og_iload X51 hx (hb hby at_220) rfl ?_
      refine og_ifN X51 hx (hb hby at_222) (feq (by decide)).1 ?_
      refine og_iconst X51 hx (hb hby at_225) ?_
      refine og_goto X51 hx 230 (hb hby at_226) (by decide) (by decide) ?_
      exact own_retIW X51 hx hret hlk (hb hby at_230) rfl (by simp) hS44 (by rw [e51]; exact hk45) (by decide) (by decide) (⟨rfl, N51⟩)
set_option maxRecDepth 65536 in
set_option maxHeartbeats 40000000 in
theorem comes_1 {Post : Tables → Env → Array Value → State → Outcome → State → Prop} (hpost : ∀ tb e args s v u, (limb_1_1.after args s (.returned v) u = true ∧ limb_1_2.after args s (.returned v) u = true ∧ True) → ReturnedEndW s (.returned v) u (Jvm.fieldLocs frame_1_writes args s ++ Jvm.arrayLocs frame_1_arrays args s ++ Jvm.staticLocs frame_1_statics s) 24 1152 → Post tb e args s (.returned v) u) :
    ArmFor flags0 classFile x code maxLocals ret World_1 tables_1 room_1 Calls_1 rest_1 Pre_1 Post := by
  intro l hfl _ _ p e ha hc hk s m args below hf hA hF happ hP
  obtain ⟨hcalls, hrest, hpre⟩ := hP
  obtain ⟨-, -, -, hnamed, -, -, -, hat⟩ := (Spec.applies_iff hf).mp happ
  obtain ⟨hg, hn⟩ := and_e (Cond.before_iff.mp (show (Jvm.Cond.and given_1 narrow_1).before args s = true from hpre))
  obtain ⟨hcount, hk0⟩ := and_e hg
  obtain ⟨w0, w1, w2, w3, w4, rfl⟩ : ∃ w0 w1 w2 w3 w4 : Value, args = #[w0, w1, w2, w3, w4] := by
    have hs : args.size = 5 := by simpa [Cond.value, given_1] using hcount
    obtain ⟨L⟩ := args
    match L, hs with
    | [w0, w1, w2, w3, w4], _ => exact ⟨w0, w1, w2, w3, w4, rfl⟩
  have hw := fun d (hd : d ∈ tables_1) => atoms_spec (ws := Jvm.Cond.code x code maxLocals ret :: tables_1) hat d (List.mem_cons_of_mem _ hd)
  have hfit : Fit s := fun {y c} hc i hi => by
    obtain ⟨ha, rfl⟩ := Array.getElem?_eq_some_iff.mp hc
    have q := List.all_eq_true.mp ((Array.all_eq_true_iff_forall_mem.mp hF) _ (Array.getElem_mem ha)) i (List.mem_range.mpr hi)
    simpa [Array.getElem?_eq_getElem hi] using q
  obtain ⟨hi0, hk1⟩ := and_e hk0
  obtain ⟨i0, ei0⟩ := is_v hi0
  obtain rfl : w0 = (.int i0) := Option.some.inj ei0
  obtain ⟨hi1, hk2⟩ := and_e hk1
  obtain ⟨i1, ei1⟩ := is_v hi1
  obtain rfl : w1 = (.int i1) := Option.some.inj ei1
  obtain ⟨hi2, hk3⟩ := and_e hk2
  obtain ⟨i2, ei2⟩ := is_v hi2
  obtain rfl : w2 = (.int i2) := Option.some.inj ei2
  obtain ⟨hi3, hk4⟩ := and_e hk3
  obtain ⟨i3, ei3⟩ := is_v hi3
  obtain rfl : w3 = (.int i3) := Option.some.inj ei3
  obtain ⟨i4, ei4⟩ := is_v hk4
  obtain rfl : w4 = (.int i4) := Option.some.inj ei4
  have n0 := hn
  obtain ⟨hsets, hown0⟩ := atoms_of _ (rest_1_c_eq ▸ (show rest_1_c.before _ s = true from hrest))
  have z1 := not_v (Cond.before_iff.mp (hsets _ (List.mem_of_getElem? (i := 2) rfl)))
  obtain ⟨z, ez⟩ := is_v (Cond.before_iff.mp (hsets _ (List.mem_of_getElem? (i := 1) rfl)))
  have SC : Sta s s.heap "java/lang/String" "COMPACT_STRINGS" "Z" (.int z) := Sta.start ez (Or.inl (hsets _ (List.mem_of_getElem? (i := 0) rfl)))
  have hz : ¬ (z = (0 : Int32)) := gotF (Cond.eq_ints ez (Term.int_eval (0))) z1
  obtain ⟨c0, ev0⟩ := exa_v n0
  have SE : Sta s s.heap "com/example/wherewithal/wherewithal/Diagnostic$Severity" "ERROR" "Lcom/example/wherewithal/wherewithal/Diagnostic$Severity;" (.ref c0) := Sta.start ev0 (Or.inr ⟨(own_hw hw 37 rfl), (own_hw hw 38 rfl)⟩)
  obtain ⟨n, o, h1, h2, h3, _, L, rfl, ⟨rfl, N⟩, hq⟩ := (own_rm0 l s _ hw i0 i1 i2 i3 i4 z c0 s.heap s.heap.size (Old.start s) SC hz SE) tables_1 p e ha hc hk s m _ below hf ((Spec.applies_iff_loose hf).mp happ).1 ⟨rfl, State.Warmed39.refl s, rfl⟩ trivial
  refine ⟨n, _, h1, h2, h3, hpost _ _ _ _ _ _ ⟨Cond.after_iff.mpr rfl, Cond.after_iff.mpr (eq_i res_at (Term.int_eval (1)) rfl), trivial⟩ ⟨hq.1, hq.2.1, hq.2.2.1, (hq.2.2.2.sift fun y hy => Or.inr (N y hy)).mono (by decide) (by decide)⟩⟩
theorem main_1_1 : Claimed_1_1 := comes_1 fun _ _ _ _ _ _ h hF => ⟨h.1, hF⟩
theorem main_1_2 : Claimed_1_2 := comes_1 fun _ _ _ _ _ _ h hF => ⟨h.2.1, hF⟩
end Jvm.Pilot.@@N@@
namespace Jvm.Pilot.@@N@@
open Jvm Jvm.ClassFile Sem Op Lib Jvm.Free Jvm.Stand Jvm.Pilot.@@N@@.Jvm.D
/-! MADE BY PROGRAM (witnessworld.py) out of the Statement's table words and the real class files: 22 classes; the members and pool entries that the words name. The judged class is class 1, her method 1. -/
namespace start1
open Jvm.ClassFile
def u (s : String) : CpInfo := .utf8 (stringToUtf16 s)
/-- a pool by its gaps: so many unusable entries, then the entry; so many at the end -/
def gap : Nat → List CpInfo → List CpInfo
  | 0, r => r
  | n + 1, r => .unusable :: gap n r
def poolList (es : List (Nat × CpInfo)) (last : Nat) : List CpInfo := es.foldr (fun e r => gap e.1 (e.2 :: r)) (gap last [])
def pool (es : List (Nat × CpInfo)) (last : Nat) : Array CpInfo := ⟨poolList es last⟩
def fileOf (pool : Array CpInfo) (this : Nat) (attrs : Array Attribute := #[]) (ms : Array MethodInfo := #[]) (fl : Nat := 33) (sup : Nat := 0) (ifs : Array Nat := #[]) (fds : Array FieldInfo := #[]) : ClassFile where
  minorVersion := 0
  majorVersion := 65
  constantPool := pool
  accessFlags := fl
  thisClass := this
  superClass := sup
  interfaces := ifs
  fields := fds
  methods := ms
  attributes := attrs
def plain (name : String) (sup : Option ClassId) : Class where
  name := name
  kind := .ordinary
  loader := none
  accessFlags := 33
  super := sup
  interfaces := #[]
  cf := none
  fields := #[]
  methods := #[]
  instanceTypes := #[]
  staticTypes := #[]
  resolved := #[]
  callSites := []
  init := .initialized
  statics := none
  mirror := none

def pool0 : Array CpInfo := pool [(5, u "<init>"), (0, u "()V"), (1, .class_ 10), (1, u "java/lang/Object")] 113

def k0c0 : Code := { maxStack := 0, maxLocals := 1, code := object_method_1_code, exceptionTable := #[], attributes := #[] }
def k0m0 : Method := { name := "<init>", desc := "()V", sig := { parameters := [], returnType := none }, accessFlags := 1, code := some k0c0 }
/-- java/lang/Object -/
def k0 : Class := { plain "java/lang/Object" none with
  accessFlags := 33
  interfaces := #[]
  cf := some (fileOf pool0 8 #[] #[{ accessFlags := 1, nameIndex := 5, descriptorIndex := 6, attributes := #[] }] 33 0 #[] #[])
  fields := #[]
  methods := #[k0m0]
  instanceTypes := #[]
  staticTypes := #[]
  resolved := Array.replicate 124 none
  statics := none }

def pool1 : Array CpInfo := pool [(2, .class_ 4), (1, u "java/lang/Object"), (0, u "<init>"), (0, u "()V"), (0, .class_ 8), (0, u "java/lang/String"), (0, .methodref 7 10), (0, .nameAndType 5 11), (0, u "([C)V"), (0, .string 13), (0, u ""), (0, .methodref 15 16), (0, .class_ 17), (0, .nameAndType 18 19), (0, u "com/example/wherewithal/wherewithal/Diagnostic"), (0, u "error"), (0, u "(Ljava/lang/String;IILjava/lang/String;)Lcom/example/wherewithal/wherewithal/Diagnostic;"), (0, .methodref 15 21), (0, .nameAndType 22 23), (0, u "severity"), (0, u "()Lcom/example/wherewithal/wherewithal/Diagnostic$Severity;"), (0, .fieldref 25 26), (0, .class_ 27), (0, .nameAndType 28 29), (0, u "com/example/wherewithal/wherewithal/Diagnostic$Severity"), (0, u "ERROR"), (0, u "Lcom/example/wherewithal/wherewithal/Diagnostic$Severity;"), (0, .methodref 15 31), (0, .nameAndType 32 33), (0, u "source"), (0, u "()Ljava/lang/String;"), (0, .methodref 15 35), (0, .nameAndType 36 37), (0, u "line"), (0, u "()I"), (0, .methodref 15 39), (0, .nameAndType 40 37), (0, u "column"), (0, .methodref 15 42), (0, .nameAndType 43 33), (0, u "message"), (0, .class_ 45), (0, u "com/example/wherewithal/wherewithal/DiagnosticErrorPinLaw"), (2, u "law"), (0, u "(IIIII)Z")] 5

def k1m0 : Method := { name := "<init>", desc := "()V", sig := { parameters := [], returnType := none }, accessFlags := 1, code := none }
def k1c1 : Code := { maxStack := 4, maxLocals := 13, code := code, exceptionTable := #[], attributes := #[] }
def k1m1 : Method := { name := "law", desc := "(IIIII)Z", sig := { parameters := [.int, .int, .int, .int, .int], returnType := some .boolean }, accessFlags := 9, code := some k1c1 }
/-- com/example/wherewithal/wherewithal/DiagnosticErrorPinLaw -/
def k1 : Class := { plain "com/example/wherewithal/wherewithal/DiagnosticErrorPinLaw" (some 0) with
  accessFlags := 49
  interfaces := #[]
  cf := some (fileOf pool1 44 #[] #[{ accessFlags := 1, nameIndex := 5, descriptorIndex := 6, attributes := #[] }, { accessFlags := 9, nameIndex := 48, descriptorIndex := 49, attributes := #[] }] 49 2 #[] #[])
  fields := #[]
  methods := #[k1m0, k1m1]
  instanceTypes := #[]
  staticTypes := #[]
  resolved := Array.replicate 55 none
  statics := none }

def pool2 : Array CpInfo := pool [(1, .class_ 2), (0, u "java/io/Serializable"), (0, .class_ 4), (0, u "java/lang/Object")] 2

/-- java/io/Serializable -/
def k2 : Class := { plain "java/io/Serializable" (some 0) with
  accessFlags := 1537
  interfaces := #[]
  cf := some (fileOf pool2 1 #[] #[] 1537 3 #[] #[])
  fields := #[]
  methods := #[]
  instanceTypes := #[]
  staticTypes := #[]
  resolved := Array.replicate 7 none
  statics := none }

def pool3 : Array CpInfo := pool [(1, .class_ 2), (0, u "java/lang/Comparable"), (0, .class_ 4), (0, u "java/lang/Object")] 7

/-- java/lang/Comparable -/
def k3 : Class := { plain "java/lang/Comparable" (some 0) with
  accessFlags := 1537
  interfaces := #[]
  cf := some (fileOf pool3 1 #[] #[] 1537 3 #[] #[])
  fields := #[]
  methods := #[]
  instanceTypes := #[]
  staticTypes := #[]
  resolved := Array.replicate 12 none
  statics := none }

def pool4 : Array CpInfo := pool [(2, .class_ 4), (1, u "java/lang/CharSequence"), (42, .class_ 48), (0, u "java/lang/CharSequence$1CodePointIterator"), (10, .class_ 60), (0, u "java/lang/CharSequence$1CharIterator"), (5, .class_ 67), (0, u "java/lang/Object")] 63

/-- java/lang/CharSequence -/
def k4 : Class := { plain "java/lang/CharSequence" (some 0) with
  accessFlags := 1537
  interfaces := #[]
  cf := some (fileOf pool4 2 #[.nestMembers #[47, 59]] #[] 1537 66 #[] #[])
  fields := #[]
  methods := #[]
  instanceTypes := #[]
  staticTypes := #[]
  resolved := Array.replicate 131 none
  statics := none }

def pool5 : Array CpInfo := pool [(1, .class_ 2), (0, u "java/lang/constant/Constable"), (0, .class_ 4), (0, u "java/lang/Object")] 6

/-- java/lang/constant/Constable -/
def k5 : Class := { plain "java/lang/constant/Constable" (some 0) with
  accessFlags := 1537
  interfaces := #[]
  cf := some (fileOf pool5 1 #[] #[] 1537 3 #[] #[])
  fields := #[]
  methods := #[]
  instanceTypes := #[]
  staticTypes := #[]
  resolved := Array.replicate 11 none
  statics := none }

def pool6 : Array CpInfo := pool [(1, .class_ 2), (0, u "java/lang/constant/ConstantDesc"), (0, .class_ 4), (0, u "java/lang/Object")] 32

/-- java/lang/constant/ConstantDesc -/
def k6 : Class := { plain "java/lang/constant/ConstantDesc" (some 0) with
  accessFlags := 1537
  interfaces := #[]
  cf := some (fileOf pool6 1 #[] #[] 1537 3 #[] #[])
  fields := #[]
  methods := #[]
  instanceTypes := #[]
  staticTypes := #[]
  resolved := Array.replicate 37 none
  statics := none }

def pool7 : Array CpInfo := pool [(1, .methodref 2 3), (0, .class_ 4), (0, .nameAndType 5 6), (0, u "java/lang/Object"), (0, u "<init>"), (0, u "()V"), (2, .fieldref 10 11), (0, .class_ 12), (0, .nameAndType 13 14), (0, u "java/lang/String"), (0, u "value"), (0, u "[B"), (0, .fieldref 10 16), (0, .nameAndType 17 18), (0, u "coder"), (0, u "B"), (2, u "hash"), (0, u "I"), (2, u "hashIsZero"), (0, u "Z"), (0, .methodref 10 28), (0, .nameAndType 5 29), (0, u "([CIILjava/lang/Void;)V"), (8, .fieldref 10 39), (0, .nameAndType 40 26), (0, u "COMPACT_STRINGS"), (1, .class_ 44), (1, u "java/lang/StringUTF16"), (0, u "compress"), (1, .methodref 42 48), (0, .nameAndType 49 50), (0, u "coderFromArrayLen"), (0, u "([BI)B"), (126, .methodref 42 178), (0, .nameAndType 45 179), (0, u "([CII)[B"), (395, .class_ 576), (0, u "java/lang/CharSequence"), (22, u "CASE_INSENSITIVE_ORDER"), (0, u "Ljava/util/Comparator;"), (409, u "([C)V"), (90, u "serialPersistentFields"), (0, u "[Ljava/io/ObjectStreamField;"), (0, .class_ 1104), (0, u "java/lang/String$CaseInsensitiveComparator"), (1, .class_ 1107), (0, u "java/io/Serializable"), (0, .class_ 1109), (0, u "java/lang/Comparable"), (0, .class_ 1111), (0, u "java/lang/constant/Constable"), (0, .class_ 1113), (0, u "java/lang/constant/ConstantDesc"), (2, u "serialVersionUID"), (0, u "J"), (3, u "REPL"), (0, u "C"), (2, u "LATIN1"), (1, u "UTF16")] 323

def k7m0 : Method := { name := "<init>", desc := "()V", sig := { parameters := [], returnType := none }, accessFlags := 1, code := none }
def k7c1 : Code := { maxStack := 5, maxLocals := 2, code := jdk_42_method_3_code, exceptionTable := #[], attributes := #[] }
def k7m1 : Method := { name := "<init>", desc := "([C)V", sig := { parameters := [(.array .char)], returnType := none }, accessFlags := 1, code := some k7c1 }
def k7c2 : Code := { maxStack := 4, maxLocals := 6, code := jdk_42_method_149_code, exceptionTable := #[], attributes := #[] }
def k7m2 : Method := { name := "<init>", desc := "([CIILjava/lang/Void;)V", sig := { parameters := [(.array .char), .int, .int, (.object "java/lang/Void")], returnType := none }, accessFlags := 2, code := some k7c2 }
/-- java/lang/String -/
def k7 : Class := { plain "java/lang/String" (some 0) with
  accessFlags := 49
  interfaces := #[2, 3, 4, 5, 6]
  cf := some (fileOf pool7 10 #[.nestMembers #[1103]] #[{ accessFlags := 1, nameIndex := 5, descriptorIndex := 6, attributes := #[] }, { accessFlags := 1, nameIndex := 5, descriptorIndex := 1010, attributes := #[] }, { accessFlags := 2, nameIndex := 5, descriptorIndex := 29, attributes := #[] }] 49 2 #[1106, 1108, 575, 1110, 1112] #[{ accessFlags := 18, nameIndex := 13, descriptorIndex := 14, attributes := #[] }, { accessFlags := 18, nameIndex := 17, descriptorIndex := 18, attributes := #[] }, { accessFlags := 2, nameIndex := 21, descriptorIndex := 22, attributes := #[] }, { accessFlags := 2, nameIndex := 25, descriptorIndex := 26, attributes := #[] }, { accessFlags := 26, nameIndex := 1116, descriptorIndex := 1117, attributes := #[] }, { accessFlags := 24, nameIndex := 40, descriptorIndex := 26, attributes := #[] }, { accessFlags := 26, nameIndex := 1101, descriptorIndex := 1102, attributes := #[] }, { accessFlags := 26, nameIndex := 1121, descriptorIndex := 1122, attributes := #[] }, { accessFlags := 25, nameIndex := 599, descriptorIndex := 600, attributes := #[] }, { accessFlags := 24, nameIndex := 1125, descriptorIndex := 18, attributes := #[] }, { accessFlags := 24, nameIndex := 1127, descriptorIndex := 18, attributes := #[] }])
  fields := #[{ name := "value", type := (.array .byte), accessFlags := 18, slot := 0, constantValue := 0 }, { name := "coder", type := .byte, accessFlags := 18, slot := 1, constantValue := 0 }, { name := "hash", type := .int, accessFlags := 2, slot := 2, constantValue := 0 }, { name := "hashIsZero", type := .boolean, accessFlags := 2, slot := 3, constantValue := 0 }, { name := "serialVersionUID", type := .long, accessFlags := 26, slot := 0, constantValue := 0 }, { name := "COMPACT_STRINGS", type := .boolean, accessFlags := 24, slot := 1, constantValue := 0 }, { name := "serialPersistentFields", type := (.array (.object "java/io/ObjectStreamField")), accessFlags := 26, slot := 2, constantValue := 0 }, { name := "REPL", type := .char, accessFlags := 26, slot := 3, constantValue := 0 }, { name := "CASE_INSENSITIVE_ORDER", type := (.object "java/util/Comparator"), accessFlags := 25, slot := 4, constantValue := 0 }, { name := "LATIN1", type := .byte, accessFlags := 24, slot := 5, constantValue := 0 }, { name := "UTF16", type := .byte, accessFlags := 24, slot := 6, constantValue := 0 }]
  methods := #[k7m0, k7m1, k7m2]
  instanceTypes := #[(.array .byte), .byte, .int, .boolean]
  staticTypes := #[.long, .boolean, (.array (.object "java/io/ObjectStreamField")), .char, (.object "java/util/Comparator"), .byte, .byte]
  resolved := Array.replicate 1451 none
  statics := some 0 }

def pool8 : Array CpInfo := pool [(6, .class_ 8), (1, u "java/lang/Object"), (0, u "<init>"), (0, u "()V"), (1, .class_ 14), (1, u "java/lang/StringUTF16"), (31, u "$assertionsDisabled"), (0, u "Z"), (13, u "HI_BYTE_SHIFT"), (0, u "I"), (2, u "LO_BYTE_SHIFT"), (49, .methodref 12 116), (0, .nameAndType 117 118), (0, u "compress"), (0, u "([CI[BII)I"), (3, u "([CII)[B"), (138, u "coderFromArrayLen"), (0, u "([BI)B"), (106, .class_ 371), (1, u "java/lang/StringUTF16$LinesSpliterator"), (58, u "MAX_LENGTH"), (196, .class_ 628), (0, u "java/lang/StringUTF16$CodePointsSpliterator"), (0, .class_ 630), (0, u "java/lang/StringUTF16$CharsSpliterator")] 4

def k8m0 : Method := { name := "<init>", desc := "()V", sig := { parameters := [], returnType := none }, accessFlags := 0, code := none }
def k8c1 : Code := { maxStack := 2, maxLocals := 2, code := jdk_52_method_15_code, exceptionTable := #[], attributes := #[] }
def k8m1 : Method := { name := "coderFromArrayLen", desc := "([BI)B", sig := { parameters := [(.array .byte), .int], returnType := some .byte }, accessFlags := 8, code := some k8c1 }
def k8c2 : Code := { maxStack := 5, maxLocals := 6, code := jdk_52_method_16_code, exceptionTable := #[], attributes := #[] }
def k8m2 : Method := { name := "compress", desc := "([CII)[B", sig := { parameters := [(.array .char), .int, .int], returnType := some (.array .byte) }, accessFlags := 9, code := some k8c2 }
def k8c3 : Code := { maxStack := 3, maxLocals := 7, code := jdk_52_method_21_code, exceptionTable := #[], attributes := #[] }
def k8m3 : Method := { name := "compress", desc := "([CI[BII)I", sig := { parameters := [(.array .char), .int, (.array .byte), .int, .int], returnType := some .int }, accessFlags := 9, code := some k8c3 }
/-- java/lang/StringUTF16 -/
def k8 : Class := { plain "java/lang/StringUTF16" (some 0) with
  accessFlags := 48
  interfaces := #[]
  cf := some (fileOf pool8 12 #[.nestMembers #[627, 629, 369]] #[{ accessFlags := 0, nameIndex := 9, descriptorIndex := 10, attributes := #[] }, { accessFlags := 8, nameIndex := 261, descriptorIndex := 262, attributes := #[] }, { accessFlags := 9, nameIndex := 117, descriptorIndex := 122, attributes := #[] }, { accessFlags := 9, nameIndex := 117, descriptorIndex := 118, attributes := #[] }] 48 6 #[] #[{ accessFlags := 26, nameIndex := 61, descriptorIndex := 62, attributes := #[] }, { accessFlags := 26, nameIndex := 65, descriptorIndex := 62, attributes := #[] }, { accessFlags := 24, nameIndex := 430, descriptorIndex := 62, attributes := #[] }, { accessFlags := 4120, nameIndex := 46, descriptorIndex := 47, attributes := #[] }])
  fields := #[{ name := "HI_BYTE_SHIFT", type := .int, accessFlags := 26, slot := 0, constantValue := 0 }, { name := "LO_BYTE_SHIFT", type := .int, accessFlags := 26, slot := 1, constantValue := 0 }, { name := "MAX_LENGTH", type := .int, accessFlags := 24, slot := 2, constantValue := 0 }, { name := "$assertionsDisabled", type := .boolean, accessFlags := 4120, slot := 3, constantValue := 0 }]
  methods := #[k8m0, k8m1, k8m2, k8m3]
  instanceTypes := #[]
  staticTypes := #[.int, .int, .int, .boolean]
  resolved := Array.replicate 635 none
  statics := none }

def pool9 : Array CpInfo := pool [(1, .methodref 2 3), (0, .class_ 4), (0, .nameAndType 5 6), (0, u "java/lang/Object"), (0, u "<init>"), (0, u "()V"), (0, .fieldref 8 9), (0, .class_ 10), (0, .nameAndType 11 12), (0, u "com/example/wherewithal/wherewithal/Diagnostic"), (0, u "severity"), (0, u "Lcom/example/wherewithal/wherewithal/Diagnostic$Severity;"), (0, .fieldref 8 14), (0, .nameAndType 15 16), (0, u "source"), (0, u "Ljava/lang/String;"), (0, .fieldref 8 18), (0, .nameAndType 19 20), (0, u "line"), (0, u "I"), (0, .fieldref 8 22), (0, .nameAndType 23 20), (0, u "column"), (0, .fieldref 8 25), (0, .nameAndType 26 16), (0, u "message"), (0, .fieldref 28 29), (0, .class_ 30), (0, .nameAndType 31 12), (0, u "com/example/wherewithal/wherewithal/Diagnostic$Severity"), (0, u "ERROR"), (0, .methodref 8 33), (0, .nameAndType 5 34), (0, u "(Lcom/example/wherewithal/wherewithal/Diagnostic$Severity;Ljava/lang/String;IILjava/lang/String;)V"), (2, u "error"), (0, u "(Ljava/lang/String;IILjava/lang/String;)Lcom/example/wherewithal/wherewithal/Diagnostic;"), (34, u "()I"), (25, u "()Ljava/lang/String;"), (60, u "()Lcom/example/wherewithal/wherewithal/Diagnostic$Severity;")] 21

def k9c0 : Code := { maxStack := 2, maxLocals := 6, code := prog_5_method_1_code, exceptionTable := #[], attributes := #[] }
def k9m0 : Method := { name := "<init>", desc := "(Lcom/example/wherewithal/wherewithal/Diagnostic$Severity;Ljava/lang/String;IILjava/lang/String;)V", sig := { parameters := [(.object "com/example/wherewithal/wherewithal/Diagnostic$Severity"), (.object "java/lang/String"), .int, .int, (.object "java/lang/String")], returnType := none }, accessFlags := 2, code := some k9c0 }
def k9c1 : Code := { maxStack := 7, maxLocals := 4, code := prog_5_method_2_code, exceptionTable := #[], attributes := #[] }
def k9m1 : Method := { name := "error", desc := "(Ljava/lang/String;IILjava/lang/String;)Lcom/example/wherewithal/wherewithal/Diagnostic;", sig := { parameters := [(.object "java/lang/String"), .int, .int, (.object "java/lang/String")], returnType := some (.object "com/example/wherewithal/wherewithal/Diagnostic") }, accessFlags := 9, code := some k9c1 }
def k9c2 : Code := { maxStack := 1, maxLocals := 1, code := prog_5_method_10_code, exceptionTable := #[], attributes := #[] }
def k9m2 : Method := { name := "severity", desc := "()Lcom/example/wherewithal/wherewithal/Diagnostic$Severity;", sig := { parameters := [], returnType := some (.object "com/example/wherewithal/wherewithal/Diagnostic$Severity") }, accessFlags := 1, code := some k9c2 }
def k9c3 : Code := { maxStack := 1, maxLocals := 1, code := prog_5_method_11_code, exceptionTable := #[], attributes := #[] }
def k9m3 : Method := { name := "source", desc := "()Ljava/lang/String;", sig := { parameters := [], returnType := some (.object "java/lang/String") }, accessFlags := 1, code := some k9c3 }
def k9c4 : Code := { maxStack := 1, maxLocals := 1, code := prog_5_method_12_code, exceptionTable := #[], attributes := #[] }
def k9m4 : Method := { name := "line", desc := "()I", sig := { parameters := [], returnType := some .int }, accessFlags := 1, code := some k9c4 }
def k9c5 : Code := { maxStack := 1, maxLocals := 1, code := prog_5_method_13_code, exceptionTable := #[], attributes := #[] }
def k9m5 : Method := { name := "column", desc := "()I", sig := { parameters := [], returnType := some .int }, accessFlags := 1, code := some k9c5 }
def k9c6 : Code := { maxStack := 1, maxLocals := 1, code := prog_5_method_14_code, exceptionTable := #[], attributes := #[] }
def k9m6 : Method := { name := "message", desc := "()Ljava/lang/String;", sig := { parameters := [], returnType := some (.object "java/lang/String") }, accessFlags := 1, code := some k9c6 }
/-- com/example/wherewithal/wherewithal/Diagnostic -/
def k9 : Class := { plain "com/example/wherewithal/wherewithal/Diagnostic" (some 0) with
  accessFlags := 33
  interfaces := #[]
  cf := some (fileOf pool9 8 #[.nestMembers #[28]] #[{ accessFlags := 2, nameIndex := 5, descriptorIndex := 34, attributes := #[] }, { accessFlags := 9, nameIndex := 37, descriptorIndex := 38, attributes := #[] }, { accessFlags := 1, nameIndex := 11, descriptorIndex := 160, attributes := #[] }, { accessFlags := 1, nameIndex := 15, descriptorIndex := 99, attributes := #[] }, { accessFlags := 1, nameIndex := 19, descriptorIndex := 73, attributes := #[] }, { accessFlags := 1, nameIndex := 23, descriptorIndex := 73, attributes := #[] }, { accessFlags := 1, nameIndex := 26, descriptorIndex := 99, attributes := #[] }] 33 2 #[] #[{ accessFlags := 18, nameIndex := 11, descriptorIndex := 12, attributes := #[] }, { accessFlags := 18, nameIndex := 15, descriptorIndex := 16, attributes := #[] }, { accessFlags := 18, nameIndex := 19, descriptorIndex := 20, attributes := #[] }, { accessFlags := 18, nameIndex := 23, descriptorIndex := 20, attributes := #[] }, { accessFlags := 18, nameIndex := 26, descriptorIndex := 16, attributes := #[] }])
  fields := #[{ name := "severity", type := (.object "com/example/wherewithal/wherewithal/Diagnostic$Severity"), accessFlags := 18, slot := 0, constantValue := 0 }, { name := "source", type := (.object "java/lang/String"), accessFlags := 18, slot := 1, constantValue := 0 }, { name := "line", type := .int, accessFlags := 18, slot := 2, constantValue := 0 }, { name := "column", type := .int, accessFlags := 18, slot := 3, constantValue := 0 }, { name := "message", type := (.object "java/lang/String"), accessFlags := 18, slot := 4, constantValue := 0 }]
  methods := #[k9m0, k9m1, k9m2, k9m3, k9m4, k9m5, k9m6]
  instanceTypes := #[(.object "com/example/wherewithal/wherewithal/Diagnostic$Severity"), (.object "java/lang/String"), .int, .int, (.object "java/lang/String")]
  staticTypes := #[]
  resolved := Array.replicate 182 none
  statics := none }

def pool10 : Array CpInfo := pool [(2, .class_ 4), (1, u "java/lang/Enum"), (0, u "name"), (0, u "Ljava/lang/String;"), (2, u "ordinal"), (0, u "I"), (1, .class_ 14), (1, u "java/lang/Object"), (4, u "hash"), (86, .class_ 108), (1, u "java/lang/Enum$EnumDesc"), (2, .class_ 112), (0, u "java/lang/constant/Constable"), (0, .class_ 114), (0, u "java/lang/Comparable"), (0, .class_ 116), (0, u "java/io/Serializable")] 87

/-- java/lang/Enum -/
def k10 : Class := { plain "java/lang/Enum" (some 0) with
  accessFlags := 1057
  interfaces := #[5, 3, 2]
  cf := some (fileOf pool10 2 #[.nestMembers #[106]] #[] 1057 12 #[111, 113, 115] #[{ accessFlags := 18, nameIndex := 5, descriptorIndex := 6, attributes := #[] }, { accessFlags := 18, nameIndex := 9, descriptorIndex := 10, attributes := #[] }, { accessFlags := 2, nameIndex := 19, descriptorIndex := 10, attributes := #[] }])
  fields := #[{ name := "name", type := (.object "java/lang/String"), accessFlags := 18, slot := 0, constantValue := 0 }, { name := "ordinal", type := .int, accessFlags := 18, slot := 1, constantValue := 0 }, { name := "hash", type := .int, accessFlags := 2, slot := 2, constantValue := 0 }]
  methods := #[]
  instanceTypes := #[(.object "java/lang/String"), .int, .int]
  staticTypes := #[]
  resolved := Array.replicate 204 none
  statics := none }

def pool11 : Array CpInfo := pool [(1, .class_ 2), (0, u "com/example/wherewithal/wherewithal/Diagnostic$Severity"), (2, u "ERROR"), (0, u "Lcom/example/wherewithal/wherewithal/Diagnostic$Severity;"), (2, u "WARNING"), (2, u "$VALUES"), (0, u "[Lcom/example/wherewithal/wherewithal/Diagnostic$Severity;"), (6, .class_ 22), (1, u "java/lang/Enum"), (8, u "word"), (0, u "Ljava/lang/String;"), (26, .class_ 60), (0, u "com/example/wherewithal/wherewithal/Diagnostic")] 2

/-- com/example/wherewithal/wherewithal/Diagnostic$Severity -/
def k11 : Class := { plain "com/example/wherewithal/wherewithal/Diagnostic$Severity" (some 10) with
  accessFlags := 16433
  interfaces := #[]
  cf := some (fileOf pool11 1 #[.nestHost 59] #[] 16433 20 #[] #[{ accessFlags := 16409, nameIndex := 5, descriptorIndex := 6, attributes := #[] }, { accessFlags := 16409, nameIndex := 9, descriptorIndex := 6, attributes := #[] }, { accessFlags := 18, nameIndex := 31, descriptorIndex := 32, attributes := #[] }, { accessFlags := 4122, nameIndex := 12, descriptorIndex := 13, attributes := #[] }])
  fields := #[{ name := "ERROR", type := (.object "com/example/wherewithal/wherewithal/Diagnostic$Severity"), accessFlags := 16409, slot := 0, constantValue := 0 }, { name := "WARNING", type := (.object "com/example/wherewithal/wherewithal/Diagnostic$Severity"), accessFlags := 16409, slot := 1, constantValue := 0 }, { name := "word", type := (.object "java/lang/String"), accessFlags := 18, slot := 3, constantValue := 0 }, { name := "$VALUES", type := (.array (.object "com/example/wherewithal/wherewithal/Diagnostic$Severity")), accessFlags := 4122, slot := 2, constantValue := 0 }]
  methods := #[]
  instanceTypes := #[(.object "java/lang/String"), .int, .int, (.object "java/lang/String")]
  staticTypes := #[(.object "com/example/wherewithal/wherewithal/Diagnostic$Severity"), (.object "com/example/wherewithal/wherewithal/Diagnostic$Severity"), (.array (.object "com/example/wherewithal/wherewithal/Diagnostic$Severity"))]
  resolved := Array.replicate 63 none
  statics := some 1 }

def pool12 : Array CpInfo := pool [(4, .class_ 6), (1, u "java/lang/Object"), (0, u "<init>"), (0, u "()V"), (5, .class_ 16), (1, u "java/lang/StringLatin1"), (104, u "$assertionsDisabled"), (0, u "Z"), (98, .class_ 223), (1, u "java/lang/StringLatin1$LinesSpliterator"), (166, .class_ 391), (0, u "java/lang/StringLatin1$CharsSpliterator")] 3

def k12m0 : Method := { name := "<init>", desc := "()V", sig := { parameters := [], returnType := none }, accessFlags := 0, code := none }
/-- java/lang/StringLatin1 -/
def k12 : Class := { plain "java/lang/StringLatin1" (some 0) with
  accessFlags := 48
  interfaces := #[]
  cf := some (fileOf pool12 14 #[.nestMembers #[390, 221]] #[{ accessFlags := 0, nameIndex := 7, descriptorIndex := 8, attributes := #[] }] 48 4 #[] #[{ accessFlags := 4120, nameIndex := 121, descriptorIndex := 122, attributes := #[] }])
  fields := #[{ name := "$assertionsDisabled", type := .boolean, accessFlags := 4120, slot := 0, constantValue := 0 }]
  methods := #[k12m0]
  instanceTypes := #[]
  staticTypes := #[.boolean]
  resolved := Array.replicate 395 none
  statics := none }

def pool13 : Array CpInfo := pool [(2, .class_ 4), (1, u "java/lang/Object"), (0, u "<init>"), (0, u "()V"), (17, .class_ 26), (1, u "jdk/internal/util/Preconditions"), (28, .class_ 56), (0, u "jdk/internal/util/Preconditions$4"), (57, .class_ 115), (0, u "jdk/internal/util/Preconditions$1"), (7, u "SIOOBE_FORMATTER"), (0, u "Ljava/util/function/BiFunction;"), (0, .class_ 126), (0, u "jdk/internal/util/Preconditions$2"), (3, u "AIOOBE_FORMATTER"), (0, .class_ 132), (0, u "jdk/internal/util/Preconditions$3"), (3, u "IOOBE_FORMATTER")] 57

def k13m0 : Method := { name := "<init>", desc := "()V", sig := { parameters := [], returnType := none }, accessFlags := 1, code := none }
/-- jdk/internal/util/Preconditions -/
def k13 : Class := { plain "jdk/internal/util/Preconditions" (some 0) with
  accessFlags := 33
  interfaces := #[]
  cf := some (fileOf pool13 24 #[.nestMembers #[55, 131, 125, 114]] #[{ accessFlags := 1, nameIndex := 5, descriptorIndex := 6, attributes := #[] }] 33 2 #[] #[{ accessFlags := 25, nameIndex := 123, descriptorIndex := 124, attributes := #[] }, { accessFlags := 25, nameIndex := 130, descriptorIndex := 124, attributes := #[] }, { accessFlags := 25, nameIndex := 136, descriptorIndex := 124, attributes := #[] }])
  fields := #[{ name := "SIOOBE_FORMATTER", type := (.object "java/util/function/BiFunction"), accessFlags := 25, slot := 0, constantValue := 0 }, { name := "AIOOBE_FORMATTER", type := (.object "java/util/function/BiFunction"), accessFlags := 25, slot := 1, constantValue := 0 }, { name := "IOOBE_FORMATTER", type := (.object "java/util/function/BiFunction"), accessFlags := 25, slot := 2, constantValue := 0 }]
  methods := #[k13m0]
  instanceTypes := #[]
  staticTypes := #[(.object "java/util/function/BiFunction"), (.object "java/util/function/BiFunction"), (.object "java/util/function/BiFunction")]
  resolved := Array.replicate 194 none
  statics := some 2 }

def pool14 : Array CpInfo := pool [(9, u "<init>"), (6, .class_ 18), (1, u "java/lang/Object"), (0, u "()V"), (1, .class_ 23), (1, u "jdk/internal/util/ArraysSupport"), (0, u "LOG2_ARRAY_LONG_INDEX_SCALE"), (0, u "I"), (2, u "U"), (0, u "Ljdk/internal/misc/Unsafe;"), (8, u "BIG_ENDIAN"), (0, u "Z"), (8, u "LOG2_BYTE_BIT_SIZE"), (4, u "LOG2_ARRAY_INT_INDEX_SCALE"), (54, u "JLA"), (0, u "Ljdk/internal/access/JavaLangAccess;"), (11, u "LOG2_ARRAY_BOOLEAN_INDEX_SCALE"), (9, u "LOG2_ARRAY_BYTE_INDEX_SCALE"), (5, u "LOG2_ARRAY_CHAR_INDEX_SCALE"), (5, u "LOG2_ARRAY_SHORT_INDEX_SCALE"), (18, u "LOG2_ARRAY_FLOAT_INDEX_SCALE"), (24, u "LOG2_ARRAY_DOUBLE_INDEX_SCALE"), (89, u "T_BOOLEAN"), (2, u "T_CHAR"), (1, u "T_FLOAT"), (1, u "T_DOUBLE"), (1, u "T_BYTE"), (1, u "T_SHORT"), (1, u "T_INT"), (1, u "T_LONG"), (1, u "SOFT_MAX_ARRAY_LENGTH")] 83

def k14m0 : Method := { name := "<init>", desc := "()V", sig := { parameters := [], returnType := none }, accessFlags := 2, code := none }
/-- jdk/internal/util/ArraysSupport -/
def k14 : Class := { plain "jdk/internal/util/ArraysSupport" (some 0) with
  accessFlags := 33
  interfaces := #[]
  cf := some (fileOf pool14 21 #[] #[{ accessFlags := 2, nameIndex := 9, descriptorIndex := 19, attributes := #[] }] 33 16 #[] #[{ accessFlags := 24, nameIndex := 28, descriptorIndex := 29, attributes := #[] }, { accessFlags := 26, nameIndex := 38, descriptorIndex := 39, attributes := #[] }, { accessFlags := 25, nameIndex := 121, descriptorIndex := 25, attributes := #[] }, { accessFlags := 25, nameIndex := 131, descriptorIndex := 25, attributes := #[] }, { accessFlags := 25, nameIndex := 137, descriptorIndex := 25, attributes := #[] }, { accessFlags := 25, nameIndex := 143, descriptorIndex := 25, attributes := #[] }, { accessFlags := 25, nameIndex := 53, descriptorIndex := 25, attributes := #[] }, { accessFlags := 25, nameIndex := 24, descriptorIndex := 25, attributes := #[] }, { accessFlags := 25, nameIndex := 162, descriptorIndex := 25, attributes := #[] }, { accessFlags := 25, nameIndex := 187, descriptorIndex := 25, attributes := #[] }, { accessFlags := 26, nameIndex := 48, descriptorIndex := 25, attributes := #[] }, { accessFlags := 25, nameIndex := 277, descriptorIndex := 25, attributes := #[] }, { accessFlags := 25, nameIndex := 280, descriptorIndex := 25, attributes := #[] }, { accessFlags := 25, nameIndex := 282, descriptorIndex := 25, attributes := #[] }, { accessFlags := 25, nameIndex := 284, descriptorIndex := 25, attributes := #[] }, { accessFlags := 25, nameIndex := 286, descriptorIndex := 25, attributes := #[] }, { accessFlags := 25, nameIndex := 288, descriptorIndex := 25, attributes := #[] }, { accessFlags := 25, nameIndex := 290, descriptorIndex := 25, attributes := #[] }, { accessFlags := 25, nameIndex := 292, descriptorIndex := 25, attributes := #[] }, { accessFlags := 26, nameIndex := 108, descriptorIndex := 109, attributes := #[] }, { accessFlags := 25, nameIndex := 294, descriptorIndex := 25, attributes := #[] }])
  fields := #[{ name := "U", type := (.object "jdk/internal/misc/Unsafe"), accessFlags := 24, slot := 0, constantValue := 0 }, { name := "BIG_ENDIAN", type := .boolean, accessFlags := 26, slot := 1, constantValue := 0 }, { name := "LOG2_ARRAY_BOOLEAN_INDEX_SCALE", type := .int, accessFlags := 25, slot := 2, constantValue := 0 }, { name := "LOG2_ARRAY_BYTE_INDEX_SCALE", type := .int, accessFlags := 25, slot := 3, constantValue := 0 }, { name := "LOG2_ARRAY_CHAR_INDEX_SCALE", type := .int, accessFlags := 25, slot := 4, constantValue := 0 }, { name := "LOG2_ARRAY_SHORT_INDEX_SCALE", type := .int, accessFlags := 25, slot := 5, constantValue := 0 }, { name := "LOG2_ARRAY_INT_INDEX_SCALE", type := .int, accessFlags := 25, slot := 6, constantValue := 0 }, { name := "LOG2_ARRAY_LONG_INDEX_SCALE", type := .int, accessFlags := 25, slot := 7, constantValue := 0 }, { name := "LOG2_ARRAY_FLOAT_INDEX_SCALE", type := .int, accessFlags := 25, slot := 8, constantValue := 0 }, { name := "LOG2_ARRAY_DOUBLE_INDEX_SCALE", type := .int, accessFlags := 25, slot := 9, constantValue := 0 }, { name := "LOG2_BYTE_BIT_SIZE", type := .int, accessFlags := 26, slot := 10, constantValue := 0 }, { name := "T_BOOLEAN", type := .int, accessFlags := 25, slot := 11, constantValue := 0 }, { name := "T_CHAR", type := .int, accessFlags := 25, slot := 12, constantValue := 0 }, { name := "T_FLOAT", type := .int, accessFlags := 25, slot := 13, constantValue := 0 }, { name := "T_DOUBLE", type := .int, accessFlags := 25, slot := 14, constantValue := 0 }, { name := "T_BYTE", type := .int, accessFlags := 25, slot := 15, constantValue := 0 }, { name := "T_SHORT", type := .int, accessFlags := 25, slot := 16, constantValue := 0 }, { name := "T_INT", type := .int, accessFlags := 25, slot := 17, constantValue := 0 }, { name := "T_LONG", type := .int, accessFlags := 25, slot := 18, constantValue := 0 }, { name := "JLA", type := (.object "jdk/internal/access/JavaLangAccess"), accessFlags := 26, slot := 19, constantValue := 0 }, { name := "SOFT_MAX_ARRAY_LENGTH", type := .int, accessFlags := 25, slot := 20, constantValue := 0 }]
  methods := #[k14m0]
  instanceTypes := #[]
  staticTypes := #[(.object "jdk/internal/misc/Unsafe"), .boolean, .int, .int, .int, .int, .int, .int, .int, .int, .int, .int, .int, .int, .int, .int, .int, .int, .int, (.object "jdk/internal/access/JavaLangAccess"), .int]
  resolved := Array.replicate 378 none
  statics := none }

def pool15 : Array CpInfo := pool [(1, u "java/lang/Cloneable"), (0, .class_ 1), (0, u "java/lang/Object"), (0, .class_ 3)] 3

/-- java/lang/Cloneable -/
def k15 : Class := { plain "java/lang/Cloneable" (some 0) with
  accessFlags := 1537
  interfaces := #[]
  cf := some (fileOf pool15 2 #[] #[] 1537 4 #[] #[])
  fields := #[]
  methods := #[]
  instanceTypes := #[]
  staticTypes := #[]
  resolved := Array.replicate 8 none
  statics := none }

/-- the primitive byte -/
def k16 : Class := { plain "byte" none with kind := .primitive 'B', accessFlags := 0x411 }
/-- [B -/
def k17 : Class := { plain "[B" (some 0) with kind := .array 16 .byte, interfaces := #[15, 2], accessFlags := 1041 }

/-- the primitive char -/
def k18 : Class := { plain "char" none with kind := .primitive 'C', accessFlags := 0x411 }
/-- [C -/
def k19 : Class := { plain "[C" (some 0) with kind := .array 18 .char, interfaces := #[15, 2], accessFlags := 1041 }

/-- the primitive int -/
def k20 : Class := { plain "int" none with kind := .primitive 'I', accessFlags := 0x411 }
/-- [I -/
def k21 : Class := { plain "[I" (some 0) with kind := .array 20 .int, interfaces := #[15, 2], accessFlags := 1041 }

def heap : Heap := #[{ cls := 7, slots := #[.long 0, .int 1, .null, .int 0, .null, .int 0, .int 0], vm := .statics 7 },
  { cls := 11, slots := #[.ref 3, .null, .null], vm := .statics 11 },
  { cls := 13, slots := #[.null, .null, .null], vm := .statics 13 },
  { cls := 11, slots := #[.null, .int 0, .int 0, .null], vm := .none }]
def classes : Array Class := #[k0, k1, k2, k3, k4, k5, k6, k7, k8, k9, k10, k11, k12, k13, k14, k15, k16, k17, k18, k19, k20, k21]
def interned : List (Array UInt16 × Addr) := []
def slotsUsed : Nat := 17
def theMethod : MethodId := ⟨1, 1⟩
def args0 : Array Value := #[.int 5, .int 6, .int 7, .int 8, .int 9]
def aboutOver (below : List Frame) : State where
  vm := { classes := classes, interned := interned.toArray }
  heap := heap
  slotsUsed := slotsUsed
  threads := #[{ frames := .invoking theMethod args0 :: below }]
def below0 : List Frame := [.native { method := ⟨0, 0⟩, args := #[] }]
def about1 : State := aboutOver below0
def p0 : Program := .bare "" "" ""
def e0 : Env := launch0.env 0 0 0
theorem w_frames : about1.frames = Frame.invoking theMethod args0 :: below0 := rfl
set_option maxRecDepth 65536 in
theorem w_args : argsFit about1.vm theMethod args0 = true := by decide +kernel
set_option maxRecDepth 65536 in
theorem w_heap : heapFits about1 = true := by decide +kernel
set_option maxRecDepth 65536 in
theorem w_runnable : about1.curStatus? = some .runnable := by decide +kernel
set_option maxRecDepth 65536 in
theorem w_alone : about1.alone = true := by decide +kernel
set_option maxRecDepth 65536 in
theorem w_named : about1.methodNamed? x = some theMethod := by decide +kernel
set_option maxRecDepth 65536 in
theorem w_hears : about1.hears theMethod below0 = true := by decide +kernel
set_option maxRecDepth 65536 in
theorem w_ripe : about1.ripe theMethod args0 below0 = true := by decide +kernel
theorem w_running : about1.status = .running := rfl
set_option maxRecDepth 65536 in
theorem w_room : about1.hasRoom e0.platform room_1 = true :=
  launch0.hasRoom_least _ room_1 (by decide +kernel) (by decide +kernel) (by decide +kernel) (by decide +kernel) (by decide +kernel) (by decide +kernel)
theorem allAtoms_all (ts : List Jvm.Cond) (a : Array Jvm.Value) (st : Jvm.State) : (allAtoms ts).before a st = ts.all (fun c => c.before a st) := by
  induction ts with
  | nil => rfl
  | cons c t ih =>
    show (Jvm.Cond.and c (allAtoms t)).before a st = _
    rw [Jvm.Cond.before_and, ih, List.all_cons]
def words1 : List Jvm.Cond := Jvm.Cond.code x code maxLocals ret :: tables_1
/-- a 'code' word, met by the world's own term for the bytes: nothing is compared byte by byte -/
theorem code_word {y : MethodName} {bytes : ByteArray} {mx : Nat} {rt : Option FieldType} {a : Array Value} {s : State} {m : MethodId} {meth : Method} {c : Code} (h1 : s.methodNamed? y = some m) (h2 : s.vm.method? m = some meth) (h3 : meth.code = some c) (h4 : c.code = bytes)
    (h5 : (c.maxLocals == mx && c.exceptionTable.isEmpty && decide (c.maxStack ≤ mostOperands) && decide (meth.sig.returnType = rt) && !meth.locks && decide (parseMethodDescriptor y.desc = some meth.sig)) = true) : (Jvm.Cond.code y bytes mx rt).before a s = true := by
  simp only [Bool.and_eq_true, beq_iff_eq, Bool.not_eq_true', decide_eq_true_eq] at h5
  obtain ⟨⟨⟨⟨⟨g1, g2⟩, g3⟩, g4⟩, g5⟩, g6⟩ := h5
  simp [Cond.before, Cond.holds, Cond.value, h1, h2, h3, h4, g1, g2, g3, g4, g5, g6]
def isCode : Jvm.Cond → Bool
  | .code _ _ _ _ => true
  | _ => false
theorem all_split {L : List Jvm.Cond} {P : Jvm.Cond → Bool} (h1 : L.all (fun c => isCode c || P c) = true) (h2 : ∀ c ∈ L.filter isCode, P c = true) : L.all P = true := by
  refine List.all_eq_true.mpr fun c hc => ?_
  have h := List.all_eq_true.mp h1 c hc
  rcases Bool.eq_false_or_eq_true (isCode c) with hi | hi
  · exact h2 c (List.mem_filter.mpr ⟨hc, hi⟩)
  · simpa [hi] using h
set_option maxRecDepth 65536 in
theorem w_c0 : (Jvm.Cond.code x code maxLocals ret).before args0 about1 = true := code_word (m := ⟨1, 1⟩) (meth := k1m1) (c := k1c1) (by decide +kernel) rfl rfl rfl (by decide +kernel)
set_option maxRecDepth 65536 in
theorem w_c1 : (Jvm.Cond.code ({ cls := "java/lang/String", name := "<init>", desc := "([C)V" } : Jvm.MethodName) jdk_42_method_3_code (2 : Nat) (Option.none : Option Jvm.ClassFile.FieldType)).before args0 about1 = true := code_word (m := ⟨7, 1⟩) (meth := k7m1) (c := k7c1) (by decide +kernel) rfl rfl rfl (by decide +kernel)
set_option maxRecDepth 65536 in
theorem w_c2 : (Jvm.Cond.code ({ cls := "java/lang/String", name := "<init>", desc := "([CIILjava/lang/Void;)V" } : Jvm.MethodName) jdk_42_method_149_code (6 : Nat) (Option.none : Option Jvm.ClassFile.FieldType)).before args0 about1 = true := code_word (m := ⟨7, 2⟩) (meth := k7m2) (c := k7c2) (by decide +kernel) rfl rfl rfl (by decide +kernel)
set_option maxRecDepth 65536 in
theorem w_c3 : (Jvm.Cond.code ({ cls := "java/lang/Object", name := "<init>", desc := "()V" } : Jvm.MethodName) object_method_1_code (1 : Nat) (Option.none : Option Jvm.ClassFile.FieldType)).before args0 about1 = true := code_word (m := ⟨0, 0⟩) (meth := k0m0) (c := k0c0) (by decide +kernel) rfl rfl rfl (by decide +kernel)
set_option maxRecDepth 65536 in
theorem w_c4 : (Jvm.Cond.code ({ cls := "java/lang/StringUTF16", name := "compress", desc := "([CII)[B" } : Jvm.MethodName) jdk_52_method_16_code (6 : Nat) (Option.some (Jvm.ClassFile.FieldType.array Jvm.ClassFile.FieldType.byte))).before args0 about1 = true := code_word (m := ⟨8, 2⟩) (meth := k8m2) (c := k8c2) (by decide +kernel) rfl rfl rfl (by decide +kernel)
set_option maxRecDepth 65536 in
theorem w_c5 : (Jvm.Cond.code ({ cls := "java/lang/StringUTF16", name := "compress", desc := "([CI[BII)I" } : Jvm.MethodName) jdk_52_method_21_code (7 : Nat) (Option.some Jvm.ClassFile.FieldType.int)).before args0 about1 = true := code_word (m := ⟨8, 3⟩) (meth := k8m3) (c := k8c3) (by decide +kernel) rfl rfl rfl (by decide +kernel)
set_option maxRecDepth 65536 in
theorem w_c6 : (Jvm.Cond.code ({ cls := "java/lang/StringUTF16", name := "coderFromArrayLen", desc := "([BI)B" } : Jvm.MethodName) jdk_52_method_15_code (2 : Nat) (Option.some Jvm.ClassFile.FieldType.byte)).before args0 about1 = true := code_word (m := ⟨8, 1⟩) (meth := k8m1) (c := k8c1) (by decide +kernel) rfl rfl rfl (by decide +kernel)
set_option maxRecDepth 65536 in
theorem w_c7 : (Jvm.Cond.code ({ cls := "com/example/wherewithal/wherewithal/Diagnostic", name := "error", desc := "(Ljava/lang/String;IILjava/lang/String;)Lcom/example/wherewithal/wherewithal/Diagnostic;" } : Jvm.MethodName) prog_5_method_2_code (4 : Nat) (Option.some (Jvm.ClassFile.FieldType.object "com/example/wherewithal/wherewithal/Diagnostic"))).before args0 about1 = true := code_word (m := ⟨9, 1⟩) (meth := k9m1) (c := k9c1) (by decide +kernel) rfl rfl rfl (by decide +kernel)
set_option maxRecDepth 65536 in
theorem w_c8 : (Jvm.Cond.code ({ cls := "com/example/wherewithal/wherewithal/Diagnostic", name := "<init>", desc := "(Lcom/example/wherewithal/wherewithal/Diagnostic$Severity;Ljava/lang/String;IILjava/lang/String;)V" } : Jvm.MethodName) prog_5_method_1_code (6 : Nat) (Option.none : Option Jvm.ClassFile.FieldType)).before args0 about1 = true := code_word (m := ⟨9, 0⟩) (meth := k9m0) (c := k9c0) (by decide +kernel) rfl rfl rfl (by decide +kernel)
set_option maxRecDepth 65536 in
theorem w_c9 : (Jvm.Cond.code ({ cls := "com/example/wherewithal/wherewithal/Diagnostic", name := "severity", desc := "()Lcom/example/wherewithal/wherewithal/Diagnostic$Severity;" } : Jvm.MethodName) prog_5_method_10_code (1 : Nat) (Option.some (Jvm.ClassFile.FieldType.object "com/example/wherewithal/wherewithal/Diagnostic$Severity"))).before args0 about1 = true := code_word (m := ⟨9, 2⟩) (meth := k9m2) (c := k9c2) (by decide +kernel) rfl rfl rfl (by decide +kernel)
set_option maxRecDepth 65536 in
theorem w_c10 : (Jvm.Cond.code ({ cls := "com/example/wherewithal/wherewithal/Diagnostic", name := "source", desc := "()Ljava/lang/String;" } : Jvm.MethodName) prog_5_method_11_code (1 : Nat) (Option.some (Jvm.ClassFile.FieldType.object "java/lang/String"))).before args0 about1 = true := code_word (m := ⟨9, 3⟩) (meth := k9m3) (c := k9c3) (by decide +kernel) rfl rfl rfl (by decide +kernel)
set_option maxRecDepth 65536 in
theorem w_c11 : (Jvm.Cond.code ({ cls := "com/example/wherewithal/wherewithal/Diagnostic", name := "line", desc := "()I" } : Jvm.MethodName) prog_5_method_12_code (1 : Nat) (Option.some Jvm.ClassFile.FieldType.int)).before args0 about1 = true := code_word (m := ⟨9, 4⟩) (meth := k9m4) (c := k9c4) (by decide +kernel) rfl rfl rfl (by decide +kernel)
set_option maxRecDepth 65536 in
theorem w_c12 : (Jvm.Cond.code ({ cls := "com/example/wherewithal/wherewithal/Diagnostic", name := "column", desc := "()I" } : Jvm.MethodName) prog_5_method_13_code (1 : Nat) (Option.some Jvm.ClassFile.FieldType.int)).before args0 about1 = true := code_word (m := ⟨9, 5⟩) (meth := k9m5) (c := k9c5) (by decide +kernel) rfl rfl rfl (by decide +kernel)
set_option maxRecDepth 65536 in
theorem w_c13 : (Jvm.Cond.code ({ cls := "com/example/wherewithal/wherewithal/Diagnostic", name := "message", desc := "()Ljava/lang/String;" } : Jvm.MethodName) prog_5_method_14_code (1 : Nat) (Option.some (Jvm.ClassFile.FieldType.object "java/lang/String"))).before args0 about1 = true := code_word (m := ⟨9, 6⟩) (meth := k9m6) (c := k9c6) (by decide +kernel) rfl rfl rfl (by decide +kernel)
def codes1 : List Jvm.Cond := [Jvm.Cond.code x code maxLocals ret, Jvm.Cond.code ({ cls := "java/lang/String", name := "<init>", desc := "([C)V" } : Jvm.MethodName) jdk_42_method_3_code (2 : Nat) (Option.none : Option Jvm.ClassFile.FieldType), Jvm.Cond.code ({ cls := "java/lang/String", name := "<init>", desc := "([CIILjava/lang/Void;)V" } : Jvm.MethodName) jdk_42_method_149_code (6 : Nat) (Option.none : Option Jvm.ClassFile.FieldType), Jvm.Cond.code ({ cls := "java/lang/Object", name := "<init>", desc := "()V" } : Jvm.MethodName) object_method_1_code (1 : Nat) (Option.none : Option Jvm.ClassFile.FieldType), Jvm.Cond.code ({ cls := "java/lang/StringUTF16", name := "compress", desc := "([CII)[B" } : Jvm.MethodName) jdk_52_method_16_code (6 : Nat) (Option.some (Jvm.ClassFile.FieldType.array Jvm.ClassFile.FieldType.byte)), Jvm.Cond.code ({ cls := "java/lang/StringUTF16", name := "compress", desc := "([CI[BII)I" } : Jvm.MethodName) jdk_52_method_21_code (7 : Nat) (Option.some Jvm.ClassFile.FieldType.int), Jvm.Cond.code ({ cls := "java/lang/StringUTF16", name := "coderFromArrayLen", desc := "([BI)B" } : Jvm.MethodName) jdk_52_method_15_code (2 : Nat) (Option.some Jvm.ClassFile.FieldType.byte), Jvm.Cond.code ({ cls := "com/example/wherewithal/wherewithal/Diagnostic", name := "error", desc := "(Ljava/lang/String;IILjava/lang/String;)Lcom/example/wherewithal/wherewithal/Diagnostic;" } : Jvm.MethodName) prog_5_method_2_code (4 : Nat) (Option.some (Jvm.ClassFile.FieldType.object "com/example/wherewithal/wherewithal/Diagnostic")), Jvm.Cond.code ({ cls := "com/example/wherewithal/wherewithal/Diagnostic", name := "<init>", desc := "(Lcom/example/wherewithal/wherewithal/Diagnostic$Severity;Ljava/lang/String;IILjava/lang/String;)V" } : Jvm.MethodName) prog_5_method_1_code (6 : Nat) (Option.none : Option Jvm.ClassFile.FieldType), Jvm.Cond.code ({ cls := "com/example/wherewithal/wherewithal/Diagnostic", name := "severity", desc := "()Lcom/example/wherewithal/wherewithal/Diagnostic$Severity;" } : Jvm.MethodName) prog_5_method_10_code (1 : Nat) (Option.some (Jvm.ClassFile.FieldType.object "com/example/wherewithal/wherewithal/Diagnostic$Severity")), Jvm.Cond.code ({ cls := "com/example/wherewithal/wherewithal/Diagnostic", name := "source", desc := "()Ljava/lang/String;" } : Jvm.MethodName) prog_5_method_11_code (1 : Nat) (Option.some (Jvm.ClassFile.FieldType.object "java/lang/String")), Jvm.Cond.code ({ cls := "com/example/wherewithal/wherewithal/Diagnostic", name := "line", desc := "()I" } : Jvm.MethodName) prog_5_method_12_code (1 : Nat) (Option.some Jvm.ClassFile.FieldType.int), Jvm.Cond.code ({ cls := "com/example/wherewithal/wherewithal/Diagnostic", name := "column", desc := "()I" } : Jvm.MethodName) prog_5_method_13_code (1 : Nat) (Option.some Jvm.ClassFile.FieldType.int), Jvm.Cond.code ({ cls := "com/example/wherewithal/wherewithal/Diagnostic", name := "message", desc := "()Ljava/lang/String;" } : Jvm.MethodName) prog_5_method_14_code (1 : Nat) (Option.some (Jvm.ClassFile.FieldType.object "java/lang/String"))]
set_option maxRecDepth 65536 in
theorem codes_eq : words1.filter isCode = codes1 := rfl
theorem w_codes : ∀ c ∈ words1.filter isCode, c.before args0 about1 = true := by
  rw [codes_eq]
  intro c hc
  simp only [codes1, List.mem_cons, List.not_mem_nil, or_false] at hc
  rcases hc with rfl | rfl | rfl | rfl | rfl | rfl | rfl | rfl | rfl | rfl | rfl | rfl | rfl | rfl
  · exact w_c0
  · exact w_c1
  · exact w_c2
  · exact w_c3
  · exact w_c4
  · exact w_c5
  · exact w_c6
  · exact w_c7
  · exact w_c8
  · exact w_c9
  · exact w_c10
  · exact w_c11
  · exact w_c12
  · exact w_c13
set_option maxRecDepth 65536 in
theorem w_t1 : (words1.take 24).all (fun c => isCode c || c.before args0 about1) = true := by decide +kernel
set_option maxRecDepth 65536 in
theorem w_t2 : ((words1.drop 24).take 24).all (fun c => isCode c || c.before args0 about1) = true := by decide +kernel
set_option maxRecDepth 65536 in
theorem w_t3 : (((words1.drop 24).drop 24).take 24).all (fun c => isCode c || c.before args0 about1) = true := by decide +kernel
set_option maxRecDepth 65536 in
theorem w_t4 : (((words1.drop 24).drop 24).drop 24).all (fun c => isCode c || c.before args0 about1) = true := by decide +kernel
theorem w_tables : (allAtoms (Jvm.Cond.code x code maxLocals ret :: tables_1)).before args0 about1 = true := by
  rw [allAtoms_all]
  show words1.all (fun c => c.before args0 about1) = true
  refine all_split ?_ w_codes
  rw [← List.take_append_drop 24 words1, List.all_append, w_t1, ← List.take_append_drop 24 (words1.drop 24), List.all_append, w_t2, ← List.take_append_drop 24 ((words1.drop 24).drop 24), List.all_append, w_t3, w_t4]
  rfl
set_option maxRecDepth 65536 in
theorem w_rest : rest_1_c.before args0 about1 = true := by decide +kernel
set_option maxRecDepth 65536 in
theorem w_case : (Jvm.Cond.and given_1 narrow_1).before args0 about1 = true := by decide +kernel
theorem w_applies : (headSpec (Jvm.Cond.code x code maxLocals ret :: tables_1) room_1).applies x e0.platform about1 = true :=
  (Spec.applies_iff w_frames).mpr ⟨w_running, w_runnable, w_alone, w_named, w_hears, w_ripe, w_room, w_tables⟩
theorem atStart : AtStart classFile x code maxLocals ret World_1 tables_1 room_1 Calls_1 rest_1 Pre_1 launch0 p0 e0 about1 theMethod args0 below0 :=
  ⟨lists_1, trivial, launch0.admits_env _ _ _, launch0.least_env, fairChoices_fair.cas, fairChoices_fair.clock, w_frames, w_args, w_heap, w_applies, trivial, w_rest, w_case⟩
end start1
theorem witness_1 : WitnessClaimed_1 := ⟨start1.p0, start1.e0, start1.about1, start1.theMethod, start1.args0, start1.below0, start1.atStart⟩
end Jvm.Pilot.@@N@@
