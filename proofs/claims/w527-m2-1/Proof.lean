import JvmDerived
import JvmDerived.Pilot.@@N@@Statement
import JvmDerived.Pilot.@@N@@Code
set_option linter.unusedVariables false
set_option linter.unusedSimpArgs false
@@BLOCK:NumsL.lean.txt@@
/- laws to paste: Road.backV (cut by pick.py; bodies as the Statement names them) -/
namespace Jvm.Pilot.@@N@@
namespace StrChars
open Jvm Sem ClassFile Op Lib Jvm.Stand Jvm.Free.XT Jvm.Free.ALB Jvm.Free.JM Jvm.Free
open Jvm.Lib.Cold (StaticIs)
/-- a char array whose places are chars -/
def Ch (a : Addr) (A : Cell) (U : State) : Prop := Arr .char a A U ∧ Typed .char A
theorem Ch.mv {a : Addr} {A : Cell} {U U' : State} (h : Ch a A U) (hal : U.vm.Alike U'.vm) (hh : U'.heap = U.heap) : Ch a A U' := ⟨h.1.mv hal hh, h.2⟩
theorem Ch.keep {a : Addr} {A : Cell} {U U' : State} (h : Ch a A U) (hal : U.vm.Alike U'.vm) (hk : U'.heap[a]? = some A) : Ch a A U' := ⟨h.1.keep hal hk, h.2⟩
/-- what place i of a char[]'s cell holds -/
def cv (A : Cell) (i : Nat) : Int32 := match A.slots[i]? with | some (.int x) => x | _ => 0
theorem Ch.get {a : Addr} {A : Cell} {U : State} (h : Ch a A U) {i : Nat} (hi : i < A.slots.size) : A.slots[i]? = some (.int (cv A i)) := by
  have e := Array.getElem?_eq_getElem hi
  have f := h.2 i _ e
  unfold cv; rw [e]
  generalize A.slots[i] = v at f
  cases v <;> simp [fits] at f ⊢
/-- the byte that i2b leaves of a char -/
def lo8 (x : Int32) : Int32 := x.toInt8.toInt32
theorem fits_lo8 (y : Int32) : fits .byte (.int (lo8 y)) = true := by
  have h1 := y.toInt8.le_toInt
  have h2 := y.toInt8.toInt_lt
  simp only [lo8, fits, Bool.and_eq_true, decide_eq_true_eq, Int32.le_iff_toInt_le, Int8.toInt_toInt32, show (-128 : Int32).toInt = -128 from by decide, show (127 : Int32).toInt = 127 from by decide]
  omega
/-- A' is A but that each place j of lo .. hi - 1 holds f j -/
def Laid (A A' : Cell) (lo hi : Nat) (f : Nat → Value) : Prop := A'.cls = A.cls ∧ A'.vm = A.vm ∧ A'.slots.size = A.slots.size ∧ ∀ i, A'.slots[i]? = if lo ≤ i ∧ i < hi then some (f i) else A.slots[i]?
theorem Laid.zero (A : Cell) (lo : Nat) (f : Nat → Value) : Laid A A lo (lo + 0) f := ⟨rfl, rfl, rfl, fun i => by rw [if_neg (by omega)]⟩
theorem Laid.step {A Ak : Cell} {lo k : Nat} {f : Nat → Value} {v : Value} (h : Laid A Ak lo k f) (hlo : lo ≤ k) (hk : k < Ak.slots.size) (hv : v = f k) : Laid A (Ak.setSlot k v) lo (k + 1) f := by
  refine ⟨h.1, h.2.1, by simpa [Cell.setSlot] using h.2.2.1, fun i => ?_⟩
  by_cases e : k = i
  · subst e; rw [Cell.slots_setSlot_self v hk, if_pos (by omega), hv]
  · rw [Cell.slots_setSlot_ne v e, h.2.2.2 i]
    by_cases q : lo ≤ i ∧ i < k
    · rw [if_pos q, if_pos (by omega)]
    · rw [if_neg q, if_neg (by omega)]
def U16 : String := "java/lang/StringUTF16"
namespace Cmp5
def yN : MethodName := ⟨"java/lang/StringUTF16", "compress", "([CI[BII)I"⟩
abbrev yB : ByteArray := jdk_52_method_21_code
theorem d0 : decode yB 0 = .ok (.iconst 0, 1) := by decide +kernel
theorem d1 : decode yB 1 = .ok (.istore 5, 2) := by decide +kernel
theorem d3 : decode yB 3 = .ok (.iload 5, 2) := by decide +kernel
theorem d5 : decode yB 5 = .ok (.iload 4, 2) := by decide +kernel
theorem d7 : decode yB 7 = .ok (.if_icmp (.ge) 37, 3) := by decide +kernel
theorem d10 : decode yB 10 = .ok (.aload_n 0, 1) := by decide +kernel
theorem d11 : decode yB 11 = .ok (.iload_n 1, 1) := by decide +kernel
theorem d12 : decode yB 12 = .ok (.caload, 1) := by decide +kernel
theorem d13 : decode yB 13 = .ok (.istore 6, 2) := by decide +kernel
theorem d15 : decode yB 15 = .ok (.iload 6, 2) := by decide +kernel
theorem d17 : decode yB 17 = .ok (.sipush 255, 3) := by decide +kernel
theorem d20 : decode yB 20 = .ok (.if_icmp (.le) 6, 3) := by decide +kernel
theorem d26 : decode yB 26 = .ok (.aload_n 2, 1) := by decide +kernel
theorem d27 : decode yB 27 = .ok (.iload_n 3, 1) := by decide +kernel
theorem d28 : decode yB 28 = .ok (.iload 6, 2) := by decide +kernel
theorem d30 : decode yB 30 = .ok (.i2b, 1) := by decide +kernel
theorem d31 : decode yB 31 = .ok (.bastore, 1) := by decide +kernel
theorem d32 : decode yB 32 = .ok (.iinc 1 1, 3) := by decide +kernel
theorem d35 : decode yB 35 = .ok (.iinc 3 1, 3) := by decide +kernel
theorem d38 : decode yB 38 = .ok (.iinc 5 1, 3) := by decide +kernel
theorem d41 : decode yB 41 = .ok (.goto (-38), 3) := by decide +kernel
theorem d44 : decode yB 44 = .ok (.iload 4, 2) := by decide +kernel
theorem d46 : decode yB 46 = .ok (.ireturn, 1) := by decide +kernel
def site : List Cond := []
def tab : Cond := tabOf yN yB 7 (some .int) site
def P (b : Addr) (A : Cell) (d : Addr) (B : Cell) (o q len : Nat) (args : Array Value) (s : State) : Prop := args = #[.ref b, .int (Int32.ofNat o), .ref d, .int (Int32.ofNat q), .int (Int32.ofNat len)] ∧ Ch b A s ∧ Arr .byte d B s ∧ b ≠ d ∧ o + len ≤ A.slots.size ∧ q + len ≤ B.slots.size ∧ ∀ i, i < len → ¬ 255 < cv A (o + i)
def E (b : Addr) (A : Cell) (d : Addr) (B : Cell) (o q len : Nat) (r : Option Value) (s u : State) : Prop := r = some (.int (Int32.ofNat len)) ∧ ∃ B', Put d B' s u ∧ Laid B B' q (q + len) (fun j => Value.int (lo8 (cv A (o + (j - q)))))
/-- no char of the range above 255: len; the places written hold each char's low byte -/
theorem law (l : Launch) (b : Addr) (A : Cell) (d : Addr) (B : Cell) (o q len : Nat) : Law l yN 5 5 0 0 yB 7 (some .int) site (P b A d B o q len) (E b A d B o q len) (copyLocs d q len) 0 0 := by
  refine Law.of_walk (plainFor_of_name (by decide +kernel)) (by decide +kernel) (by decide +kernel) (by decide) (fun _ _ h => by rw [h.1]; rfl) (fun _ U U' hal hh h => ⟨h.1, h.2.1.mv hal hh, h.2.2.1.mv hal hh, h.2.2.2⟩) (fun r U U' V V' h1 hal h2 h => ⟨h.1, h.2.elim fun B' q => ⟨B', q.1.mv h1 h2, q.2⟩⟩) ?_
  intro p e s m args below meth c s₁ X0 hexec hbytes hml hret hlk hnm hown hh0 W hP
  obtain ⟨rfl, hA, hB, hne, l1, l2, hp⟩ := hP
  have c1 : Steps p.tables e below (s₁.setTop (entryFrame m #[.ref b, .int (Int32.ofNat o), .ref d, .int (Int32.ofNat q), .int (Int32.ofNat len)] 7)) (s₁.setTop (mkF m 0 #[.val (.ref b), .val (.int (Int32.ofNat o)), .val (.ref d), .val (.int (Int32.ofNat q)), .val (.int (Int32.ofNat len)), .unset, .unset] [])) := entry rfl
  have hA0 := hA.1.mv X0.warmed.alike hh0
  have hB0 := hB.mv X0.warmed.alike hh0
  have a31 := hA.1.2.2.2
  have c2 : Steps p.tables e below (s₁.setTop (entryFrame m #[.ref b, .int (Int32.ofNat o), .ref d, .int (Int32.ofNat q), .int (Int32.ofNat len)] 7)) (s₁.setTop (mkF m 3 #[.val (.ref b), .val (.int (Int32.ofNat o)), .val (.ref d), .val (.int (Int32.ofNat q)), .val (.int (Int32.ofNat len)), .val (.int 0), .unset] [])) := c1.trans (by
    refine iconstV X0.here hexec rfl 0 (hb hbytes d0) (by decide) ?_
    refine XS.istore X0.here hexec rfl (hb hbytes d1) rfl rfl ?_
    exact Steps.refl _)
  have loop : ∀ (r i : Nat), i + r = len → ∀ (z : Slot), (z = .unset ∨ ∃ w, z = .val w ∧ w.category = 1) → ∀ (Tl : State) (Bk : Cell), Stand p l e { frames := 0, locals := 0, cells := 0, slots := 0 } s m #[.ref b, .int (Int32.ofNat o), .ref d, .int (Int32.ofNat q), .int (Int32.ofNat len)] below meth c Tl ([] ++ copyLocs d q i) 0 0 → Put d Bk s₁ Tl → Laid B Bk q (q + i) (fun j => Value.int (lo8 (cv A (o + (j - q))))) →
      Steps p.tables e below (s₁.setTop (entryFrame m #[.ref b, .int (Int32.ofNat o), .ref d, .int (Int32.ofNat q), .int (Int32.ofNat len)] 7)) (Tl.setTop (mkF m 3 #[.val (.ref b), .val (.int (Int32.ofNat (o + i))), .val (.ref d), .val (.int (Int32.ofNat (q + i))), .val (.int (Int32.ofNat len)), .val (.int (Int32.ofNat i)), z] [])) → ∃ (T' : State) (B' : Cell) (z' : Slot), Stand p l e { frames := 0, locals := 0, cells := 0, slots := 0 } s m #[.ref b, .int (Int32.ofNat o), .ref d, .int (Int32.ofNat q), .int (Int32.ofNat len)] below meth c T' ([] ++ copyLocs d q len) 0 0 ∧ Put d B' s₁ T' ∧ Laid B B' q (q + len) (fun j => Value.int (lo8 (cv A (o + (j - q))))) ∧
      Steps p.tables e below (s₁.setTop (entryFrame m #[.ref b, .int (Int32.ofNat o), .ref d, .int (Int32.ofNat q), .int (Int32.ofNat len)] 7)) (T'.setTop (mkF m 3 #[.val (.ref b), .val (.int (Int32.ofNat (o + len))), .val (.ref d), .val (.int (Int32.ofNat (q + len))), .val (.int (Int32.ofNat len)), .val (.int (Int32.ofNat len)), z'] [])) := by
    intro r
    induction r with
    | zero =>
      intro i hi z hz Tl Bk Xl pl fl cl
      have hil : i = len := by omega
      rw [hil] at Xl fl cl
      exact ⟨Tl, Bk, z, Xl, pl, fl, cl⟩
    | succ r ih =>
      intro i hi z hz Tl Bk Xl pl fl cl
      have all := X0.warmed.alike.symm.trans Xl.warmed.alike
      have hAl := hA0.keep all (pl.other hne hA0.1)
      have hBk := hB0.like all pl.1 fl.1 fl.2.1 fl.2.2.1
      have hlt : q + i < Bk.slots.size := by rw [fl.2.2.1]; omega
      have c3 : Steps p.tables e below (s₁.setTop (entryFrame m #[.ref b, .int (Int32.ofNat o), .ref d, .int (Int32.ofNat q), .int (Int32.ofNat len)] 7)) (Tl.setTop (mkF m 12 #[.val (.ref b), .val (.int (Int32.ofNat (o + i))), .val (.ref d), .val (.int (Int32.ofNat (q + i))), .val (.int (Int32.ofNat len)), .val (.int (Int32.ofNat i)), z] [.int (Int32.ofNat (o + i)), .ref b])) := cl.trans (by
        refine XS.iload Xl.here hexec rfl (hb hbytes d3) rfl ?_
        refine XS.iload Xl.here hexec rfl (hb hbytes d5) rfl ?_
        refine XS.icmpNo Xl.here hexec rfl (hb hbytes d7) rfl (ii_ge_f (lt32 (by omega) (by omega))) ?_
        refine XS.aloadN Xl.here hexec rfl (hb hbytes d10) rfl rfl ?_
        refine XS.iloadN Xl.here hexec rfl (hb hbytes d11) rfl ?_
        exact Steps.refl _)
      have c4 : Steps p.tables e below (s₁.setTop (entryFrame m #[.ref b, .int (Int32.ofNat o), .ref d, .int (Int32.ofNat q), .int (Int32.ofNat len)] 7)) (Tl.setTop (mkF m 13 #[.val (.ref b), .val (.int (Int32.ofNat (o + i))), .val (.ref d), .val (.int (Int32.ofNat (q + i))), .val (.int (Int32.ofNat len)), .val (.int (Int32.ofNat i)), z] [.int (cv A (o + i))])) := c3.trans (by
        refine Xl.aget hexec hAl rfl (hA.get (i := o + i) (by omega)) rfl rfl (hb hbytes d12) ?_
        exact Steps.refl _)
      have c5 : Steps p.tables e below (s₁.setTop (entryFrame m #[.ref b, .int (Int32.ofNat o), .ref d, .int (Int32.ofNat q), .int (Int32.ofNat len)] 7)) (Tl.setTop (mkF m 15 #[.val (.ref b), .val (.int (Int32.ofNat (o + i))), .val (.ref d), .val (.int (Int32.ofNat (q + i))), .val (.int (Int32.ofNat len)), .val (.int (Int32.ofNat i)), .val (.int (cv A (o + i)))] [])) := c4.trans (by
        refine XS.istoreS Xl.here hexec rfl (hb hbytes d13) rfl rfl hz ?_
        exact Steps.refl _)
      have c6 : Steps p.tables e below (s₁.setTop (entryFrame m #[.ref b, .int (Int32.ofNat o), .ref d, .int (Int32.ofNat q), .int (Int32.ofNat len)] 7)) (Tl.setTop (mkF m 31 #[.val (.ref b), .val (.int (Int32.ofNat (o + i))), .val (.ref d), .val (.int (Int32.ofNat (q + i))), .val (.int (Int32.ofNat len)), .val (.int (Int32.ofNat i)), .val (.int (cv A (o + i)))] [.int (lo8 (cv A (o + i))), .int (Int32.ofNat (q + i)), .ref d])) := c5.trans (by
        refine XS.iload Xl.here hexec rfl (hb hbytes d15) rfl ?_
        refine sipushV Xl.here hexec rfl 255 (hb hbytes d17) (by decide) ?_
        refine XS.icmpYes Xl.here hexec rfl (pc0 := 20) rfl (hb hbytes d20) rfl (ii_le_t (hp i (by omega))) (by decide) rfl ?_
        refine XS.aloadN Xl.here hexec rfl (hb hbytes d26) rfl rfl ?_
        refine XS.iloadN Xl.here hexec rfl (hb hbytes d27) rfl ?_
        refine XS.iload Xl.here hexec rfl (hb hbytes d28) rfl ?_
        refine i2b Xl.here hexec rfl (hb hbytes d30) rfl ?_
        exact Steps.refl _)
      obtain ⟨T7, X7, p7, st7⟩ := Xl.aput hexec hBk rfl hlt rfl (fits_lo8 (cv A (o + i))) (g := (mkF m 31 #[.val (.ref b), .val (.int (Int32.ofNat (o + i))), .val (.ref d), .val (.int (Int32.ofNat (q + i))), .val (.int (Int32.ofNat len)), .val (.int (Int32.ofNat i)), .val (.int (cv A (o + i)))] [.int (lo8 (cv A (o + i))), .int (Int32.ofNat (q + i)), .ref d])) rfl (rest := []) rfl (hb hbytes d31)
      have c8 : Steps p.tables e below (s₁.setTop (entryFrame m #[.ref b, .int (Int32.ofNat o), .ref d, .int (Int32.ofNat q), .int (Int32.ofNat len)] 7)) (T7.setTop (mkF m 32 #[.val (.ref b), .val (.int (Int32.ofNat (o + i))), .val (.ref d), .val (.int (Int32.ofNat (q + i))), .val (.int (Int32.ofNat len)), .val (.int (Int32.ofNat i)), .val (.int (cv A (o + i)))] [])) := c6.trans (st7 _ (Steps.refl _))
      have c9 : Steps p.tables e below (s₁.setTop (entryFrame m #[.ref b, .int (Int32.ofNat o), .ref d, .int (Int32.ofNat q), .int (Int32.ofNat len)] 7)) (T7.setTop (mkF m 3 #[.val (.ref b), .val (.int (Int32.ofNat (o + i) + 1)), .val (.ref d), .val (.int (Int32.ofNat (q + i) + 1)), .val (.int (Int32.ofNat len)), .val (.int (Int32.ofNat i + 1)), .val (.int (cv A (o + i)))] [])) := c8.trans (by
        refine iincV X7.here hexec rfl 1 (hb hbytes d32) (by decide) rfl rfl ?_
        refine iincV X7.here hexec rfl 1 (hb hbytes d35) (by decide) rfl rfl ?_
        refine iincV X7.here hexec rfl 1 (hb hbytes d38) (by decide) rfl rfl ?_
        refine XS.goto X7.here hexec rfl (pc0 := 41) rfl (hb hbytes d41) (by decide) rfl ?_
        exact Steps.refl _)
      have c10 : Steps p.tables e below (s₁.setTop (entryFrame m #[.ref b, .int (Int32.ofNat o), .ref d, .int (Int32.ofNat q), .int (Int32.ofNat len)] 7)) (T7.setTop (mkF m 3 #[.val (.ref b), .val (.int (Int32.ofNat (o + (i + 1)))), .val (.ref d), .val (.int (Int32.ofNat (q + (i + 1)))), .val (.int (Int32.ofNat len)), .val (.int (Int32.ofNat (i + 1))), .val (.int (cv A (o + i)))] [])) := by
        have := c9
        rw [succ32, succ32, succ32] at this
        exact this
      exact ih (i + 1) (by omega) _ (Or.inr ⟨_, rfl, rfl⟩) T7 _ (by rw [copyLocs_step, ← List.append_assoc]; exact X7) (pl.trans p7) (fl.step (by omega) hlt (by simp)) c10
  obtain ⟨T9, B9, z9, X9, p9, f9, g9⟩ := loop len 0 (by omega) .unset (Or.inl rfl) s₁ B (by simpa [copyLocs] using X0) ⟨hB0.1, fun _ _ => rfl, rfl⟩ (Laid.zero _ _ _) c2
  have c11 : Steps p.tables e below (s₁.setTop (entryFrame m #[.ref b, .int (Int32.ofNat o), .ref d, .int (Int32.ofNat q), .int (Int32.ofNat len)] 7)) (T9.setTop (mkF m 46 #[.val (.ref b), .val (.int (Int32.ofNat (o + len))), .val (.ref d), .val (.int (Int32.ofNat (q + len))), .val (.int (Int32.ofNat len)), .val (.int (Int32.ofNat len)), z9] [.int (Int32.ofNat len)])) := g9.trans (by
    refine XS.iload X9.here hexec rfl (hb hbytes d3) rfl ?_
    refine XS.iload X9.here hexec rfl (hb hbytes d5) rfl ?_
    refine XS.icmpYes X9.here hexec rfl (pc0 := 7) rfl (hb hbytes d7) rfl (ii_ge_t (nlt32 (by omega) (Nat.le_refl _))) (by decide) rfl ?_
    refine XS.iload X9.here hexec rfl (hb hbytes d44) rfl ?_
    exact Steps.refl _)
  exact ⟨T9, some (.int (Int32.ofNat len)), _, _, _, X9, by simp, rfl, rfl, (fun h => by cases h), ⟨rfl, B9, p9.from hh0, f9⟩, fun fs hl => c11.trans (X9.ireturnOut hexec hret rfl (Or.inl rfl) (hb hbytes d46) hl)⟩
end Cmp5
namespace Cmp3
def yN : MethodName := ⟨"java/lang/StringUTF16", "compress", "([CII)[B"⟩
abbrev yB : ByteArray := jdk_52_method_16_code
theorem d0 : decode yB 0 = .ok (.iload_n 2, 1) := by decide +kernel
theorem d1 : decode yB 1 = .ok (.newarray .byte, 2) := by decide +kernel
theorem d3 : decode yB 3 = .ok (.astore_n 3, 1) := by decide +kernel
theorem d4 : decode yB 4 = .ok (.aload_n 0, 1) := by decide +kernel
theorem d5 : decode yB 5 = .ok (.iload_n 1, 1) := by decide +kernel
theorem d6 : decode yB 6 = .ok (.aload_n 3, 1) := by decide +kernel
theorem d7 : decode yB 7 = .ok (.iconst 0, 1) := by decide +kernel
theorem d8 : decode yB 8 = .ok (.iload_n 2, 1) := by decide +kernel
theorem d9 : decode yB 9 = .ok (.invokestatic 115, 3) := by decide +kernel
theorem d12 : decode yB 12 = .ok (.istore 4, 2) := by decide +kernel
theorem d14 : decode yB 14 = .ok (.iload 4, 2) := by decide +kernel
theorem d16 : decode yB 16 = .ok (.iload_n 2, 1) := by decide +kernel
theorem d17 : decode yB 17 = .ok (.if_icmp (.eq) 40, 3) := by decide +kernel
theorem d57 : decode yB 57 = .ok (.aload_n 3, 1) := by decide +kernel
theorem d58 : decode yB 58 = .ok (.areturn, 1) := by decide +kernel
def site : List Cond := [.arrayClass .byte, Cmp5.tab] ++ staticW U16 115 Cmp5.yN
def tab : Cond := tabOf yN yB 6 (some (.array .byte)) site
def P (b : Addr) (A : Cell) (o len : Nat) (args : Array Value) (s : State) : Prop := args = #[.ref b, .int (Int32.ofNat o), .int (Int32.ofNat len)] ∧ Ch b A s ∧ o + len ≤ A.slots.size ∧ len ≤ 536870912 ∧ ∀ i, i < len → ¬ 255 < cv A (o + i)
def E (b : Addr) (A : Cell) (o len : Nat) (r : Option Value) (s u : State) : Prop := NewArr .byte "[B" len (fun j => .int (lo8 (cv A (o + j)))) r s u ∧ u.heap.size = s.heap.size + 1
/-- no char of the range above 255: a new byte[] of their low bytes -/
theorem law (l : Launch) (b : Addr) (A : Cell) (o len : Nat) : Law l yN 3 3 1 18 yB 6 (some (.array .byte)) site (P b A o len) (E b A o len) [] 1 len := by
  refine Law.of_walk (plainFor_of_name (by decide +kernel)) (by decide +kernel) (by decide +kernel) (by decide) (fun _ _ h => by rw [h.1]; rfl) (fun _ U U' hal hh h => ⟨h.1, h.2.1.mv hal hh, h.2.2⟩) (fun r U U' V V' h1 hal h2 h => ⟨NewArr.mv r U U' V V' h1 hal h2 h.1, by rw [h1, h2]; exact h.2⟩) ?_
  intro p e s m args below meth c s₁ X0 hexec hbytes hml hret hlk hnm hown hh0 W hP
  obtain ⟨rfl, hA, l1, l2, hp⟩ := hP
  have a31 := hA.1.2.2.2
  have c1 : Steps p.tables e below (s₁.setTop (entryFrame m #[.ref b, .int (Int32.ofNat o), .int (Int32.ofNat len)] 6)) (s₁.setTop (mkF m 0 #[.val (.ref b), .val (.int (Int32.ofNat o)), .val (.int (Int32.ofNat len)), .unset, .unset, .unset] [])) := entry rfl
  have c2 : Steps p.tables e below (s₁.setTop (entryFrame m #[.ref b, .int (Int32.ofNat o), .int (Int32.ofNat len)] 6)) (s₁.setTop (mkF m 1 #[.val (.ref b), .val (.int (Int32.ofNat o)), .val (.int (Int32.ofNat len)), .unset, .unset, .unset] [.int (Int32.ofNat len)])) := c1.trans (by
    refine XS.iloadN X0.here hexec rfl (hb hbytes d0) rfl ?_
    exact Steps.refl _)
  obtain ⟨T3, B3, X3, ba3, bs3, bv3, bh3, bf3, st3⟩ := X0.anew hexec (atype := .byte) (wk W (.arrayClass .byte)) rfl (by show len * 1 ≤ _; omega) (by omega) (g := (mkF m 1 #[.val (.ref b), .val (.int (Int32.ofNat o)), .val (.int (Int32.ofNat len)), .unset, .unset, .unset] [.int (Int32.ofNat len)])) rfl (hb hbytes d1) (rest := []) rfl (Nat.le_refl _) (by show 0 + len ≤ len; omega)
  rw [hh0] at ba3 st3
  have kp3 : XT.Kept s T3 := (XT.Kept.of_eq hh0).push bh3
  have hA3 := hA.keep X3.warmed.alike (kp3 _ _ hA.1.1)
  have hne : b ≠ s.heap.size := hA.1.ne
  have c4 : Steps p.tables e below (s₁.setTop (entryFrame m #[.ref b, .int (Int32.ofNat o), .int (Int32.ofNat len)] 6)) (T3.setTop (mkF m 3 #[.val (.ref b), .val (.int (Int32.ofNat o)), .val (.int (Int32.ofNat len)), .unset, .unset, .unset] [.ref s.heap.size])) := c2.trans (st3 _ (Steps.refl _))
  have c5 : Steps p.tables e below (s₁.setTop (entryFrame m #[.ref b, .int (Int32.ofNat o), .int (Int32.ofNat len)] 6)) (T3.setTop (mkF m 9 #[.val (.ref b), .val (.int (Int32.ofNat o)), .val (.int (Int32.ofNat len)), .val (.ref s.heap.size), .unset, .unset] [.int (Int32.ofNat len), .int 0, .ref s.heap.size, .int (Int32.ofNat o), .ref b])) := c4.trans (by
    refine XS.astoreN X3.here hexec rfl (hb hbytes d3) rfl rfl rfl ?_
    refine XS.aloadN X3.here hexec rfl (hb hbytes d4) rfl rfl ?_
    refine XS.iloadN X3.here hexec rfl (hb hbytes d5) rfl ?_
    refine XS.aloadN X3.here hexec rfl (hb hbytes d6) rfl rfl ?_
    refine iconstV X3.here hexec rfl 0 (hb hbytes d7) (by decide) ?_
    refine XS.iloadN X3.here hexec rfl (hb hbytes d8) rfl ?_
    exact Steps.refl _)
  obtain ⟨v6, T6, X6, E6, g6⟩ := X3.callS hexec (Cmp5.law l b A s.heap.size B3 o 0 len) hown (wks W (staticW U16 115 Cmp5.yN)) (wk W Cmp5.tab) (W := 0) (Nat.le_of_ble_eq_true rfl) (Nat.le_of_ble_eq_true rfl) (Nat.le_refl _) (by show 0 + len + 0 ≤ len; omega) (g := (mkF m 9 #[.val (.ref b), .val (.int (Int32.ofNat o)), .val (.int (Int32.ofNat len)), .val (.ref s.heap.size), .unset, .unset] [.int (Int32.ofNat len), .int (Int32.ofNat 0), .ref s.heap.size, .int (Int32.ofNat o), .ref b])) rfl (by rw [hml]; rfl) c5 (argsL := [.ref b, .int (Int32.ofNat o), .ref s.heap.size, .int (Int32.ofNat 0), .int (Int32.ofNat len)]) (rest := []) rfl rfl (by show 2 * 0 + 0 ≤ _; decide) (hb hbytes d9) (⟨rfl, hA3, ba3, hne, l1, by rw [bs3]; simp, hp⟩)
  obtain ⟨rfl, B6, p6, f6⟩ := E6
  have c7 : Steps p.tables e below (s₁.setTop (entryFrame m #[.ref b, .int (Int32.ofNat o), .int (Int32.ofNat len)] 6)) (T6.setTop (mkF m 12 #[.val (.ref b), .val (.int (Int32.ofNat o)), .val (.int (Int32.ofNat len)), .val (.ref s.heap.size), .unset, .unset] [.int (Int32.ofNat len)])) := g6
  have c8 : Steps p.tables e below (s₁.setTop (entryFrame m #[.ref b, .int (Int32.ofNat o), .int (Int32.ofNat len)] 6)) (T6.setTop (mkF m 58 #[.val (.ref b), .val (.int (Int32.ofNat o)), .val (.int (Int32.ofNat len)), .val (.ref s.heap.size), .val (.int (Int32.ofNat len)), .unset] [.ref s.heap.size])) := c7.trans (by
    refine XS.istore X6.here hexec rfl (hb hbytes d12) rfl rfl ?_
    refine XS.iload X6.here hexec rfl (hb hbytes d14) rfl ?_
    refine XS.iloadN X6.here hexec rfl (hb hbytes d16) rfl ?_
    refine XS.icmpYes X6.here hexec rfl (pc0 := 17) rfl (hb hbytes d17) rfl (ii_eq_t rfl) (by decide) rfl ?_
    refine XS.aloadN X6.here hexec rfl (hb hbytes d57) rfl rfl ?_
    exact Steps.refl _)
  have X8 := X6.wide (L' := []) (cells' := 1) (slots' := len) (fun x hx hlt => by
    simp only [List.nil_append, copyLocs, List.mem_map, List.mem_range] at hx
    obtain ⟨i, -, rfl⟩ := hx
    exact absurd hlt (Nat.lt_irrefl _)) (Nat.le_refl _) (by omega)
  exact ⟨T6, some (.ref s.heap.size), _, _, _, X8, rfl, rfl, rfl, (fun h => by cases h), ⟨⟨rfl, B6, ba3.like (X3.warmed.alike.symm.trans X6.warmed.alike) p6.1 f6.1 f6.2.1 f6.2.2.1, f6.2.1.trans bv3, by rw [X6.warmed.alike.findClass, f6.1]; exact bf3, by rw [f6.2.2.1, bs3]; simp, fun j hj => by rw [f6.2.2.2 j, if_pos (by omega)]; rfl, kp3.put p6 (Nat.le_refl _)⟩, by rw [p6.2.2, bh3, hh0]; simp⟩, fun fs hl => c8.trans (X8.areturnOut hexec rfl hret rfl (hb hbytes d58) hl)⟩
end Cmp3
namespace CodL
def yN : MethodName := ⟨"java/lang/StringUTF16", "coderFromArrayLen", "([BI)B"⟩
abbrev yB : ByteArray := jdk_52_method_15_code
theorem d0 : decode yB 0 = .ok (.iload_n 1, 1) := by decide +kernel
theorem d1 : decode yB 1 = .ok (.aload_n 0, 1) := by decide +kernel
theorem d2 : decode yB 2 = .ok (.arraylength, 1) := by decide +kernel
theorem d3 : decode yB 3 = .ok (.isub, 1) := by decide +kernel
theorem d4 : decode yB 4 = .ok (.bipush 31, 2) := by decide +kernel
theorem d6 : decode yB 6 = .ok (.iushr, 1) := by decide +kernel
theorem d7 : decode yB 7 = .ok (.i2b, 1) := by decide +kernel
theorem d8 : decode yB 8 = .ok (.ireturn, 1) := by decide +kernel
def site : List Cond := []
def tab : Cond := tabOf yN yB 2 (some .byte) site
def P (d : Addr) (B : Cell) (args : Array Value) (s : State) : Prop := args = #[.ref d, .int (Int32.ofNat B.slots.size)] ∧ Arr .byte d B s
def E (r : Option Value) (s u : State) : Prop := XT.PureE (some (.int 0)) r s u
/-- an array as long as the number of chars: LATIN1 -/
theorem law (l : Launch) (d : Addr) (B : Cell) : Law l yN 2 2 0 0 yB 2 (some .byte) site (P d B) E [] 0 0 := by
  refine Law.of_walk (plainFor_of_name (by decide +kernel)) (by decide +kernel) (by decide +kernel) (by decide) (fun _ _ h => by rw [h.1]; rfl) (fun _ U U' hal hh h => ⟨h.1, h.2.mv hal hh⟩) (fun r U U' V V' h1 hal h2 h => XT.PureE.mv r U U' V V' h1 hal h2 h) ?_
  intro p e s m args below meth c s₁ X0 hexec hbytes hml hret hlk hnm hown hh0 W hP
  obtain ⟨rfl, hB⟩ := hP
  have hB0 := hB.mv X0.warmed.alike hh0
  have c1 : Steps p.tables e below (s₁.setTop (entryFrame m #[.ref d, .int (Int32.ofNat B.slots.size)] 2)) (s₁.setTop (mkF m 0 #[.val (.ref d), .val (.int (Int32.ofNat B.slots.size))] [])) := entry rfl
  have c2 : Steps p.tables e below (s₁.setTop (entryFrame m #[.ref d, .int (Int32.ofNat B.slots.size)] 2)) (s₁.setTop (mkF m 2 #[.val (.ref d), .val (.int (Int32.ofNat B.slots.size))] [.ref d, .int (Int32.ofNat B.slots.size)])) := c1.trans (by
    refine XS.iloadN X0.here hexec rfl (hb hbytes d0) rfl ?_
    refine XS.aloadN X0.here hexec rfl (hb hbytes d1) rfl rfl ?_
    exact Steps.refl _)
  have c3 : Steps p.tables e below (s₁.setTop (entryFrame m #[.ref d, .int (Int32.ofNat B.slots.size)] 2)) (s₁.setTop (mkF m 8 #[.val (.ref d), .val (.int (Int32.ofNat B.slots.size))] [.int (lo8 (ushr (Int32.ofNat B.slots.size - Int32.ofNat B.slots.size) 31))])) := c2.trans (by
    refine X0.alen hexec hB0 rfl rfl (hb hbytes d2) ?_
    refine XS.isub X0.here hexec rfl (hb hbytes d3) rfl ?_
    refine bipushV X0.here hexec rfl 31 (hb hbytes d4) (by decide) ?_
    refine iushr X0.here hexec rfl (hb hbytes d6) rfl ?_
    refine i2b X0.here hexec rfl (hb hbytes d7) rfl ?_
    exact Steps.refl _)
  have e0 : lo8 (ushr (Int32.ofNat B.slots.size - Int32.ofNat B.slots.size) 31) = 0 := by rw [Int32.sub_self]; decide
  rw [e0] at c3
  exact ⟨s₁, some (.int 0), _, _, _, X0, rfl, rfl, rfl, (fun h => by cases h), ⟨rfl, hh0⟩, fun fs hl => c3.trans (X0.ireturnOut hexec hret rfl (Or.inr (Or.inr (Or.inl rfl))) (hb hbytes d8) hl)⟩
end CodL
/-- the String at a is Latin-1 over a new byte[] (the heap's one new cell): the low bytes of the len chars of A from o on; every cell but a is kept -/
def Got (a : Addr) (D : Cell) (fV fC : Field) (A : Cell) (o len : Nat) (r : Option Value) (s u : State) : Prop := r = none ∧ ∃ D' V : Cell, Blank "java/lang/String" a D' u ∧ Same D D' [fV.slot, fC.slot] ∧ D'.slots[fV.slot]? = some (.ref s.heap.size) ∧ D'.slots[fC.slot]? = some (.int 0) ∧ Arr .byte s.heap.size V u ∧ V.vm = .none ∧ u.vm.findClass "[B" = some V.cls ∧ V.slots.size = len ∧ (∀ j, j < len → V.slots[j]? = some (.int (lo8 (cv A (o + j))))) ∧ (∀ (y : Addr) (c : Cell), y ≠ a → s.heap[y]? = some c → u.heap[y]? = some c) ∧ u.heap.size = s.heap.size + 1
theorem Got.mv {a : Addr} {D A : Cell} {fV fC : Field} {o len : Nat} : ∀ r (U U' V V' : State), U'.heap = U.heap → V.vm.Alike V'.vm → V'.heap = V.heap → Got a D fV fC A o len r U V → Got a D fV fC A o len r U' V' :=
  fun r U U' V V' h1 hal h2 ⟨e0, D', X, a1, a2, a3, a4, a5, a6, a7, a8, a9, a10, a11⟩ => ⟨e0, D', X, a1.mv hal h2, a2, by rw [h1]; exact a3, a4, by rw [h1]; exact a5.mv hal h2, a6, by rw [hal.findClass]; exact a7, a8, a9, by rw [h1, h2]; exact a10, by rw [h1, h2]; exact a11⟩
namespace New4
def yN : MethodName := ⟨"java/lang/String", "<init>", "([CIILjava/lang/Void;)V"⟩
abbrev yB : ByteArray := jdk_42_method_149_code
theorem d0 : decode yB 0 = .ok (.aload_n 0, 1) := by decide +kernel
theorem d1 : decode yB 1 = .ok (.invokespecial 1, 3) := by decide +kernel
theorem d4 : decode yB 4 = .ok (.iload_n 3, 1) := by decide +kernel
theorem d5 : decode yB 5 = .ok (.ifCond (.ne) 22, 3) := by decide +kernel
theorem d27 : decode yB 27 = .ok (.getstatic 38, 3) := by decide +kernel
theorem d30 : decode yB 30 = .ok (.ifCond (.eq) 28, 3) := by decide +kernel
theorem d33 : decode yB 33 = .ok (.aload_n 1, 1) := by decide +kernel
theorem d34 : decode yB 34 = .ok (.iload_n 2, 1) := by decide +kernel
theorem d35 : decode yB 35 = .ok (.iload_n 3, 1) := by decide +kernel
theorem d36 : decode yB 36 = .ok (.invokestatic 177, 3) := by decide +kernel
theorem d39 : decode yB 39 = .ok (.astore 5, 2) := by decide +kernel
theorem d41 : decode yB 41 = .ok (.aload_n 0, 1) := by decide +kernel
theorem d42 : decode yB 42 = .ok (.aload 5, 2) := by decide +kernel
theorem d44 : decode yB 44 = .ok (.iload_n 3, 1) := by decide +kernel
theorem d45 : decode yB 45 = .ok (.invokestatic 47, 3) := by decide +kernel
theorem d48 : decode yB 48 = .ok (.putfield 15, 3) := by decide +kernel
theorem d51 : decode yB 51 = .ok (.aload_n 0, 1) := by decide +kernel
theorem d52 : decode yB 52 = .ok (.aload 5, 2) := by decide +kernel
theorem d54 : decode yB 54 = .ok (.putfield 9, 3) := by decide +kernel
theorem d57 : decode yB 57 = .ok (.return_, 1) := by decide +kernel
def site : List Cond := [.fieldLink "java/lang/String" 38 "java/lang/String" "COMPACT_STRINGS" "Z", Cmp3.tab, CodL.tab, .laysFinal "java/lang/String" "java/lang/String" "value" "[B", .fieldLink "java/lang/String" 9 "java/lang/String" "value" "[B", .laysFinal "java/lang/String" "java/lang/String" "coder" "B", .fieldLink "java/lang/String" 15 "java/lang/String" "coder" "B"] ++ objW "java/lang/String" 1 ++ staticW "java/lang/String" 177 Cmp3.yN ++ staticW "java/lang/String" 47 CodL.yN
def tab : Cond := tabOf yN yB 6 none site
def P (a : Addr) (D : Cell) (fV fC : Field) (b : Addr) (A : Cell) (z : Int32) (o len : Nat) (args : Array Value) (s : State) : Prop := args = #[.ref a, .ref b, .int (Int32.ofNat o), .int (Int32.ofNat len), .null] ∧ Blank "java/lang/String" a D s ∧ Found "java/lang/String" "value" "[B" fV s ∧ Found "java/lang/String" "coder" "B" fC s ∧ Ch b A s ∧ StaticIs s "java/lang/String" "COMPACT_STRINGS" "Z" (.int z) ∧ ¬ z = 0 ∧ 0 < len ∧ o + len ≤ A.slots.size ∧ len ≤ 536870912 ∧ ∀ i, i < len → ¬ 255 < cv A (o + i)
def E (a : Addr) (D : Cell) (fV fC : Field) (A : Cell) (o len : Nat) (r : Option Value) (s u : State) : Prop := Got a D fV fC A o len r s u
/-- len > 0, no char of the range above 255: a Latin-1 String of their low bytes -/
theorem law (l : Launch) (a : Addr) (D : Cell) (fV fC : Field) (b : Addr) (A : Cell) (z : Int32) (o len : Nat) : Law l yN 5 4 2 35 yB 6 none site (P a D fV fC b A z o len) (E a D fV fC A o len) [⟨a, fC.slot⟩, ⟨a, fV.slot⟩] 1 len := by
  refine Law.of_walk (plainFor_of_name (by decide +kernel)) (by decide +kernel) (by decide +kernel) (by decide) (fun _ _ h => by rw [h.1]; rfl) (fun _ U U' hal hh h => ⟨h.1, h.2.1.mv hal hh, h.2.2.1.al hal, h.2.2.2.1.al hal, h.2.2.2.2.1.mv hal hh, h.2.2.2.2.2.1.there hal hh, h.2.2.2.2.2.2⟩) (fun r U U' V V' h1 hal h2 h => Got.mv r U U' V V' h1 hal h2 h) ?_
  intro p e s m args below meth c s₁ X0 hexec hbytes hml hret hlk hnm hown hh0 W hP
  obtain ⟨rfl, hB, f1, f2, hA, s1, hz, l0, l1, l2, hp⟩ := hP
  have a31 := hA.1.2.2.2
  have c1 : Steps p.tables e below (s₁.setTop (entryFrame m #[.ref a, .ref b, .int (Int32.ofNat o), .int (Int32.ofNat len), .null] 6)) (s₁.setTop (mkF m 0 #[.val (.ref a), .val (.ref b), .val (.int (Int32.ofNat o)), .val (.int (Int32.ofNat len)), .val .null, .unset] [])) := entry rfl
  have c2 : Steps p.tables e below (s₁.setTop (entryFrame m #[.ref a, .ref b, .int (Int32.ofNat o), .int (Int32.ofNat len), .null] 6)) (s₁.setTop (mkF m 1 #[.val (.ref a), .val (.ref b), .val (.int (Int32.ofNat o)), .val (.int (Int32.ofNat len)), .val .null, .unset] [.ref a])) := c1.trans (by
    refine XS.aloadN X0.here hexec rfl (hb hbytes d0) rfl rfl ?_
    exact Steps.refl _)
  obtain ⟨T3, X3, q3, st3⟩ := X0.oinit hexec hown (wks W (objW "java/lang/String" 1)) (g := (mkF m 1 #[.val (.ref a), .val (.ref b), .val (.int (Int32.ofNat o)), .val (.int (Int32.ofNat len)), .val .null, .unset] [.ref a])) rfl (by rw [hml]; rfl) (rest := []) rfl (hb hbytes d1) (W := 0) (by show 2 * 0 + 0 ≤ _; decide) (Nat.le_of_ble_eq_true rfl) (Nat.le_of_ble_eq_true rfl)
  have hh3 := q3.trans hh0
  have c4 : Steps p.tables e below (s₁.setTop (entryFrame m #[.ref a, .ref b, .int (Int32.ofNat o), .int (Int32.ofNat len), .null] 6)) (T3.setTop (mkF m 27 #[.val (.ref a), .val (.ref b), .val (.int (Int32.ofNat o)), .val (.int (Int32.ofNat len)), .val .null, .unset] [])) := (c2.trans (st3 _ (Steps.refl _))).trans (by
    refine XS.iloadN X3.here hexec rfl (hb hbytes d4) rfl ?_
    refine XS.ifYes X3.here hexec rfl (pc0 := 5) rfl (hb hbytes d5) rfl (i0_ne_t (nz32 (by omega) l0)) (by decide) rfl ?_
    exact Steps.refl _)
  obtain ⟨T5, X5, q5, st5⟩ := X3.sget hexec hown (wk W (.fieldLink "java/lang/String" 38 "java/lang/String" "COMPACT_STRINGS" "Z")) s1 (fun _ _ h => by rw [hh3]; exact h) (g := (mkF m 27 #[.val (.ref a), .val (.ref b), .val (.int (Int32.ofNat o)), .val (.int (Int32.ofNat len)), .val .null, .unset] [])) rfl (hb hbytes d27)
  have hh5 := q5.trans hh3
  have c6 : Steps p.tables e below (s₁.setTop (entryFrame m #[.ref a, .ref b, .int (Int32.ofNat o), .int (Int32.ofNat len), .null] 6)) (T5.setTop (mkF m 30 #[.val (.ref a), .val (.ref b), .val (.int (Int32.ofNat o)), .val (.int (Int32.ofNat len)), .val .null, .unset] [.int z])) := c4.trans (st5 _ (Steps.refl _))
  have c7 : Steps p.tables e below (s₁.setTop (entryFrame m #[.ref a, .ref b, .int (Int32.ofNat o), .int (Int32.ofNat len), .null] 6)) (T5.setTop (mkF m 36 #[.val (.ref a), .val (.ref b), .val (.int (Int32.ofNat o)), .val (.int (Int32.ofNat len)), .val .null, .unset] [.int (Int32.ofNat len), .int (Int32.ofNat o), .ref b])) := c6.trans (by
    refine XS.ifNo X5.here hexec rfl (hb hbytes d30) rfl (i0_eq_f hz) ?_
    refine XS.aloadN X5.here hexec rfl (hb hbytes d33) rfl rfl ?_
    refine XS.iloadN X5.here hexec rfl (hb hbytes d34) rfl ?_
    refine XS.iloadN X5.here hexec rfl (hb hbytes d35) rfl ?_
    exact Steps.refl _)
  obtain ⟨v8, T8, X8, E8, g8⟩ := X5.callS hexec (Cmp3.law l b A o len) hown (wks W (staticW "java/lang/String" 177 Cmp3.yN)) (wk W Cmp3.tab) (W := 0) (Nat.le_of_ble_eq_true rfl) (Nat.le_of_ble_eq_true rfl) (Nat.le_refl _) (by show 0 + len ≤ len; omega) (g := (mkF m 36 #[.val (.ref a), .val (.ref b), .val (.int (Int32.ofNat o)), .val (.int (Int32.ofNat len)), .val .null, .unset] [.int (Int32.ofNat len), .int (Int32.ofNat o), .ref b])) rfl (by rw [hml]; rfl) c7 (argsL := [.ref b, .int (Int32.ofNat o), .int (Int32.ofNat len)]) (rest := []) rfl rfl (by show 2 * 0 + 0 ≤ _; decide) (hb hbytes d36) (⟨rfl, hA.mv X5.warmed.alike hh5, l1, l2, hp⟩)
  obtain ⟨e8, z8⟩ := E8
  obtain ⟨rfl, N, n1, n2, n3, n4, n5, n6⟩ := NewArr.mv _ T5 s _ _ hh5.symm (Vm.Alike.refl _) rfl e8
  rw [hh5] at z8
  have hB1 := hB.keep X8.warmed.alike (n6 _ _ hB.1)
  have hne : s.heap.size ≠ a := (Nat.ne_of_lt (Array.getElem?_eq_some_iff.mp hB.1).1).symm
  have c9 : Steps p.tables e below (s₁.setTop (entryFrame m #[.ref a, .ref b, .int (Int32.ofNat o), .int (Int32.ofNat len), .null] 6)) (T8.setTop (mkF m 39 #[.val (.ref a), .val (.ref b), .val (.int (Int32.ofNat o)), .val (.int (Int32.ofNat len)), .val .null, .unset] [.ref s.heap.size])) := g8
  have c10 : Steps p.tables e below (s₁.setTop (entryFrame m #[.ref a, .ref b, .int (Int32.ofNat o), .int (Int32.ofNat len), .null] 6)) (T8.setTop (mkF m 45 #[.val (.ref a), .val (.ref b), .val (.int (Int32.ofNat o)), .val (.int (Int32.ofNat len)), .val .null, .val (.ref s.heap.size)] [.int (Int32.ofNat N.slots.size), .ref s.heap.size, .ref a])) := by
    have hc : Steps p.tables e below (s₁.setTop (entryFrame m #[.ref a, .ref b, .int (Int32.ofNat o), .int (Int32.ofNat len), .null] 6)) (T8.setTop (mkF m 45 #[.val (.ref a), .val (.ref b), .val (.int (Int32.ofNat o)), .val (.int (Int32.ofNat len)), .val .null, .val (.ref s.heap.size)] [.int (Int32.ofNat len), .ref s.heap.size, .ref a])) := c9.trans (by
      refine XS.astore X8.here hexec rfl (hb hbytes d39) rfl rfl rfl ?_
      refine XS.aloadN X8.here hexec rfl (hb hbytes d41) rfl rfl ?_
      refine XS.aload X8.here hexec rfl (hb hbytes d42) rfl rfl ?_
      refine XS.iloadN X8.here hexec rfl (hb hbytes d44) rfl ?_
      exact Steps.refl _)
    rw [n4]; exact hc
  obtain ⟨v11, T11, X11, E11, g11⟩ := X8.callS hexec (CodL.law l s.heap.size N) hown (wks W (staticW "java/lang/String" 47 CodL.yN)) (wk W CodL.tab) (W := 1) (Nat.le_of_ble_eq_true rfl) (Nat.le_of_ble_eq_true rfl) (Nat.le_refl _) (by show 0 + len + 0 ≤ len; omega) (g := (mkF m 45 #[.val (.ref a), .val (.ref b), .val (.int (Int32.ofNat o)), .val (.int (Int32.ofNat len)), .val .null, .val (.ref s.heap.size)] [.int (Int32.ofNat N.slots.size), .ref s.heap.size, .ref a])) rfl (by rw [hml]; rfl) c10 (argsL := [.ref s.heap.size, .int (Int32.ofNat N.slots.size)]) (rest := [.ref a]) rfl rfl (by show 2 * 0 + (1 + 0) ≤ _; decide) (hb hbytes d45) (⟨rfl, n1⟩)
  obtain ⟨rfl, q11⟩ := E11
  have hB11 := hB1.mv (X8.warmed.alike.symm.trans X11.warmed.alike) q11
  have c12 : Steps p.tables e below (s₁.setTop (entryFrame m #[.ref a, .ref b, .int (Int32.ofNat o), .int (Int32.ofNat len), .null] 6)) (T11.setTop (mkF m 48 #[.val (.ref a), .val (.ref b), .val (.int (Int32.ofNat o)), .val (.int (Int32.ofNat len)), .val .null, .val (.ref s.heap.size)] [.int 0, .ref a])) := g11
  obtain ⟨T13, X13, p13, bl13, sl13, st13⟩ := X11.finit hexec hown (wk W (.fieldLink "java/lang/String" 15 "java/lang/String" "coder" "B")) (Or.inr ⟨_, (wk W (.laysFinal "java/lang/String" "java/lang/String" "coder" "B"))⟩) (Or.inl ⟨rfl, hnm⟩) f2 (Or.inl rfl) hB11 (t := .byte) (by decide +kernel) rfl (g := (mkF m 48 #[.val (.ref a), .val (.ref b), .val (.int (Int32.ofNat o)), .val (.int (Int32.ofNat len)), .val .null, .val (.ref s.heap.size)] [.int 0, .ref a])) rfl (rest := []) rfl (hb hbytes d48)
  have c14 : Steps p.tables e below (s₁.setTop (entryFrame m #[.ref a, .ref b, .int (Int32.ofNat o), .int (Int32.ofNat len), .null] 6)) (T13.setTop (mkF m 54 #[.val (.ref a), .val (.ref b), .val (.int (Int32.ofNat o)), .val (.int (Int32.ofNat len)), .val .null, .val (.ref s.heap.size)] [.ref s.heap.size, .ref a])) := (c12.trans (st13 _ (Steps.refl _))).trans (by
    refine XS.aloadN X13.here hexec rfl (hb hbytes d51) rfl rfl ?_
    refine XS.aload X13.here hexec rfl (hb hbytes d52) rfl rfl ?_
    exact Steps.refl _)
  obtain ⟨T15, X15, p15, bl15, sl15, st15⟩ := X13.finit hexec hown (wk W (.fieldLink "java/lang/String" 9 "java/lang/String" "value" "[B")) (Or.inr ⟨_, (wk W (.laysFinal "java/lang/String" "java/lang/String" "value" "[B"))⟩) (Or.inl ⟨rfl, hnm⟩) f1 (Or.inl rfl) bl13 (t := (.array .byte)) (by decide +kernel) rfl (g := (mkF m 54 #[.val (.ref a), .val (.ref b), .val (.int (Int32.ofNat o)), .val (.int (Int32.ofNat len)), .val .null, .val (.ref s.heap.size)] [.ref s.heap.size, .ref a])) rfl (rest := []) rfl (hb hbytes d54)
  have c16 : Steps p.tables e below (s₁.setTop (entryFrame m #[.ref a, .ref b, .int (Int32.ofNat o), .int (Int32.ofNat len), .null] 6)) (T15.setTop (mkF m 57 #[.val (.ref a), .val (.ref b), .val (.int (Int32.ofNat o)), .val (.int (Int32.ofNat len)), .val .null, .val (.ref s.heap.size)] [])) := c14.trans (st15 _ (Steps.refl _))
  have ap := apart (Or.inr ⟨_, (wk W (.laysFinal "java/lang/String" "java/lang/String" "value" "[B"))⟩) (Or.inr ⟨_, (wk W (.laysFinal "java/lang/String" "java/lang/String" "coder" "B"))⟩) f1 f2 (t₁ := .array .byte) (t₂ := .byte) (by decide +kernel) (by decide +kernel) (by decide)
  have al := X8.warmed.alike.symm.trans X15.warmed.alike
  have n7 : T11.heap[s.heap.size]? = some N := by rw [q11]; exact n1.1
  exact ⟨T15, none, _, _, _, X15, by simp, rfl, by omega, (fun _ => rfl), ⟨rfl, _, N, bl15, ((Same.refl D _).set _ (by simp)).set _ (by simp), sl15, (Cell.slots_setSlot_ne _ ap).trans sl13, n1.keep al (p15.other hne (p13.other hne n7)), n2, by rw [al.findClass]; exact n3, n4, n5, fun y c h1 h2 => p15.other h1 (p13.other h1 (by rw [q11]; exact n6 y c h2)), by rw [p15.2.2, p13.2.2, q11]; exact z8⟩, fun fs hl => c16.trans (X15.returnOut hexec hret (hb hbytes d57) hl)⟩
end New4
namespace New1
def yN : MethodName := ⟨"java/lang/String", "<init>", "([C)V"⟩
abbrev yB : ByteArray := jdk_42_method_3_code
theorem d0 : decode yB 0 = .ok (.aload_n 0, 1) := by decide +kernel
theorem d1 : decode yB 1 = .ok (.aload_n 1, 1) := by decide +kernel
theorem d2 : decode yB 2 = .ok (.iconst 0, 1) := by decide +kernel
theorem d3 : decode yB 3 = .ok (.aload_n 1, 1) := by decide +kernel
theorem d4 : decode yB 4 = .ok (.arraylength, 1) := by decide +kernel
theorem d5 : decode yB 5 = .ok (.aconst_null, 1) := by decide +kernel
theorem d6 : decode yB 6 = .ok (.invokespecial 27, 3) := by decide +kernel
theorem d9 : decode yB 9 = .ok (.return_, 1) := by decide +kernel
def site : List Cond := [New4.tab] ++ initW "java/lang/String" 27 New4.yN
def tab : Cond := tabOf yN yB 2 none site
def P (a : Addr) (D : Cell) (fV fC : Field) (b : Addr) (A : Cell) (z : Int32) (args : Array Value) (s : State) : Prop := args = #[.ref a, .ref b] ∧ Blank "java/lang/String" a D s ∧ Found "java/lang/String" "value" "[B" fV s ∧ Found "java/lang/String" "coder" "B" fC s ∧ Ch b A s ∧ StaticIs s "java/lang/String" "COMPACT_STRINGS" "Z" (.int z) ∧ ¬ z = 0 ∧ 0 < A.slots.size ∧ A.slots.size ≤ 536870912 ∧ ∀ i, i < A.slots.size → ¬ 255 < cv A i
def E (a : Addr) (D : Cell) (fV fC : Field) (A : Cell) (r : Option Value) (s u : State) : Prop := Got a D fV fC A 0 A.slots.size r s u
/-- new String(chars), not empty, no char above 255: a Latin-1 String of their low bytes -/
theorem law (l : Launch) (a : Addr) (D : Cell) (fV fC : Field) (b : Addr) (A : Cell) (z : Int32) : Law l yN 2 1 3 52 yB 2 none site (P a D fV fC b A z) (E a D fV fC A) [⟨a, fC.slot⟩, ⟨a, fV.slot⟩] 1 A.slots.size := by
  refine Law.of_walk (plainFor_of_name (by decide +kernel)) (by decide +kernel) (by decide +kernel) (by decide) (fun _ _ h => by rw [h.1]; rfl) (fun _ U U' hal hh h => ⟨h.1, h.2.1.mv hal hh, h.2.2.1.al hal, h.2.2.2.1.al hal, h.2.2.2.2.1.mv hal hh, h.2.2.2.2.2.1.there hal hh, h.2.2.2.2.2.2⟩) (fun r U U' V V' h1 hal h2 h => Got.mv r U U' V V' h1 hal h2 h) ?_
  intro p e s m args below meth c s₁ X0 hexec hbytes hml hret hlk hnm hown hh0 W hP
  obtain ⟨rfl, hB, f1, f2, hA, s1, hz, l0, l2, hp⟩ := hP
  have c1 : Steps p.tables e below (s₁.setTop (entryFrame m #[.ref a, .ref b] 2)) (s₁.setTop (mkF m 0 #[.val (.ref a), .val (.ref b)] [])) := entry rfl
  have c2 : Steps p.tables e below (s₁.setTop (entryFrame m #[.ref a, .ref b] 2)) (s₁.setTop (mkF m 6 #[.val (.ref a), .val (.ref b)] [.null, .int (Int32.ofNat A.slots.size), .int 0, .ref b, .ref a])) := c1.trans (by
    refine XS.aloadN X0.here hexec rfl (hb hbytes d0) rfl rfl ?_
    refine XS.aloadN X0.here hexec rfl (hb hbytes d1) rfl rfl ?_
    refine iconstV X0.here hexec rfl 0 (hb hbytes d2) (by decide) ?_
    refine XS.aloadN X0.here hexec rfl (hb hbytes d3) rfl rfl ?_
    refine X0.alen hexec (hA.1.mv X0.warmed.alike hh0) rfl rfl (hb hbytes d4) ?_
    refine XS.aconstNull X0.here hexec rfl (hb hbytes d5) ?_
    exact Steps.refl _)
  obtain ⟨v3, T3, X3, E3, g3⟩ := X0.callN hexec (New4.law l a D fV fC b A z 0 A.slots.size) rfl hown (wks W (initW "java/lang/String" 27 New4.yN)) (W New4.tab (by simp only [site, List.mem_cons, List.mem_append, true_or, or_true])) (W := 0) (Nat.le_of_ble_eq_true rfl) (Nat.le_of_ble_eq_true rfl) (Nat.le_refl _) (by show 0 + A.slots.size ≤ A.slots.size; omega) (g := (mkF m 6 #[.val (.ref a), .val (.ref b)] [.null, .int (Int32.ofNat A.slots.size), .int (Int32.ofNat 0), .ref b, .ref a])) rfl (by rw [hml]; rfl) c2 (argsL := [.ref b, .int (Int32.ofNat 0), .int (Int32.ofNat A.slots.size), .null]) (rest := []) rfl rfl (by show 2 * 0 + 0 ≤ _; decide) (hb hbytes d6) (⟨rfl, hB.mv X0.warmed.alike hh0, f1.al X0.warmed.alike, f2.al X0.warmed.alike, hA.mv X0.warmed.alike hh0, s1.there X0.warmed.alike hh0, hz, l0, by omega, l2, fun i hi => by rw [Nat.zero_add]; exact hp i hi⟩)
  have e0 := Got.mv _ s₁ s _ _ hh0.symm (Vm.Alike.refl _) rfl E3
  obtain rfl := e0.1
  have c4 : Steps p.tables e below (s₁.setTop (entryFrame m #[.ref a, .ref b] 2)) (T3.setTop (mkF m 9 #[.val (.ref a), .val (.ref b)] [])) := g3
  exact ⟨T3, none, _, _, _, X3, by simp, rfl, by omega, (fun _ => rfl), e0, fun fs hl => c4.trans (X3.returnOut hexec hret (hb hbytes d9) hl)⟩
theorem pays {l : Launch} {R : Room} {p : Program} {e : Env} {below : List Frame} {s : State} {sargs : Array Value} {len W : Nat} (a : Addr) (D : Cell) (fV fC : Field) (b : Addr) (A : Cell) (z : Int32) (htab : tab.before sargs s = true) (hfr : 4 ≤ R.frames) (hlo : W + 65 ≤ R.locals) :
    Back l R p e below s sargs yN len W (fun A₁ a₁ => A₁.cells + 1 ≤ R.cells ∧ A₁.slots + A.slots.size ≤ R.slots ∧ P a D fV fC b A z a₁ A₁.U) (fun A₁ _ v₁ B₁ => E a D fV fC A v₁ A₁.U B₁.U ∧ B₁.locs = A₁.locs ++ [⟨a, fC.slot⟩, ⟨a, fV.slot⟩] ∧ B₁.cells = A₁.cells + 1 ∧ B₁.slots = A₁.slots + A.slots.size) :=
  (law l a D fV fC b A z).pays htab hfr (by omega)
end New1
end StrChars
namespace StrChars.Road
open Jvm Sem ClassFile Op Lib Jvm.Stand Jvm.Free Jvm.Free.XT
open Jvm.Lib.Cold (StaticIs)
abbrev ST : String := "java/lang/String"
/-- every table word that New1's law asks, flat -/
abbrev words : List Jvm.Cond := [.code New1.yN New1.yB 2 none, .initialized ST, .methodLink ST 27 New4.yN, .instanceMethod New4.yN,
  .code New4.yN New4.yB 6 none, .fieldLink ST 38 ST "COMPACT_STRINGS" "Z", .laysFinal ST ST "value" "[B", .fieldLink ST 9 ST "value" "[B", .laysFinal ST ST "coder" "B", .fieldLink ST 15 ST "coder" "B",
  .methodLink ST 1 Lib.objectInit, .instanceMethod Lib.objectInit, .code Lib.objectInit ⟨#[0xb1]⟩ 1 none, .methodLink ST 177 Cmp3.yN, .static Cmp3.yN, .methodLink ST 47 CodL.yN, .static CodL.yN,
  .code Cmp3.yN Cmp3.yB 6 (some (.array .byte)), .initialized U16, .arrayClass .byte, .methodLink U16 115 Cmp5.yN, .static Cmp5.yN, .code Cmp5.yN Cmp5.yB 7 (some .int), .code CodL.yN CodL.yB 2 (some .byte)]
theorem tab_of {a : Array Value} {s : State} (h : ∀ w ∈ words, w.before a s = true) : New1.tab.before a s = true := by
  have h5 : Cmp5.tab.before a s = true := unparts (wk h (.code Cmp5.yN Cmp5.yB 7 (some .int))) (wks h (.initialized Cmp5.yN.cls :: Cmp5.site))
  have hc : CodL.tab.before a s = true := unparts (wk h (.code CodL.yN CodL.yB 2 (some .byte))) (wks h (.initialized CodL.yN.cls :: CodL.site))
  have q5 : ∀ w ∈ Cmp5.tab :: words, w.before a s = true := fun w hw => (List.mem_cons.mp hw).elim (fun e => e ▸ h5) (h w)
  have h3 : Cmp3.tab.before a s = true := unparts (wk q5 (.code Cmp3.yN Cmp3.yB 6 (some (.array .byte)))) (wks q5 (.initialized Cmp3.yN.cls :: Cmp3.site))
  have q3 : ∀ w ∈ Cmp3.tab :: CodL.tab :: words, w.before a s = true := fun w hw => (List.mem_cons.mp hw).elim (fun e => e ▸ h3) fun hw => (List.mem_cons.mp hw).elim (fun e => e ▸ hc) (h w)
  have h4 : New4.tab.before a s = true := unparts (wk q3 (.code New4.yN New4.yB 6 none)) (wks q3 (.initialized New4.yN.cls :: New4.site))
  have q4 : ∀ w ∈ New4.tab :: words, w.before a s = true := fun w hw => (List.mem_cons.mp hw).elim (fun e => e ▸ h4) (h w)
  exact unparts (wk q4 (.code New1.yN New1.yB 2 none)) (wks q4 (.initialized New1.yN.cls :: New1.site))
/-- the words ride from the start Z to the walk's own state -/
theorem moved {Z s : State} {a0 args : Array Value} (hZ : Z.Warmed39 s.vm) (hw : ∀ d ∈ words, d.before a0 Z = true) : ∀ d ∈ words, d.before args s = true := fun d hd => by
  have q := hw d hd
  have t : ∀ d ∈ words, d = .arrayClass .byte ∨ (d.onTables && d.keepsFace) = true := by decide +kernel
  rcases t d hd with rfl | t
  · exact RoadKit.mvA hZ q
  · exact RoadKit.mv hZ q t
/-- WHAT COMES BACK, over the tables of the start Z: h the heap at the call, h' behind it -/
def Q (Z : State) (x : Addr) (A : Cell) (h : Heap) (v : Option Value) (h' : Heap) (L : List Loc) : Prop := v = none ∧ (∀ y ∈ L, y.base = x) ∧ RoadKit.Keep h h' [x] ∧ h'.size = h.size + 1 ∧ RoadKit.Exa Z h' x ST ∧ RoadKit.Fld Z h' x ST "value" "[B" (.ref h.size) ∧ RoadKit.Fld Z h' x ST "coder" "B" (.int 0) ∧
  (∃ V : Cell, RoadKit.Arr Z h' h.size V .byte ∧ V.vm = .none ∧ Z.vm.findClass "[B" = some V.cls ∧ V.slots.size = A.slots.size ∧ ∀ j, j < A.slots.size → V.slots[j]? = some (.int (lo8 (cv A j)))) ∧
  ∀ (O n d : String) (w : Value), RoadKit.Fld Z h x O n d w → RoadKit.slotOf Z O n d ≠ RoadKit.slotOf Z ST "value" "[B" → RoadKit.slotOf Z O n d ≠ RoadKit.slotOf Z ST "coder" "B" → RoadKit.Fld Z h' x O n d w
/-- **new String(chars) AT A CALL, IN THE ROAD'S FORM**: for specialBack behind newO: x the fresh String, b the char[] with the cell A -/
theorem back {p : Program} {l : Launch} {e : Env} {R : Room} {s : State} {args : Array Value} {below : List Frame} {len W : Nat} {Z : State} {a0 : Array Value} {h : Heap} (hZ : Z.Warmed39 s.vm) (hw : ∀ d ∈ words, d.before a0 Z = true) {kI : Nat} (wi : (Jvm.Cond.instantiable ST kI).before a0 Z = true)
    {x b : Addr} {A : Cell} {z : Int32} {v0 c0 : Value} (E : RoadKit.Exa Z h x ST) (V : RoadKit.Fld Z h x ST "value" "[B" v0) (C : RoadKit.Fld Z h x ST "coder" "B" c0) (K : RoadKit.Arr Z h b A .char) (hty : Typed .char A) (S : RoadKit.Sta Z h ST "COMPACT_STRINGS" "Z" (.int z)) (hz : ¬ z = 0)
    (l0 : 0 < A.slots.size) (l2 : A.slots.size ≤ 536870912) (hp : ∀ i, i < A.slots.size → ¬ 255 < cv A i) (hfr : 4 ≤ R.frames) (hlo : W + 65 ≤ R.locals) :
    Back l R p e below s args New1.yN len W (fun P a => a = #[.ref x, .ref b] ∧ P.U.heap = h ∧ P.cells + 1 ≤ R.cells ∧ P.slots + A.slots.size ≤ R.slots)
      (fun P _ v B => ∃ L, Q Z x A h v B.U.heap L ∧ B.locs = P.locs ++ L ∧ B.cells = P.cells + 1 ∧ B.slots = P.slots + A.slots.size) := by
  intro m meth c P g ig mk a X hg hsize hdg hW hn hp'
  obtain ⟨rfl, rfl, r1, r2⟩ := hp'
  have al : Z.vm.Alike P.U.vm := hZ.alike.trans X.warmed.alike
  obtain ⟨D, cfV, kV, iV, fV, hD, gV, stV, knV, obV, asV, slV⟩ := id V
  obtain ⟨D', cfC, kC, iC, fC, hD', gC, stC, -, -, asC, slC⟩ := id C
  cases hD.symm.trans hD'
  obtain ⟨D2, kD, e1, e2, e3, e4, e5⟩ := id E
  cases hD.symm.trans e1
  obtain ⟨c2, k2, i1, i2, i3, -⟩ := Cond.instantiable_spec wi
  cases e2.symm.trans i1
  cases e3.symm.trans i2
  obtain ⟨kU, u1, u2⟩ := al.2.2 _ _ e3
  have hB : Blank ST x D P.U := ⟨hD, ⟨knV, fun q hq => by rw [hq] at obV; cases obV⟩, by rw [al.findClass]; exact e2, kU, u1, by rw [u2]; exact i3, by rw [u2]; exact e5 i3⟩
  have F1 : Found ST "value" "[B" fV P.U := ⟨SBG.found_only al ⟨cfV, kV, iV, gV⟩, stV⟩
  have F2 : Found ST "coder" "B" fC P.U := ⟨SBG.found_only al ⟨cfC, kC, iC, gC⟩, stC⟩
  have hA : Ch b A P.U := ⟨⟨K.1, State.isArrayOf_alike al K.2.1, K.2.2, by omega⟩, hty⟩
  have hS : StaticIs P.U ST "COMPACT_STRINGS" "Z" (.int z) := by
    obtain ⟨cfS, iS, kS, fS, st, cS, t1, t2, t3, t4, t5, t6, t7⟩ := S
    exact StaticIs.there (s := { Z with heap := P.U.heap }) ⟨cfS, iS, kS, fS, st, cS, t1, t2, t3, t4, t5, (fun q => by rw [q] at t6; cases t6), t7⟩ al rfl
  obtain ⟨v, B, X', ⟨⟨hv, E', V', q1, q2, q3, q4, q5, q6, q7, q8, q9, q10, q11⟩, hl, hc, hs⟩, st⟩ := New1.pays x D fV fC b A z (tab_of (moved hZ hw)) hfr hlo m meth c P g ig mk _ X hg hsize hdg hW hn ⟨r1, r2, rfl, hB, F1, F2, hA, hS, hz, l0, l2, hp⟩
  have al' : Z.vm.Alike B.U.vm := hZ.alike.trans X'.warmed.alike
  have hsz : E'.slots.size = D.slots.size := by
    obtain ⟨-, -, -, kB, w1, w2, w3⟩ := q1
    obtain ⟨kB', y1, y2⟩ := al'.2.2 _ _ e3
    rw [q2.2.1] at w1
    cases w1.symm.trans y1
    rw [w3, e5 i3, y2]
  refine ⟨v, B, X', ⟨_, ⟨hv, ?_, ⟨by omega, fun y cy hy hn' => q10 y cy (by simpa using hn') hy, fun y cy hy => ?_⟩, q11, ⟨E', _, q1.1, by rw [q2.2.1]; exact e2, by rw [q2.2.1]; exact e3, by rw [q2.1]; exact obV, fun _ => by rw [hsz]; exact e5 i3⟩,
    ⟨E', cfV, kV, iV, fV, q1.1, gV, stV, by rw [q2.1]; exact knV, by rw [q2.1]; exact obV, by rw [q2.2.1]; exact asV, q3⟩, ⟨E', cfC, kC, iC, fC, q1.1, gC, stC, by rw [q2.1]; exact knV, by rw [q2.1]; exact obV, by rw [q2.2.1]; exact asC, q4⟩,
    ⟨V', ⟨q5.1, State.isArrayOf_alike al'.symm q5.2.1, q5.2.2.1⟩, q6, by rw [← al'.findClass]; exact q7, q8, fun j hj => by have := q9 j hj; rwa [Nat.zero_add] at this⟩, fun O n d w F n1 n2 => ?_⟩, hl, hc, hs⟩, st⟩
  · intro y hy
    simp only [List.mem_cons, List.not_mem_nil, or_false] at hy
    rcases hy with rfl | rfl <;> rfl
  · by_cases q : y = x
    · subst q
      cases hD.symm.trans hy
      exact ⟨E', q1.1, q2.2.1, q2.1, hsz⟩
    · exact ⟨cy, q10 y cy q hy, rfl, rfl, rfl⟩
  · obtain ⟨D3, cf, k, i, f, g1, g2, g3, g4, g5, g6, g7⟩ := F
    cases hD.symm.trans g1
    simp only [RoadKit.slotOf, g2, gV, gC, Option.map_some, Option.getD_some] at n1 n2
    exact ⟨E', cf, k, i, f, q1.1, g2, g3, by rw [q2.1]; exact g4, by rw [q2.1]; exact g5, by rw [q2.2.1]; exact g6, by rw [q2.2.2 f.slot (by simp [n1, n2])]; exact g7⟩
end StrChars.Road
namespace StrChars.Road
open Jvm Sem ClassFile Op Lib Jvm.Stand Jvm.Free Jvm.Free.XT
/-- WHAT COMES BACK, the byte[] as a list of values -/
def QA (Z : State) (x : Addr) (zn : Int32) (cs : List Int32) (h : Heap) (v : Option Value) (h' : Heap) (L : List Loc) : Prop := v = none ∧ (∀ y ∈ L, y.base = x) ∧ RoadKit.Keep h h' [x] ∧ h'.size = h.size + 1 ∧ RoadKit.Exa Z h' x ST ∧ RoadKit.Fld Z h' x ST "value" "[B" (.ref h.size) ∧ RoadKit.Fld Z h' x ST "coder" "B" (.int 0) ∧
  (∃ kb, Z.vm.findClass "[B" = some kb ∧ RoadKit.Arv Z h' h.size kb .byte zn (cs.map fun c => .int (lo8 c)) (.int 0)) ∧
  ∀ (O n d : String) (w : Value), RoadKit.Fld Z h x O n d w → RoadKit.slotOf Z O n d ≠ RoadKit.slotOf Z ST "value" "[B" → RoadKit.slotOf Z O n d ≠ RoadKit.slotOf Z ST "coder" "B" → RoadKit.Fld Z h' x O n d w
/-- **new String(chars) AT A CALL, THE ARRAYS AS LISTS**: the char[] at b holds cs, not empty, no char above 255 -/
theorem backArv {p : Program} {l : Launch} {e : Env} {R : Room} {s : State} {args : Array Value} {below : List Frame} {len W : Nat} {Z : State} {a0 : Array Value} {h : Heap} (hZ : Z.Warmed39 s.vm) (hw : ∀ d ∈ words, d.before a0 Z = true) {kI : Nat} (wi : (Jvm.Cond.instantiable ST kI).before a0 Z = true)
    {x b : Addr} {k : ClassId} {zn z : Int32} {cs : List Int32} {dv v0 c0 : Value} (E : RoadKit.Exa Z h x ST) (V : RoadKit.Fld Z h x ST "value" "[B" v0) (C : RoadKit.Fld Z h x ST "coder" "B" c0) (K : RoadKit.Arv Z h b k .char zn (cs.map Value.int) dv) (S : RoadKit.Sta Z h ST "COMPACT_STRINGS" "Z" (.int z)) (hz : ¬ z = 0)
    (hlen : zn.toNatClampNeg = cs.length) (h0 : 0 < cs.length) (hbig : cs.length ≤ 536870912) (hall : ∀ c ∈ cs, ¬ 255 < c) (hfr : 4 ≤ R.frames) (hlo : W + 65 ≤ R.locals) :
    Back l R p e below s args New1.yN len W (fun P a => a = #[.ref x, .ref b] ∧ P.U.heap = h ∧ P.cells + 1 ≤ R.cells ∧ P.slots + cs.length ≤ R.slots)
      (fun P _ v B => ∃ L, QA Z x zn cs h v B.U.heap L ∧ B.locs = P.locs ++ L ∧ B.cells = P.cells + 1 ∧ B.slots = P.slots + cs.length) := by
  obtain ⟨A, K1, K2, K3, K4, K5, K6⟩ := K
  have e : A.slots.size = cs.length := K3.trans hlen
  have hat : ∀ (i : Nat) (hi : i < cs.length), A.slots[i]? = some (.int cs[i]) := fun i hi => by rw [K5 i (by omega)]; simp [List.getD_eq_getElem?_getD, hi]
  have hcv : ∀ (i : Nat) (hi : i < cs.length), cv A i = cs[i] := fun i hi => by unfold cv; rw [hat i hi]
  have hty : Typed .char A := fun i v hv => by
    have hi : i < A.slots.size := (Array.getElem?_eq_some_iff.mp hv).1
    have q := K5 i hi
    rw [hv] at q
    rw [Option.some.inj q]
    exact K6 i hi
  refine Back.mono (back hZ hw wi E V C K1 hty S hz (by omega) (by omega) (fun i hi => by rw [hcv i (by omega)]; exact hall _ (List.getElem_mem _)) hfr hlo) (fun P a hp => ⟨hp.1, hp.2.1, hp.2.2.1, by rw [e]; exact hp.2.2.2⟩) (fun P a v B hp hq => ?_)
  obtain ⟨L, ⟨q1, q2, q3, q4, q5, q6, q7, ⟨V', v1, v2, v3, v4, v5⟩, q9⟩, hl, hc, hs⟩ := hq
  refine ⟨L, ⟨q1, q2, q3, q4, q5, q6, q7, ⟨V'.cls, v3, V', v1, rfl, by rw [v4, e, hlen], K4, fun i hi => ?_, fun i hi => ?_⟩, q9⟩, hl, hc, by rw [hs, e]⟩
  · have hi' : i < cs.length := by omega
    rw [v5 i (by omega), hcv i hi']; simp [List.getD_eq_getElem?_getD, hi']
  · have hi' : i < cs.length := by omega
    simp only [List.getD_eq_getElem?_getD, List.getElem?_map, List.getElem?_eq_getElem hi', Option.map_some, Option.getD_some]
    exact fits_lo8 _
end StrChars.Road
namespace StrChars.Road
open Jvm Sem ClassFile Op Lib Jvm.Stand Jvm.Free Jvm.Free.XT
/-- WHAT COMES BACK, in the writer's own shape -/
def QV (Z : State) (x : Addr) (N : Int32) (bs : List Int32) (h : Heap) (n0 : Nat) (v : Option Value) (h' : Heap) (L : List Loc) : Prop := v = none ∧ RoadKit.Fr n0 L ∧ RoadKit.Keep h h' [x] ∧ RoadKit.Exa Z h' x ST ∧ RoadKit.Fld Z h' x ST "coder" "B" (.int 0) ∧
  ∃ (t : Addr) (kb : ClassId), n0 ≤ t ∧ h.size ≤ t ∧ ¬ t = x ∧ RoadKit.Fld Z h' x ST "value" "[B" (.ref t) ∧ RoadKit.Arv Z h' t kb .byte N (bs.map Value.int) (.int 0)
/-- **new String(chars) AT A CALL, FOR THE WRITER**: a char[] of n known ints, each 0 to 255 -/
theorem backV {p : Program} {l : Launch} {e : Env} {R : Room} {s : State} {args : Array Value} {below : List Frame} {len W : Nat} {Z : State} {a0 : Array Value} {h : Heap} (hZ : Z.Warmed39 s.vm) (hw : ∀ d ∈ words, d.before a0 Z = true) {kI : Nat} (wi : (Jvm.Cond.instantiable ST kI).before a0 Z = true)
    {x b : Addr} {kC : ClassId} {cs bs : List Int32} {d v0 c0 : Value} {z N : Int32} {n n0 : Nat} (hx0 : n0 ≤ x) (hh0 : n0 ≤ h.size) (E : RoadKit.Exa Z h x ST) (V : RoadKit.Fld Z h x ST "value" "[B" v0) (C : RoadKit.Fld Z h x ST "coder" "B" c0) (K : RoadKit.Arv Z h b kC .char N (cs.map Value.int) d) (S : RoadKit.Sta Z h ST "COMPACT_STRINGS" "Z" (.int z)) (hz : ¬ z = 0)
    (hn : cs.length = n) (hN : N = Int32.ofNat n) (l0 : 0 < n) (l2 : n ≤ 4000) (hp : ∀ c ∈ cs, ¬ c < 0 ∧ ¬ (255 : Int32) < c) (hb : bs = cs.map (fun c => c.toInt8.toInt32)) (hfr : 4 ≤ R.frames) (hlo : W + 65 ≤ R.locals) :
    Back l R p e below s args (⟨"java/lang/String", "<init>", "([C)V"⟩ : MethodName) len W (fun P a => a = #[.ref x, .ref b] ∧ P.U.heap = h ∧ P.cells + 1 ≤ R.cells ∧ P.slots + n ≤ R.slots)
      (fun P _ v B => ∃ L, QV Z x N bs h n0 v B.U.heap L ∧ B.locs = P.locs ++ L ∧ B.cells = P.cells + 1 ∧ B.slots = P.slots + n) := by
  subst hn hN hb
  refine Back.mono (backArv hZ hw wi E V C K S hz (n32 (by omega)) l0 (by omega) (fun c hc => (hp c hc).2) hfr hlo) (fun P a hp => hp) (fun P a v B hp hq => ?_)
  obtain ⟨L, ⟨q1, q2, q3, q4, q5, q6, q7, ⟨kb, v1, v2⟩, q9⟩, hl, hc, hs⟩ := hq
  exact ⟨L, ⟨q1, fun y hy => by rw [q2 y hy]; exact hx0, q3, q5, q7, h.size, kb, hh0, Nat.le_refl _, Nat.ne_of_gt E.lt, q6, by rw [List.map_map]; exact v2⟩, hl, hc, hs⟩
end StrChars.Road
end Jvm.Pilot.@@N@@
namespace Jvm.Pilot.@@N@@
set_option maxRecDepth 65536
set_option maxHeartbeats 40000000
open Jvm Jvm.ClassFile Sem Op Lib Jvm.Free Jvm.Stand Jvm.LawKit Jvm.RoadKit Bundle Jvm.Pilot.@@N@@.Jvm.D
abbrev own_W (a0 : Array Value) (Z : State) : Prop := ∀ d ∈ tables_1, d.before a0 Z = true
theorem own_i32 {x : Int32} (k : Int32) {n : Int} (e : k.toInt = n) (h : x.toInt = n) : x = k := Int32.toInt_inj.mp (h.trans e.symm)
section Own
variable {p : Program} {l : Launch} {e : Env} {R : Room} {s : State} {m : MethodId} {args : Array Value} {below : List Frame} {meth : Method} {c : Code} {T T' : State} {locs : List Loc} {cells slots : Nat} {Z : State} {a0 : Array Value} {h : Heap} {P : Outcome → State → Prop}
theorem own_hw {L : List Jvm.Cond} (hw : ∀ d ∈ L, d.before a0 Z = true) (i : Nat) {d : Jvm.Cond} (q : L[i]? = some d) : d.before a0 Z = true := hw d (List.mem_of_getElem? q)
/-- from here the run comes to an end that P allows -/
def own_Go (p : Program) (e : Env) (below : List Frame) (P : Outcome → State → Prop) (T : State) (g : JFrame) : Prop :=
  ∃ s₂ o, Steps p.tables e below (T.setTop g) s₂ ∧ s₂.status = .running ∧ Ended s₂ below o ∧ P o s₂
theorem own_go {g g' : JFrame} (h : ∀ t, Steps p.tables e below (T'.setTop g') t → Steps p.tables e below (T.setTop g) t) (k : own_Go p e below P T' g') : own_Go p e below P T g := by
  obtain ⟨s₂, o, h1, h2⟩ := k
  exact ⟨s₂, o, h _ h1, h2⟩
theorem own_cut {α : Type} {g : JFrame} {F : α → JFrame} (tl : ∀ v, own_Go p e below P T (F v)) (k : (∀ v, own_Go p e below P T (F v)) → own_Go p e below P T g) : own_Go p e below P T g := k tl
theorem own_laid1 {v : Value} (h : v.isRef = true) : Jvm.Sym.laidSlots [v] = [.val v] := by
  have hc : ¬ v.category = 2 := by cases v <;> first | (intro q; cases q; done) | (cases h; done)
  show (if v.category = 2 then Slot.val v :: .second :: Jvm.Sym.laidSlots [] else Slot.val v :: Jvm.Sym.laidSlots []) = _
  rw [if_neg hc]; rfl
theorem own_frame {m : MethodId} {as' : Array Value} {n : Nat} {L : List Slot} {ls : Array Slot} (hl : Jvm.Sym.laidSlots as'.toList = L) (h : L ++ List.replicate (n - L.length) .unset = ls.toList) : entryFrame m as' n = mkF m 0 ls [] := by
  show mkF m 0 (argsToLocals as' n) [] = _
  have e := Jvm.Sym.argsToLocals_toList as' n
  rw [hl] at e
  rw [show argsToLocals as' n = ls from Array.toList_inj.mp (e.trans h)]
theorem own_cast {g g' : JFrame} (q : g = g') (k : own_Go p e below P T g') : own_Go p e below P T g := q ▸ k
/-- what a body leaves: Q of its answer, of the heap and of the places written; no more cells and slots than k and n -/
def own_End (s : State) (Q : Option Value → Heap → List Loc → Prop) (k n : Nat) (o : Outcome) (t : State) : Prop := ∃ v L, o = .returned v ∧ Q v t.heap L ∧ FrameEnd s o t L k n
/-- a body's contract, at one heap and one list of arguments -/
def own_Met (l : Launch) (Z : State) (y : MethodName) (bytes : ByteArray) (maxL : Nat) (ret : Option FieldType) (rm : Room) (as' : Array Value) (h0 : Heap) (Q : Option Value → Heap → List Loc → Prop) : Prop :=
  ∀ ws : List Jvm.Cond, MetFree l y (head1 (Jvm.Cond.code y bytes maxL ret :: ws) rm) (fun a U => a = as' ∧ Z.Warmed39 U.vm ∧ U.heap = h0) (fun _ _ _ _ _ => True) (fun _ U o U' => ∃ v L, o = .returned v ∧ Q v U'.heap L ∧ FrameEnd U o U' L rm.cells rm.slots)
theorem own_body {y : MethodName} {bytes : ByteArray} {maxL : Nat} {ret : Option FieldType} {rm : Room} {as' : Array Value} {h0 : Heap} {Q : Option Value → Heap → List Loc → Prop} (hp : plainFor y = true)
    (k : ∀ (p : Program) (e : Env) (s : State) (m : MethodId) (below : List Frame) (meth : Method) (c : Code) (T : State), Stand p l e rm s m as' below meth c T [] 0 0 → p.tables.exec = Jvm.exec → Z.Warmed39 s.vm → c.code = bytes → c.maxLocals = maxL → s.vm.findClass y.cls = some m.cls → meth.name = y.name →
      meth.sig.returnType = ret → meth.locks = false → T.heap = h0 → own_Go p e below (own_End s Q rm.cells rm.slots) T (entryFrame m as' maxL)) : own_Met l Z y bytes maxL ret rm as' h0 Q := by
  intro ws
  refine MetFree.of_bodySF hp hisR ?_
  intro p e s m args below meth c s₁ Bd hml0 hP hK
  obtain ⟨rfl, hZ, hh⟩ := hP
  exact k p e s m below meth c s₁ (Stand.of_body Bd) Bd.exec hZ Bd.bytes hml0 (findClass_of_methodNamed Bd.named) (name_of_methodNamed Bd.named Bd.method).1 Bd.returns Bd.notSynchronized (by rw [← hh, Bd.state]; rfl)
/-- a return with a value -/
theorem own_ret (X : Stand p l e R s m args below meth c T locs cells slots) (hx : p.tables.exec = Jvm.exec) {pc : Nat} {Ls : Array Slot} {w : Value} {t : FieldType} {i : Instr} {rest : List Value} (hret : meth.sig.returnType = some t) (hlk : meth.locks = false) (hd : decode c.code pc = .ok (i, 1)) (hn : narrow t w = w)
    (hi : (i = .ireturn ∧ (t = .int ∨ t = .boolean ∨ t = .byte ∨ t = .char ∨ t = .short) ∧ ∃ z, w = .int z) ∨ (i = .lreturn ∧ t = .long ∧ ∃ z, w = .long z) ∨ (i = .dreturn ∧ t = .double ∧ ∃ z, w = .double z) ∨ (i = .freturn ∧ t = .float ∧ ∃ z, w = .float z) ∨ (i = .areturn ∧ t.isReference = true ∧ w.isRef = true))
    {Q : Option Value → Heap → List Loc → Prop} {kc kn : Nat} (hc : cells ≤ kc) (hs : slots ≤ kn) (hQ : Q (some w) T.heap locs) : own_Go p e below (own_End s Q kc kn) T (mkF m pc Ls (w :: rest)) := by
  obtain ⟨fs, hr, hrun, hended, hW, hsame⟩ := X.leave (v := some w) (fun h => by rw [hret] at h; cases h) hlk
  exact ⟨_, _, retOut X hx hret hn hi hd hr, hrun, hended, _, _, rfl, hQ, ⟨_, rfl⟩, hW, hsame.mono hc hs⟩
theorem own_retI (X : Stand p l e R s m args below meth c T locs cells slots) (hx : p.tables.exec = Jvm.exec) {pc : Nat} {Ls : Array Slot} {z : Int32} {t : FieldType} {rest : List Value} (hret : meth.sig.returnType = some t) (hlk : meth.locks = false) (hd : decode c.code pc = .ok (.ireturn, 1)) (hn : narrow t (.int z) = .int z)
    (ht : t = .int ∨ t = .boolean ∨ t = .byte ∨ t = .char ∨ t = .short) {Q : Option Value → Heap → List Loc → Prop} {kc kn : Nat} (hc : cells ≤ kc) (hs : slots ≤ kn) (hQ : Q (some (.int z)) T.heap locs) : own_Go p e below (own_End s Q kc kn) T (mkF m pc Ls (.int z :: rest)) :=
  own_ret X hx hret hlk hd hn (Or.inl ⟨rfl, ht, z, rfl⟩) hc hs hQ
theorem own_retA (X : Stand p l e R s m args below meth c T locs cells slots) (hx : p.tables.exec = Jvm.exec) {pc : Nat} {Ls : Array Slot} {w : Value} {t : FieldType} {rest : List Value} (hret : meth.sig.returnType = some t) (hlk : meth.locks = false) (hd : decode c.code pc = .ok (.areturn, 1)) (ht : t.isReference = true) (hw : w.isRef = true)
    {Q : Option Value → Heap → List Loc → Prop} {kc kn : Nat} (hc : cells ≤ kc) (hs : slots ≤ kn) (hQ : Q (some w) T.heap locs) : own_Go p e below (own_End s Q kc kn) T (mkF m pc Ls (w :: rest)) :=
  own_ret X hx hret hlk hd (by cases t <;> first | rfl | (cases w <;> rfl) | (simp [FieldType.isReference] at ht)) (Or.inr (Or.inr (Or.inr (Or.inr ⟨rfl, ht, hw⟩)))) hc hs hQ
theorem own_retV (X : Stand p l e R s m args below meth c T locs cells slots) (hx : p.tables.exec = Jvm.exec) {pc : Nat} {Ls : Array Slot} (hret : meth.sig.returnType = none) (hlk : meth.locks = false) (hd : decode c.code pc = .ok (.return_, 1))
    {Q : Option Value → Heap → List Loc → Prop} {kc kn : Nat} (hc : cells ≤ kc) (hs : slots ≤ kn) (hQ : Q none T.heap locs) : own_Go p e below (own_End s Q kc kn) T (mkF m pc Ls []) := by
  obtain ⟨fs, hr, hrun, hended, hW, hsame⟩ := X.leave (v := none) (fun _ => rfl) hlk
  exact ⟨_, _, X.returnOut hx hret hd hr, hrun, hended, _, _, rfl, hQ, ⟨_, rfl⟩, hW, hsame.mono hc hs⟩
section Og
variable {pc : Nat} {Ls : Array Slot} {st : List Value}
theorem og_iload (X : Stand p l e R s m args below meth c T locs cells slots) (hx : p.tables.exec = Jvm.exec) {k : Nat} {v : Int32} (hd : decode c.code pc = .ok (.iload k, 2)) (hl : Ls[k]? = some (.val (.int v))) (kk : own_Go p e below P T (mkF m (pc + 2) Ls (.int v :: st))) : own_Go p e below P T (mkF m pc Ls st) :=
  own_go (fun _ q => XS.iload X.here hx rfl hd hl q) kk
theorem og_iloadN (X : Stand p l e R s m args below meth c T locs cells slots) (hx : p.tables.exec = Jvm.exec) {k : Fin 4} {v : Int32} (hd : decode c.code pc = .ok (.iload_n k, 1)) (hl : Ls[k.val]? = some (.val (.int v))) (kk : own_Go p e below P T (mkF m (pc + 1) Ls (.int v :: st))) : own_Go p e below P T (mkF m pc Ls st) :=
  own_go (fun _ q => XS.iloadN X.here hx rfl hd hl q) kk
theorem og_aload (X : Stand p l e R s m args below meth c T locs cells slots) (hx : p.tables.exec = Jvm.exec) {k : Nat} {v : Value} (hd : decode c.code pc = .ok (.aload k, 2)) (hl : Ls[k]? = some (.val v)) (hv : v.isRef = true) (kk : own_Go p e below P T (mkF m (pc + 2) Ls (v :: st))) : own_Go p e below P T (mkF m pc Ls st) :=
  own_go (fun _ q => XS.aload X.here hx rfl hd hl hv q) kk
theorem og_aloadN (X : Stand p l e R s m args below meth c T locs cells slots) (hx : p.tables.exec = Jvm.exec) {k : Fin 4} {v : Value} (hd : decode c.code pc = .ok (.aload_n k, 1)) (hl : Ls[k.val]? = some (.val v)) (hv : v.isRef = true) (kk : own_Go p e below P T (mkF m (pc + 1) Ls (v :: st))) : own_Go p e below P T (mkF m pc Ls st) :=
  own_go (fun _ q => XS.aloadN X.here hx rfl hd hl hv q) kk
theorem og_lload (X : Stand p l e R s m args below meth c T locs cells slots) (hx : p.tables.exec = Jvm.exec) {k : Nat} {v : Int64} (hd : decode c.code pc = .ok (.lload k, 2)) (hl : Ls[k]? = some (.val (.long v))) (kk : own_Go p e below P T (mkF m (pc + 2) Ls (.long v :: st))) : own_Go p e below P T (mkF m pc Ls st) :=
  own_go (fun _ q => XS.lload X.here hx rfl hd hl q) kk
theorem og_lloadN (X : Stand p l e R s m args below meth c T locs cells slots) (hx : p.tables.exec = Jvm.exec) {k : Fin 4} {v : Int64} (hd : decode c.code pc = .ok (.lload_n k, 1)) (hl : Ls[k.val]? = some (.val (.long v))) (kk : own_Go p e below P T (mkF m (pc + 1) Ls (.long v :: st))) : own_Go p e below P T (mkF m pc Ls st) :=
  own_go (fun _ q => XS.lloadN X.here hx rfl hd hl q) kk
theorem og_istore (X : Stand p l e R s m args below meth c T locs cells slots) (hx : p.tables.exec = Jvm.exec) {k : Nat} {x : Int32} (l' : Array Slot) (hd : decode c.code pc = .ok (.istore k, 2)) (hl : storeLocals Ls k (.int x) = some l') (kk : own_Go p e below P T (mkF m (pc + 2) l' st)) : own_Go p e below P T (mkF m pc Ls (.int x :: st)) :=
  own_go (fun _ q => XS.istore X.here hx rfl hd rfl hl q) kk
theorem og_istoreN (X : Stand p l e R s m args below meth c T locs cells slots) (hx : p.tables.exec = Jvm.exec) {k : Fin 4} {x : Int32} (l' : Array Slot) (hd : decode c.code pc = .ok (.istore_n k, 1)) (hl : storeLocals Ls k.val (.int x) = some l') (kk : own_Go p e below P T (mkF m (pc + 1) l' st)) : own_Go p e below P T (mkF m pc Ls (.int x :: st)) :=
  own_go (fun _ q => XS.istoreN X.here hx rfl hd rfl hl q) kk
theorem og_lstore (X : Stand p l e R s m args below meth c T locs cells slots) (hx : p.tables.exec = Jvm.exec) {k : Nat} {x : Int64} (l' : Array Slot) (hd : decode c.code pc = .ok (.lstore k, 2)) (hl : storeLocals Ls k (.long x) = some l') (kk : own_Go p e below P T (mkF m (pc + 2) l' st)) : own_Go p e below P T (mkF m pc Ls (.long x :: st)) :=
  own_go (fun _ q => XS.lstore X.here hx rfl hd rfl hl q) kk
theorem og_lstoreN (X : Stand p l e R s m args below meth c T locs cells slots) (hx : p.tables.exec = Jvm.exec) {k : Fin 4} {x : Int64} (l' : Array Slot) (hd : decode c.code pc = .ok (.lstore_n k, 1)) (hl : storeLocals Ls k.val (.long x) = some l') (kk : own_Go p e below P T (mkF m (pc + 1) l' st)) : own_Go p e below P T (mkF m pc Ls (.long x :: st)) :=
  own_go (fun _ q => XS.lstoreN X.here hx rfl hd rfl hl q) kk
theorem og_astore (X : Stand p l e R s m args below meth c T locs cells slots) (hx : p.tables.exec = Jvm.exec) {k : Nat} {x : Value} (l' : Array Slot) (hd : decode c.code pc = .ok (.astore k, 2)) (hv : x.isRef = true) (hl : storeLocals Ls k x = some l') (kk : own_Go p e below P T (mkF m (pc + 2) l' st)) : own_Go p e below P T (mkF m pc Ls (x :: st)) :=
  own_go (fun _ q => XS.astore X.here hx rfl hd rfl hv hl q) kk
theorem og_astoreN (X : Stand p l e R s m args below meth c T locs cells slots) (hx : p.tables.exec = Jvm.exec) {k : Fin 4} {x : Value} (l' : Array Slot) (hd : decode c.code pc = .ok (.astore_n k, 1)) (hv : x.isRef = true) (hl : storeLocals Ls k.val x = some l') (kk : own_Go p e below P T (mkF m (pc + 1) l' st)) : own_Go p e below P T (mkF m pc Ls (x :: st)) :=
  own_go (fun _ q => XS.astoreN X.here hx rfl hd rfl hv hl q) kk
theorem og_iconst (X : Stand p l e R s m args below meth c T locs cells slots) (hx : p.tables.exec = Jvm.exec) {i : Int} (hd : decode c.code pc = .ok (.iconst i, 1)) (kk : own_Go p e below P T (mkF m (pc + 1) Ls (.int (Int32.ofInt i) :: st))) : own_Go p e below P T (mkF m pc Ls st) :=
  own_go (fun _ q => XS.iconst X.here hx rfl hd q) kk
theorem og_bipush (X : Stand p l e R s m args below meth c T locs cells slots) (hx : p.tables.exec = Jvm.exec) {i : Int} (hd : decode c.code pc = .ok (.bipush i, 2)) (kk : own_Go p e below P T (mkF m (pc + 2) Ls (.int (Int8.ofInt i).toInt32 :: st))) : own_Go p e below P T (mkF m pc Ls st) :=
  own_go (fun _ q => XS.bipush X.here hx rfl hd q) kk
theorem og_sipush (X : Stand p l e R s m args below meth c T locs cells slots) (hx : p.tables.exec = Jvm.exec) {i : Int} (hd : decode c.code pc = .ok (.sipush i, 3)) (kk : own_Go p e below P T (mkF m (pc + 3) Ls (.int (Int16.ofInt i).toInt32 :: st))) : own_Go p e below P T (mkF m pc Ls st) :=
  own_go (fun _ q => XS.sipush X.here hx rfl hd q) kk
theorem og_lconst (X : Stand p l e R s m args below meth c T locs cells slots) (hx : p.tables.exec = Jvm.exec) {k : Fin 2} (hd : decode c.code pc = .ok (.lconst k, 1)) (kk : own_Go p e below P T (mkF m (pc + 1) Ls (.long (Int64.ofNat k) :: st))) : own_Go p e below P T (mkF m pc Ls st) :=
  own_go (fun _ q => XS.lconst X.here hx rfl hd q) kk
theorem og_null (X : Stand p l e R s m args below meth c T locs cells slots) (hx : p.tables.exec = Jvm.exec) (hd : decode c.code pc = .ok (.aconst_null, 1)) (kk : own_Go p e below P T (mkF m (pc + 1) Ls (.null :: st))) : own_Go p e below P T (mkF m pc Ls st) :=
  own_go (fun _ q => XS.aconstNull X.here hx rfl hd q) kk
theorem og_iadd (X : Stand p l e R s m args below meth c T locs cells slots) (hx : p.tables.exec = Jvm.exec) {x y : Int32} (hd : decode c.code pc = .ok (.iadd, 1)) (kk : own_Go p e below P T (mkF m (pc + 1) Ls (.int (x + y) :: st))) : own_Go p e below P T (mkF m pc Ls (.int y :: .int x :: st)) :=
  own_go (fun _ q => XS.iadd X.here hx rfl hd rfl q) kk
theorem og_isub (X : Stand p l e R s m args below meth c T locs cells slots) (hx : p.tables.exec = Jvm.exec) {x y : Int32} (hd : decode c.code pc = .ok (.isub, 1)) (kk : own_Go p e below P T (mkF m (pc + 1) Ls (.int (x - y) :: st))) : own_Go p e below P T (mkF m pc Ls (.int y :: .int x :: st)) :=
  own_go (fun _ q => XS.isub X.here hx rfl hd rfl q) kk
theorem og_iand (X : Stand p l e R s m args below meth c T locs cells slots) (hx : p.tables.exec = Jvm.exec) {x y : Int32} (hd : decode c.code pc = .ok (.iand, 1)) (kk : own_Go p e below P T (mkF m (pc + 1) Ls (.int (x &&& y) :: st))) : own_Go p e below P T (mkF m pc Ls (.int y :: .int x :: st)) :=
  own_go (fun _ q => XS.iand X.here hx rfl hd rfl q) kk
theorem og_imul (X : Stand p l e R s m args below meth c T locs cells slots) (hx : p.tables.exec = Jvm.exec) {x y : Int32} (hd : decode c.code pc = .ok (.imul, 1)) (kk : own_Go p e below P T (mkF m (pc + 1) Ls (.int (x * y) :: st))) : own_Go p e below P T (mkF m pc Ls (.int y :: .int x :: st)) :=
  own_go (fun _ q => XS.imul X.here hx rfl hd rfl q) kk
theorem og_ior (X : Stand p l e R s m args below meth c T locs cells slots) (hx : p.tables.exec = Jvm.exec) {x y : Int32} (hd : decode c.code pc = .ok (.ior, 1)) (kk : own_Go p e below P T (mkF m (pc + 1) Ls (.int (x ||| y) :: st))) : own_Go p e below P T (mkF m pc Ls (.int y :: .int x :: st)) :=
  own_go (fun _ q => XS.ior X.here hx rfl hd rfl q) kk
theorem og_ixor (X : Stand p l e R s m args below meth c T locs cells slots) (hx : p.tables.exec = Jvm.exec) {x y : Int32} (hd : decode c.code pc = .ok (.ixor, 1)) (kk : own_Go p e below P T (mkF m (pc + 1) Ls (.int (x ^^^ y) :: st))) : own_Go p e below P T (mkF m pc Ls (.int y :: .int x :: st)) :=
  own_go (fun _ q => XS.ixor X.here hx rfl hd rfl q) kk
theorem og_dup (X : Stand p l e R s m args below meth c T locs cells slots) (hx : p.tables.exec = Jvm.exec) {x : Value} (hd : decode c.code pc = .ok (.dup, 1)) (hc : x.category = 1) (kk : own_Go p e below P T (mkF m (pc + 1) Ls (x :: x :: st))) : own_Go p e below P T (mkF m pc Ls (x :: st)) :=
  own_go (fun _ q => XS.dup X.here hx rfl hd rfl hc q) kk
theorem og_pop (X : Stand p l e R s m args below meth c T locs cells slots) (hx : p.tables.exec = Jvm.exec) {x : Value} (hd : decode c.code pc = .ok (.pop, 1)) (hc : x.category = 1) (kk : own_Go p e below P T (mkF m (pc + 1) Ls st)) : own_Go p e below P T (mkF m pc Ls (x :: st)) :=
  own_go (fun _ q => XS.pop X.here hx rfl hd rfl hc q) kk
theorem og_goto (X : Stand p l e R s m args below meth c T locs cells slots) (hx : p.tables.exec = Jvm.exec) {o : Int} (pc' : Nat) (hd : decode c.code pc = .ok (.goto o, 3)) (ho : 0 ≤ (pc : Int) + o) (hp : ((pc : Int) + o).toNat = pc') (kk : own_Go p e below P T (mkF m pc' Ls st)) : own_Go p e below P T (mkF m pc Ls st) :=
  own_go (fun _ q => XS.goto X.here hx rfl rfl hd ho hp q) kk
theorem og_ifN (X : Stand p l e R s m args below meth c T locs cells slots) (hx : p.tables.exec = Jvm.exec) {cd : ClassFile.Cond} {o : Int} {x : Int32} (hd : decode c.code pc = .ok (.ifCond cd o, 3)) (hc : if_icmp.holds cd x 0 = false) (kk : own_Go p e below P T (mkF m (pc + 3) Ls st)) : own_Go p e below P T (mkF m pc Ls (.int x :: st)) :=
  own_go (fun _ q => XS.ifNo X.here hx rfl hd rfl ((if0 _ _).trans hc) q) kk
theorem og_ifY (X : Stand p l e R s m args below meth c T locs cells slots) (hx : p.tables.exec = Jvm.exec) {cd : ClassFile.Cond} {o : Int} {x : Int32} (pc' : Nat) (hd : decode c.code pc = .ok (.ifCond cd o, 3)) (hc : if_icmp.holds cd x 0 = true) (ho : 0 ≤ (pc : Int) + o) (hp : ((pc : Int) + o).toNat = pc') (kk : own_Go p e below P T (mkF m pc' Ls st)) : own_Go p e below P T (mkF m pc Ls (.int x :: st)) :=
  own_go (fun _ q => XS.ifYes X.here hx rfl rfl hd rfl ((if0 _ _).trans hc) ho hp q) kk
theorem og_icN (X : Stand p l e R s m args below meth c T locs cells slots) (hx : p.tables.exec = Jvm.exec) {cd : ClassFile.Cond} {o : Int} {x y : Int32} (hd : decode c.code pc = .ok (.if_icmp cd o, 3)) (hc : if_icmp.holds cd x y = false) (kk : own_Go p e below P T (mkF m (pc + 3) Ls st)) : own_Go p e below P T (mkF m pc Ls (.int y :: .int x :: st)) :=
  own_go (fun _ q => XS.icmpNo X.here hx rfl hd rfl hc q) kk
theorem og_icY (X : Stand p l e R s m args below meth c T locs cells slots) (hx : p.tables.exec = Jvm.exec) {cd : ClassFile.Cond} {o : Int} {x y : Int32} (pc' : Nat) (hd : decode c.code pc = .ok (.if_icmp cd o, 3)) (hc : if_icmp.holds cd x y = true) (ho : 0 ≤ (pc : Int) + o) (hp : ((pc : Int) + o).toNat = pc') (kk : own_Go p e below P T (mkF m pc' Ls st)) : own_Go p e below P T (mkF m pc Ls (.int y :: .int x :: st)) :=
  own_go (fun _ q => XS.icmpYes X.here hx rfl rfl hd rfl hc ho hp q) kk
theorem og_ifnullY (X : Stand p l e R s m args below meth c T locs cells slots) (hx : p.tables.exec = Jvm.exec) {o : Int} (pc' : Nat) (hd : decode c.code pc = .ok (.ifnull o, 3)) (ho : 0 ≤ (pc : Int) + o) (hp : ((pc : Int) + o).toNat = pc') (kk : own_Go p e below P T (mkF m pc' Ls st)) : own_Go p e below P T (mkF m pc Ls (.null :: st)) :=
  own_go (fun _ q => XS.ifnullYes X.here hx rfl rfl hd rfl ho hp q) kk
theorem og_ifnullN (X : Stand p l e R s m args below meth c T locs cells slots) (hx : p.tables.exec = Jvm.exec) {b : Addr} {o : Int} (hd : decode c.code pc = .ok (.ifnull o, 3)) (kk : own_Go p e below P T (mkF m (pc + 3) Ls st)) : own_Go p e below P T (mkF m pc Ls (.ref b :: st)) :=
  own_go (fun _ q => XS.ifnullNo X.here hx rfl hd rfl q) kk
theorem og_ifnonnullY (X : Stand p l e R s m args below meth c T locs cells slots) (hx : p.tables.exec = Jvm.exec) {b : Addr} {o : Int} (pc' : Nat) (hd : decode c.code pc = .ok (.ifnonnull o, 3)) (ho : 0 ≤ (pc : Int) + o) (hp : ((pc : Int) + o).toNat = pc') (kk : own_Go p e below P T (mkF m pc' Ls st)) : own_Go p e below P T (mkF m pc Ls (.ref b :: st)) :=
  own_go (fun _ q => XS.ifnonnullYes X.here hx rfl rfl hd rfl ho hp q) kk
theorem og_ifnonnullN (X : Stand p l e R s m args below meth c T locs cells slots) (hx : p.tables.exec = Jvm.exec) {o : Int} (hd : decode c.code pc = .ok (.ifnonnull o, 3)) (kk : own_Go p e below P T (mkF m (pc + 3) Ls st)) : own_Go p e below P T (mkF m pc Ls (.null :: st)) :=
  own_go (fun _ q => XS.ifnonnullNo X.here hx rfl hd rfl q) kk
theorem og_getF (X : Stand p l e R s m args below meth c T locs cells slots) (hx : p.tables.exec = Jvm.exec) (hZ : Z.Warmed39 s.vm) {own R0 O n d : String} {index : Nat} (hown : s.vm.findClass own = some m.cls) (w : (Jvm.Cond.fieldLink own index R0 n d).before a0 Z = true) (via : Via Z R0 O n d) (eT : T.heap = h) {a : Addr} {v : Value} (F : Fld Z h a O n d v) (hd : decode c.code pc = .ok (.getfield index, 3))
    (kk : ∀ T', Stand p l e R s m args below meth c T' locs cells slots → T'.heap = h → own_Go p e below P T' (mkF m (pc + 3) Ls (v :: st))) : own_Go p e below P T (mkF m pc Ls (.ref a :: st)) := by
  obtain ⟨T', X', e', stp⟩ := getF X hx hZ hown (host := "") (Or.inl w) via eT F (g := mkF m pc Ls (.ref a :: st)) rfl rfl hd
  exact own_go stp (kk T' X' e')
theorem og_getS (X : Stand p l e R s m args below meth c T locs cells slots) (hx : p.tables.exec = Jvm.exec) (hZ : Z.Warmed39 s.vm) {own R0 O n d : String} {index : Nat} (hown : s.vm.findClass own = some m.cls) (w : (Jvm.Cond.fieldLink own index R0 n d).before a0 Z = true) (via : Via Z R0 O n d) (eT : T.heap = h) {v : Value} (F : Sta Z h O n d v) (hd : decode c.code pc = .ok (.getstatic index, 3))
    (kk : ∀ T', Stand p l e R s m args below meth c T' locs cells slots → T'.heap = h → own_Go p e below P T' (mkF m (pc + 3) Ls (v :: st))) : own_Go p e below P T (mkF m pc Ls st) := by
  obtain ⟨T', X', e', stp⟩ := getS2 X hx hZ hown (host := "") (Or.inl w) via eT F (g := mkF m pc Ls st) rfl hd
  exact own_go stp (kk T' X' e')
theorem og_ldcI (X : Stand p l e R s m args below meth c T locs cells slots) (hx : p.tables.exec = Jvm.exec) (hZ : Z.Warmed39 s.vm) {own : String} {index : Nat} {v : Int32} (hown : s.vm.findClass own = some m.cls) (w : (Jvm.Cond.constant own index v).before a0 Z = true) (hd : decode c.code pc = .ok (.ldc index, 2)) (kk : own_Go p e below P T (mkF m (pc + 2) Ls (.int v :: st))) : own_Go p e below P T (mkF m pc Ls st) :=
  own_go (fun _ q => X.ldcI hx hown (mvT hZ w) rfl hd q) kk
theorem og_iremM (X : Stand p l e R s m args below meth c T locs cells slots) (hx : p.tables.exec = Jvm.exec) {x y : Int32} (hd : decode c.code pc = .ok (.irem, 1)) (hy : y ≠ 0) (kk : own_Go p e below P T (mkF m (pc + 1) Ls (.int (x % y) :: st))) : own_Go p e below P T (mkF m pc Ls (.int y :: .int x :: st)) :=
  own_go (fun _ q => iremM X hx rfl hd rfl hy q) kk
theorem og_acmp (X : Stand p l e R s m args below meth c T locs cells slots) (hx : p.tables.exec = Jvm.exec) {cd : ACond} {x y : Value} {o : Int} {pc' : Nat} {same : Bool} (h1 : x.isRef = true) (h2 : y.isRef = true) (hd : decode c.code pc = .ok (.if_acmp cd o, 3)) (hq : decide (x = y) = same) (ho : 0 ≤ (pc : Int) + o) (hp : pc' = if acV cd same = true then ((pc : Int) + o).toNat else pc + 3)
    (kk : own_Go p e below P T (mkF m pc' Ls st)) : own_Go p e below P T (mkF m pc Ls (y :: x :: st)) :=
  own_go (fun _ q => Jvm.RoadKit.acmp (g := mkF m pc Ls (y :: x :: st)) X hx rfl h1 h2 rfl hd rfl hq ho hp q) kk
end Og
/-! the calls: by a Back (..B), or by a body's own contract -/
theorem own_callSB (X : Stand p l e R s m args below meth c T locs cells slots) (hx : p.tables.exec = Jvm.exec) (hZ : Z.Warmed39 s.vm) {own : String} {index : Nat} {y : MethodName} {bytes : ByteArray} {maxL : Nat} {ret : Option FieldType} (hown : s.vm.findClass own = some m.cls)
    (w1 : (Jvm.Cond.methodLink own index y).before a0 Z = true) (w2 : (Jvm.Cond.static y).before a0 Z = true) (w3 : (Jvm.Cond.initialized y.cls).before a0 Z = true) (w4 : (Jvm.Cond.code y bytes maxL ret).before a0 Z = true) (hy : y.cls ≠ "java/lang/invoke/MethodHandle" ∧ y.cls ≠ "java/lang/invoke/VarHandle")
    {argsL rest : List Value} {Q : Option Value → Heap → List Loc → Prop} {kc kn W : Nat} (hK : Back l R p e below s args y 3 W (fun A a => a = (argsL).toArray ∧ A.U.heap = h ∧ A.cells + kc ≤ R.cells ∧ A.slots + kn ≤ R.slots) (fun A _ v B => ∃ L, Q v B.U.heap L ∧ B.locs = A.locs ++ L ∧ B.cells = A.cells + kc ∧ B.slots = A.slots + kn)) (eT : T.heap = h) {pc : Nat} {Ls : Array Slot} {st : List Value} (hsize : Ls.size = c.maxLocals)
    (hlen : ∀ sig, parseMethodDescriptor y.desc = some sig → argsL.length = sig.parameters.length) (hstack : st = argsL.reverse ++ rest) (hd : decode c.code pc = .ok (.invokestatic index, 3)) (hW : (rest.map fun v => v.category).sum ≤ W) (hc : cells + kc ≤ R.cells) (hs : slots + kn ≤ R.slots)
    (k : ∀ (v : Option Value) (T' : State) (L : List Loc), Stand p l e R s m args below meth c T' (locs ++ L) (cells + kc) (slots + kn) → Q v T'.heap L → own_Go p e below P T' (mkF m (pc + 3) Ls (v.toList ++ rest))) : own_Go p e below P T (mkF m pc Ls st) := by
  obtain ⟨v, _, ⟨T', L', k', n'⟩, -, X', ⟨Lc, hQ, l1, y1, z1⟩, stp⟩ := Jvm.LawKit.callS X hx (y := y) hown (mvT hZ w1) (mvT hZ w2) (mvT hZ w3) (mvT hZ w4) hy hK (g := mkF m pc Ls st) rfl hsize (argsL := argsL) (rest := rest) hlen hstack (by show 2 * 0 + _ ≤ _; omega) hd (fun _ _ => ⟨rfl, eT, hc, hs⟩)
  dsimp only [Pt.U, Pt.locs, Pt.cells, Pt.slots] at X' l1 y1 z1 stp hQ
  subst l1 y1 z1
  exact own_go stp (k v T' Lc X' hQ)
theorem own_callS (X : Stand p l e R s m args below meth c T locs cells slots) (hx : p.tables.exec = Jvm.exec) (hZ : Z.Warmed39 s.vm) {own : String} {index : Nat} {y : MethodName} {bytes : ByteArray} {maxL : Nat} {ret : Option FieldType} (hown : s.vm.findClass own = some m.cls)
    (w1 : (Jvm.Cond.methodLink own index y).before a0 Z = true) (w2 : (Jvm.Cond.static y).before a0 Z = true) (w3 : (Jvm.Cond.initialized y.cls).before a0 Z = true) (w4 : (Jvm.Cond.code y bytes maxL ret).before a0 Z = true) (hy : y.cls ≠ "java/lang/invoke/MethodHandle" ∧ y.cls ≠ "java/lang/invoke/VarHandle")
    {argsL rest : List Value} {rm : Room} {Q : Option Value → Heap → List Loc → Prop} (hM : own_Met l Z y bytes maxL ret rm (argsL).toArray h Q) (eT : T.heap = h) {pc : Nat} {Ls : Array Slot} {st : List Value} (hsize : Ls.size = c.maxLocals)
    (hlen : ∀ sig, parseMethodDescriptor y.desc = some sig → argsL.length = sig.parameters.length) (hstack : st = argsL.reverse ++ rest) (hd : decode c.code pc = .ok (.invokestatic index, 3)) {W : Nat} (hW : (rest.map fun v => v.category).sum ≤ W) (h4 : rm.frames + 1 ≤ R.frames ∧ W + (maxL + 11) + rm.locals ≤ R.locals ∧ cells + rm.cells ≤ R.cells ∧ slots + rm.slots ≤ R.slots)
    (k : ∀ (v : Option Value) (T' : State) (L : List Loc), Stand p l e R s m args below meth c T' (locs ++ L) (cells + rm.cells) (slots + rm.slots) → Q v T'.heap L → own_Go p e below P T' (mkF m (pc + 3) Ls (v.toList ++ rest))) : own_Go p e below P T (mkF m pc Ls st) :=
  own_callSB X hx hZ hown w1 w2 w3 w4 hy (backOf (W := W) (hM []) hZ w4 w3 h4.1 h4.2.1) eT hsize hlen hstack hd hW h4.2.2.1 h4.2.2.2 k
theorem own_callVB (X : Stand p l e R s m args below meth c T locs cells slots) (hx : p.tables.exec = Jvm.exec) (hZ : Z.Warmed39 s.vm) {own C : String} {index : Nat} {y z : MethodName} {bytes : ByteArray} {maxL : Nat} {ret : Option FieldType} (hown : s.vm.findClass own = some m.cls)
    (w1 : (Jvm.Cond.methodLink own index y).before a0 Z = true) (w2 : (Jvm.Cond.declares y).before a0 Z = true) (nf : NotFace s y) (w3 : (Jvm.Cond.selects C y z).before a0 Z = true) (w4 : (Jvm.Cond.instanceMethod z).before a0 Z = true) (w5 : (Jvm.Cond.code z bytes maxL ret).before a0 Z = true) (w6 : (Jvm.Cond.initialized z.cls).before a0 Z = true) (hy : y.cls ≠ "java/lang/invoke/MethodHandle" ∧ y.cls ≠ "java/lang/invoke/VarHandle")
    {b : Addr} {argsL rest : List Value} {Q : Option Value → Heap → List Loc → Prop} {kc kn W : Nat} (hK : Back l R p e below s args z 3 W (fun A a => a = (.ref b :: argsL).toArray ∧ A.U.heap = h ∧ A.cells + kc ≤ R.cells ∧ A.slots + kn ≤ R.slots) (fun A _ v B => ∃ L, Q v B.U.heap L ∧ B.locs = A.locs ++ L ∧ B.cells = A.cells + kc ∧ B.slots = A.slots + kn)) (eT : T.heap = h) (E : Exa Z h b C) {pc : Nat} {Ls : Array Slot} {st : List Value} (hsize : Ls.size = c.maxLocals)
    (hlen : ∀ sig, parseMethodDescriptor y.desc = some sig → argsL.length = sig.parameters.length) (hstack : st = argsL.reverse ++ .ref b :: rest) (hd : decode c.code pc = .ok (.invokevirtual index, 3)) (hW : (rest.map fun v => v.category).sum ≤ W) (hc : cells + kc ≤ R.cells) (hs : slots + kn ≤ R.slots)
    (k : ∀ (v : Option Value) (T' : State) (L : List Loc), Stand p l e R s m args below meth c T' (locs ++ L) (cells + kc) (slots + kn) → Q v T'.heap L → own_Go p e below P T' (mkF m (pc + 3) Ls (v.toList ++ rest))) : own_Go p e below P T (mkF m pc Ls st) := by
  obtain ⟨cq, kq, qa, qb, qc⟩ := isOf hZ eT E
  obtain ⟨v, _, ⟨T', L', k', n'⟩, -, X', ⟨Lc, hQ, l1, y1, z1⟩, stp⟩ := X.virtualBack hx (y := y) (z := z) hown (mvT hZ w1) (mvT hZ w2) nf (mvT hZ w3) (mvT hZ w4) hy hK qa qc (g := mkF m pc Ls st) rfl hsize (Steps.refl _) (argsL := argsL) (rest := rest) hlen hstack (by show 2 * 0 + _ ≤ _; omega) hd (fun _ _ => ⟨rfl, eT, hc, hs⟩)
  dsimp only [Pt.U, Pt.locs, Pt.cells, Pt.slots] at X' l1 y1 z1 stp hQ
  subst l1 y1 z1
  exact own_go (fun _ q => stp.trans q) (k v T' Lc X' hQ)
theorem own_callV (X : Stand p l e R s m args below meth c T locs cells slots) (hx : p.tables.exec = Jvm.exec) (hZ : Z.Warmed39 s.vm) {own C : String} {index : Nat} {y z : MethodName} {bytes : ByteArray} {maxL : Nat} {ret : Option FieldType} (hown : s.vm.findClass own = some m.cls)
    (w1 : (Jvm.Cond.methodLink own index y).before a0 Z = true) (w2 : (Jvm.Cond.declares y).before a0 Z = true) (nf : NotFace s y) (w3 : (Jvm.Cond.selects C y z).before a0 Z = true) (w4 : (Jvm.Cond.instanceMethod z).before a0 Z = true) (w5 : (Jvm.Cond.code z bytes maxL ret).before a0 Z = true) (w6 : (Jvm.Cond.initialized z.cls).before a0 Z = true) (hy : y.cls ≠ "java/lang/invoke/MethodHandle" ∧ y.cls ≠ "java/lang/invoke/VarHandle")
    {b : Addr} {argsL rest : List Value} {rm : Room} {Q : Option Value → Heap → List Loc → Prop} (hM : own_Met l Z z bytes maxL ret rm (.ref b :: argsL).toArray h Q) (eT : T.heap = h) (E : Exa Z h b C) {pc : Nat} {Ls : Array Slot} {st : List Value} (hsize : Ls.size = c.maxLocals)
    (hlen : ∀ sig, parseMethodDescriptor y.desc = some sig → argsL.length = sig.parameters.length) (hstack : st = argsL.reverse ++ .ref b :: rest) (hd : decode c.code pc = .ok (.invokevirtual index, 3)) {W : Nat} (hW : (rest.map fun v => v.category).sum ≤ W) (h4 : rm.frames + 1 ≤ R.frames ∧ W + (maxL + 11) + rm.locals ≤ R.locals ∧ cells + rm.cells ≤ R.cells ∧ slots + rm.slots ≤ R.slots)
    (k : ∀ (v : Option Value) (T' : State) (L : List Loc), Stand p l e R s m args below meth c T' (locs ++ L) (cells + rm.cells) (slots + rm.slots) → Q v T'.heap L → own_Go p e below P T' (mkF m (pc + 3) Ls (v.toList ++ rest))) : own_Go p e below P T (mkF m pc Ls st) :=
  own_callVB X hx hZ hown w1 w2 nf w3 w4 w5 w6 hy (backOf (W := W) (hM []) hZ w5 w6 h4.1 h4.2.1) eT E hsize hlen hstack hd hW h4.2.2.1 h4.2.2.2 k
theorem own_callUB (X : Stand p l e R s m args below meth c T locs cells slots) (hx : p.tables.exec = Jvm.exec) (hZ : Z.Warmed39 s.vm) {own C owner : String} {index : Nat} {y z : MethodName} {bytes : ByteArray} {maxL : Nat} {ret : Option FieldType} (hown : s.vm.findClass own = some m.cls)
    (w1 : (Jvm.Cond.methodLink own index y).before a0 Z = true) (ws : (Jvm.Cond.sameMethod y.cls owner y.name y.desc).before a0 Z = true) (w2 : (Jvm.Cond.declares ⟨owner, y.name, y.desc⟩).before a0 Z = true) (ho : owner ≠ "java/lang/invoke/MethodHandle" ∧ owner ≠ "java/lang/invoke/VarHandle")
    (w3 : (Jvm.Cond.selects C y z).before a0 Z = true) (w4 : (Jvm.Cond.instanceMethod z).before a0 Z = true) (w5 : (Jvm.Cond.code z bytes maxL ret).before a0 Z = true) (w6 : (Jvm.Cond.initialized z.cls).before a0 Z = true)
    {b : Addr} {argsL rest : List Value} {Q : Option Value → Heap → List Loc → Prop} {kc kn W : Nat} (hK : Back l R p e below s args z 3 W (fun A a => a = (.ref b :: argsL).toArray ∧ A.U.heap = h ∧ A.cells + kc ≤ R.cells ∧ A.slots + kn ≤ R.slots) (fun A _ v B => ∃ L, Q v B.U.heap L ∧ B.locs = A.locs ++ L ∧ B.cells = A.cells + kc ∧ B.slots = A.slots + kn)) (eT : T.heap = h) (E : Exa Z h b C) {pc : Nat} {Ls : Array Slot} {st : List Value} (hsize : Ls.size = c.maxLocals)
    (hlen : ∀ sig, parseMethodDescriptor y.desc = some sig → argsL.length = sig.parameters.length) (hstack : st = argsL.reverse ++ .ref b :: rest) (hd : decode c.code pc = .ok (.invokevirtual index, 3)) (hW : (rest.map fun v => v.category).sum ≤ W) (hc : cells + kc ≤ R.cells) (hs : slots + kn ≤ R.slots)
    (k : ∀ (v : Option Value) (T' : State) (L : List Loc), Stand p l e R s m args below meth c T' (locs ++ L) (cells + kc) (slots + kn) → Q v T'.heap L → own_Go p e below P T' (mkF m (pc + 3) Ls (v.toList ++ rest))) : own_Go p e below P T (mkF m pc Ls st) := by
  obtain ⟨cq, kq, qa, qb, qc⟩ := isOf hZ eT E
  obtain ⟨v, _, ⟨T', L', k', n'⟩, -, X', ⟨Lc, hQ, l1, y1, z1⟩, stp⟩ := X.virtualBackUp hx (x := y) (y := z) (owner := owner) hown (mvT hZ w1) (mvT hZ ws) (mvT hZ w2) ho (mvT hZ w3) (mvT hZ w4) hK qa qc (g := mkF m pc Ls st) rfl hsize (Steps.refl _) (argsL := argsL) (rest := rest) hlen hstack (by show 2 * 0 + _ ≤ _; omega) hd (fun _ _ => ⟨rfl, eT, hc, hs⟩)
  dsimp only [Pt.U, Pt.locs, Pt.cells, Pt.slots] at X' l1 y1 z1 stp hQ
  subst l1 y1 z1
  exact own_go (fun _ q => stp.trans q) (k v T' Lc X' hQ)
theorem own_callU (X : Stand p l e R s m args below meth c T locs cells slots) (hx : p.tables.exec = Jvm.exec) (hZ : Z.Warmed39 s.vm) {own C owner : String} {index : Nat} {y z : MethodName} {bytes : ByteArray} {maxL : Nat} {ret : Option FieldType} (hown : s.vm.findClass own = some m.cls)
    (w1 : (Jvm.Cond.methodLink own index y).before a0 Z = true) (ws : (Jvm.Cond.sameMethod y.cls owner y.name y.desc).before a0 Z = true) (w2 : (Jvm.Cond.declares ⟨owner, y.name, y.desc⟩).before a0 Z = true) (ho : owner ≠ "java/lang/invoke/MethodHandle" ∧ owner ≠ "java/lang/invoke/VarHandle")
    (w3 : (Jvm.Cond.selects C y z).before a0 Z = true) (w4 : (Jvm.Cond.instanceMethod z).before a0 Z = true) (w5 : (Jvm.Cond.code z bytes maxL ret).before a0 Z = true) (w6 : (Jvm.Cond.initialized z.cls).before a0 Z = true)
    {b : Addr} {argsL rest : List Value} {rm : Room} {Q : Option Value → Heap → List Loc → Prop} (hM : own_Met l Z z bytes maxL ret rm (.ref b :: argsL).toArray h Q) (eT : T.heap = h) (E : Exa Z h b C) {pc : Nat} {Ls : Array Slot} {st : List Value} (hsize : Ls.size = c.maxLocals)
    (hlen : ∀ sig, parseMethodDescriptor y.desc = some sig → argsL.length = sig.parameters.length) (hstack : st = argsL.reverse ++ .ref b :: rest) (hd : decode c.code pc = .ok (.invokevirtual index, 3)) {W : Nat} (hW : (rest.map fun v => v.category).sum ≤ W) (h4 : rm.frames + 1 ≤ R.frames ∧ W + (maxL + 11) + rm.locals ≤ R.locals ∧ cells + rm.cells ≤ R.cells ∧ slots + rm.slots ≤ R.slots)
    (k : ∀ (v : Option Value) (T' : State) (L : List Loc), Stand p l e R s m args below meth c T' (locs ++ L) (cells + rm.cells) (slots + rm.slots) → Q v T'.heap L → own_Go p e below P T' (mkF m (pc + 3) Ls (v.toList ++ rest))) : own_Go p e below P T (mkF m pc Ls st) :=
  own_callUB X hx hZ hown w1 ws w2 ho w3 w4 w5 w6 (backOf (W := W) (hM []) hZ w5 w6 h4.1 h4.2.1) eT E hsize hlen hstack hd hW h4.2.2.1 h4.2.2.2 k
theorem own_callNB (X : Stand p l e R s m args below meth c T locs cells slots) (hx : p.tables.exec = Jvm.exec) (hZ : Z.Warmed39 s.vm) {own : String} {index : Nat} {y : MethodName} {bytes : ByteArray} {maxL : Nat} (hown : s.vm.findClass own = some m.cls)
    (w1 : (Jvm.Cond.methodLink own index y).before a0 Z = true) (w2 : (Jvm.Cond.instanceMethod y).before a0 Z = true) (w4 : (Jvm.Cond.code y bytes maxL none).before a0 Z = true) (w3 : (Jvm.Cond.initialized y.cls).before a0 Z = true) (hy : y.cls ≠ "java/lang/invoke/MethodHandle" ∧ y.cls ≠ "java/lang/invoke/VarHandle") (hn : y.name = "<init>")
    {b : Addr} {argsL rest : List Value} {Q : Option Value → Heap → List Loc → Prop} {kc kn W : Nat} (hK : Back l R p e below s args y 3 W (fun A a => a = (.ref b :: argsL).toArray ∧ A.U.heap = h ∧ A.cells + kc ≤ R.cells ∧ A.slots + kn ≤ R.slots) (fun A _ v B => ∃ L, Q v B.U.heap L ∧ B.locs = A.locs ++ L ∧ B.cells = A.cells + kc ∧ B.slots = A.slots + kn)) (eT : T.heap = h) {pc : Nat} {Ls : Array Slot} {st : List Value} (hsize : Ls.size = c.maxLocals)
    (hlen : ∀ sig, parseMethodDescriptor y.desc = some sig → argsL.length = sig.parameters.length) (hstack : st = argsL.reverse ++ .ref b :: rest) (hd : decode c.code pc = .ok (.invokespecial index, 3)) (hW : (rest.map fun v => v.category).sum ≤ W) (hc : cells + kc ≤ R.cells) (hs : slots + kn ≤ R.slots)
    (k : ∀ (v : Option Value) (T' : State) (L : List Loc), Stand p l e R s m args below meth c T' (locs ++ L) (cells + kc) (slots + kn) → Q v T'.heap L → own_Go p e below P T' (mkF m (pc + 3) Ls (v.toList ++ rest))) : own_Go p e below P T (mkF m pc Ls st) := by
  obtain ⟨v, _, ⟨T', L', k', n'⟩, -, X', ⟨Lc, hQ, l1, y1, z1⟩, stp⟩ := X.specialBack hx (y := y) hn hown (mvT hZ w1) (mvT hZ w2) (mvT hZ w4) hy hK (g := mkF m pc Ls st) rfl hsize (Steps.refl _) (a := b) (argsL := argsL) (rest := rest) hlen hstack (by show 2 * 0 + _ ≤ _; omega) hd (fun _ _ => ⟨rfl, eT, hc, hs⟩)
  dsimp only [Pt.U, Pt.locs, Pt.cells, Pt.slots] at X' l1 y1 z1 stp hQ
  subst l1 y1 z1
  exact own_go (fun _ q => stp.trans q) (k v T' Lc X' hQ)
theorem own_callN (X : Stand p l e R s m args below meth c T locs cells slots) (hx : p.tables.exec = Jvm.exec) (hZ : Z.Warmed39 s.vm) {own : String} {index : Nat} {y : MethodName} {bytes : ByteArray} {maxL : Nat} (hown : s.vm.findClass own = some m.cls)
    (w1 : (Jvm.Cond.methodLink own index y).before a0 Z = true) (w2 : (Jvm.Cond.instanceMethod y).before a0 Z = true) (w4 : (Jvm.Cond.code y bytes maxL none).before a0 Z = true) (w3 : (Jvm.Cond.initialized y.cls).before a0 Z = true) (hy : y.cls ≠ "java/lang/invoke/MethodHandle" ∧ y.cls ≠ "java/lang/invoke/VarHandle") (hn : y.name = "<init>")
    {b : Addr} {argsL rest : List Value} {rm : Room} {Q : Option Value → Heap → List Loc → Prop} (hM : own_Met l Z y bytes maxL none rm (.ref b :: argsL).toArray h Q) (eT : T.heap = h) {pc : Nat} {Ls : Array Slot} {st : List Value} (hsize : Ls.size = c.maxLocals)
    (hlen : ∀ sig, parseMethodDescriptor y.desc = some sig → argsL.length = sig.parameters.length) (hstack : st = argsL.reverse ++ .ref b :: rest) (hd : decode c.code pc = .ok (.invokespecial index, 3)) {W : Nat} (hW : (rest.map fun v => v.category).sum ≤ W) (h4 : rm.frames + 1 ≤ R.frames ∧ W + (maxL + 11) + rm.locals ≤ R.locals ∧ cells + rm.cells ≤ R.cells ∧ slots + rm.slots ≤ R.slots)
    (k : ∀ (v : Option Value) (T' : State) (L : List Loc), Stand p l e R s m args below meth c T' (locs ++ L) (cells + rm.cells) (slots + rm.slots) → Q v T'.heap L → own_Go p e below P T' (mkF m (pc + 3) Ls (v.toList ++ rest))) : own_Go p e below P T (mkF m pc Ls st) :=
  own_callNB X hx hZ hown w1 w2 w4 w3 hy hn (backOf (W := W) (hM []) hZ w4 w3 h4.1 h4.2.1) eT hsize hlen hstack hd hW h4.2.2.1 h4.2.2.2 k
/-- answers w, writes nothing old, leaves the heap as it was -/
def own_Qv (w : Option Value) (h0 : Heap) (n0 : Nat) (v : Option Value) (h : Heap) (L : List Loc) : Prop := v = w ∧ Fr n0 L ∧ h = h0
/-- the law's own: it answers 1 and writes nothing old -/
def own_Q1 (n0 : Nat) (v : Option Value) (h : Heap) (L : List Loc) : Prop := v = some (.int 1) ∧ Fr n0 L
theorem own_fldI {t : Term} {C n d : String} {a : Addr} {k : Int32} (ev : t.eval args Z none [] Z = some (.ref a)) (hx : (Jvm.Cond.eq (.field t C n d) (.int k)).value args Z none Z [] = some true) : Fld Z Z.heap a C n d (.int k) := by
  obtain ⟨x, y, h1, h2, k1, k2⟩ := cmp_v (Or.inl hx)
  have h2' : y = .int k := (Option.some.inj (h2.symm.trans (Term.int_eval k)))
  subst h2'
  obtain ⟨z, rfl⟩ : ∃ z, x = .int z := k2
  have hz : z = k := by simpa [Jvm.Cond.value, h1, h2] using hx
  subst hz
  exact Fld.start ((fld_at ev).symm.trans h1)
theorem own_fldN {t : Term} {C n d : String} {a : Addr} (ev : t.eval args Z none [] Z = some (.ref a)) (hx : (Jvm.Cond.eq (.field t C n d) .null).value args Z none Z [] = some true) : Fld Z Z.heap a C n d .null :=
  Fld.start ((fld_at ev).symm.trans (null_v hx))
theorem own_fldR {t : Term} {C n d : String} {a : Addr} (ev : t.eval args Z none [] Z = some (.ref a)) (hx : (Jvm.Cond.not (.eq (.field t C n d) .null)).value args Z none Z [] = some true) : ∃ b, Fld Z Z.heap a C n d (.ref b) := by
  obtain ⟨b, hb⟩ := nn_v (not_v hx)
  exact ⟨b, Fld.start ((fld_at ev).symm.trans hb)⟩
theorem own_fldX {t : Term} {C n d K : String} {a : Addr} (ev : t.eval args Z none [] Z = some (.ref a)) (hx : (Jvm.Cond.exactly (.field t C n d) K).value args Z none Z [] = some true) : ∃ b, (Term.field t C n d).eval args Z none [] Z = some (.ref b) ∧ Fld Z Z.heap a C n d (.ref b) ∧ Exa Z Z.heap b K := by
  obtain ⟨b, hb⟩ := exa_v hx
  exact ⟨b, hb, Fld.start ((fld_at ev).symm.trans hb), Exa.start hb hx⟩
theorem own_fldE {t t' : Term} {C n d : String} {a b : Addr} (ev : t.eval args Z none [] Z = some (.ref a)) (h2 : t'.eval args Z none [] Z = some (.ref b)) (hx : (Jvm.Cond.eq (.field t C n d) t').value args Z none Z [] = some true) : Fld Z Z.heap a C n d (.ref b) := by
  obtain ⟨x, y, h1, h2', k1, k2⟩ := cmp_v (Or.inl hx)
  cases h2.symm.trans h2'
  have k3 : x.isRef = true := k2.2
  have hz : x = .ref b := gotT (eq_R h1 h2 k3 rfl) hx
  subst hz
  exact Fld.start ((fld_at ev).symm.trans h1)
end Own
section Own2
variable {p : Program} {l : Launch} {e : Env} {R : Room} {s : State} {m : MethodId} {args : Array Value} {below : List Frame} {meth : Method} {c : Code} {T T' : State} {locs : List Loc} {cells slots : Nat} {Z : State} {a0 : Array Value} {h : Heap} {P : Outcome → State → Prop} {a b : Addr} {pc : Nat} {Ls : Array Slot} {rest : List Value} {k : ClassId} {ty : FieldType} {n j : Int32} {vs : List Value} {dv v : Value}
theorem own_oldle {n0 : Nat} (O : Old Z n0 h) : n0 ≤ h.size := O.1 ▸ O.2.1
theorem own_newR (X : Stand p l e R s m args below meth c T locs cells slots) (hx : p.tables.exec = Jvm.exec) (hZ : Z.Warmed39 s.vm) {own C : String} {index : Nat} (hown : s.vm.findClass own = some m.cls) (w1 : (Jvm.Cond.classLink own index C).before a0 Z = true) (w2 : (Jvm.Cond.arrayOver (.object C)).before a0 Z = true) (eT : T.heap = h)
    (hd : decode c.code pc = .ok (.anewarray index, 3)) (hn : ¬ n < 0) (cap : Nat) (hcap : n.toNatClampNeg ≤ cap) (hb : cap * 8 ≤ 536870912) (hc : cells + 1 ≤ R.cells) (hl : slots + cap ≤ R.slots)
    (kk : ∀ (T' : State) (h' : Heap) (cA : ClassId) (b : Addr), b = h.size → Stand p l e R s m args below meth c T' locs (cells + 1) (slots + cap) → T'.heap = h' → Ext h h' → Arv Z h' b cA (.object C) n (List.replicate cap .null) .null → Ovr Z cA C → own_Go p e below P T' (mkF m (pc + 3) Ls (.ref b :: rest))) :
    own_Go p e below P T (mkF m pc Ls (.int n :: rest)) := by
  obtain ⟨T', h', cA, X', e', E, A, O, st⟩ := newR X hx hZ hown w1 w2 eT (g := mkF m pc Ls (.int n :: rest)) rfl hd rfl hn hcap hb hc hl
  exact own_go st (kk T' h' cA _ rfl X' e' E ((Arv.new A hn).pad (pad_rep [] .null cap)) O)
theorem own_newP (X : Stand p l e R s m args below meth c T locs cells slots) (hx : p.tables.exec = Jvm.exec) (hZ : Z.Warmed39 s.vm) {aty : ArrayType} (w : (Jvm.Cond.arrayClass (newarray.typeOf aty)).before a0 Z = true) (eT : T.heap = h)
    (hd : decode c.code pc = .ok (.newarray aty, 2)) (hn : ¬ n < 0) (cap : Nat) (hcap : n.toNatClampNeg ≤ cap) (hb : cap * 8 ≤ 536870912) (hc : cells + 1 ≤ R.cells) (hl : slots + cap ≤ R.slots)
    (kk : ∀ (T' : State) (h' : Heap) (cA : ClassId) (b : Addr), b = h.size → Stand p l e R s m args below meth c T' locs (cells + 1) (slots + cap) → T'.heap = h' → Ext h h' → Arv Z h' b cA (newarray.typeOf aty) n (List.replicate cap (defaultValue (newarray.typeOf aty))) (defaultValue (newarray.typeOf aty)) → own_Go p e below P T' (mkF m (pc + 2) Ls (.ref b :: rest))) :
    own_Go p e below P T (mkF m pc Ls (.int n :: rest)) := by
  obtain ⟨T', h', cA, X', e', E, A, st⟩ := newP X hx hZ w eT (g := mkF m pc Ls (.int n :: rest)) rfl hd rfl hn hcap hb hc hl
  exact own_go st (kk T' h' cA _ rfl X' e' E ((Arv.new A hn).pad (pad_rep [] _ cap)))
theorem own_newO (X : Stand p l e R s m args below meth c T locs cells slots) (hx : p.tables.exec = Jvm.exec) (hZ : Z.Warmed39 s.vm) {own C : String} {index n : Nat} {st : List Value} (hown : s.vm.findClass own = some m.cls) (w : (Jvm.Cond.classLink own index C).before a0 Z = true) (wi : (Jvm.Cond.instantiable C n).before a0 Z = true) (wz : (Jvm.Cond.initialized C).before a0 Z = true) (eT : T.heap = h)
    (hd : decode c.code pc = .ok (.new index, 3)) (hc : cells + 1 ≤ R.cells) (hl : slots + n ≤ R.slots)
    (kk : ∀ (T' : State) (h' : Heap) (b : Addr), b = h.size → Stand p l e R s m args below meth c T' locs (cells + 1) (slots + n) → T'.heap = h' → Ext h h' → Exa Z h' b C → (∀ {O nm d : String} {ty : FieldType}, Laid Z a0 C O nm d → parseFieldDescriptor d = some ty → Fld Z h' b O nm d (defaultValue ty)) → own_Go p e below P T' (mkF m (pc + 3) Ls (.ref b :: st))) :
    own_Go p e below P T (mkF m pc Ls st) := by
  obtain ⟨T', h', X', e', E, A, D, -, stp⟩ := newO X hx hZ hown w wi wz eT (g := mkF m pc Ls st) rfl hd hc hl
  exact own_go stp (kk T' h' _ rfl X' e' E A (fun {_ _ _ _} q r => D q r))
theorem own_stR (X : Stand p l e R s m args below meth c T locs cells slots) (hx : p.tables.exec = Jvm.exec) (hZ : Z.Warmed39 s.vm) {C : String} {y : Addr} (eT : T.heap = h) (A : Arv Z h b k (.object C) n vs dv) (O : Ovr Z k C) (I : Ins Z h y C true) (hj : ¬ j < 0 ∧ j < n) (i : Nat) (hi : j.toNatClampNeg = i) (hil : i < vs.length)
    (hd : decode c.code pc = .ok (.aastore, 1))
    (kk : ∀ (T' : State) (h' : Heap), Stand p l e R s m args below meth c T' (locs ++ [⟨b, j.toNatClampNeg⟩]) cells slots → T'.heap = h' → Wr h h' b j.toNatClampNeg (.ref y) → Arv Z h' b k (.object C) n (vs.set i (.ref y)) dv → own_Go p e below P T' (mkF m (pc + 1) Ls rest)) :
    own_Go p e below P T (mkF m pc Ls (.ref y :: .int j :: .ref b :: rest)) := by
  obtain ⟨cl, A1, q1, S, q3, H, G⟩ := A
  obtain ⟨T', h', X', e', W, st⟩ := stR X hx hZ eT A1 (j := j) (v := .ref y) (inb_of S hj) rfl (Sto.ofV A1 q1 O I) (g := mkF m pc Ls (.ref y :: .int j :: .ref b :: rest)) rfl rfl hd
  exact own_go st (kk T' h' X' e' W (Arv.set A1 q1 S q3 H G rfl W i hi hil))
theorem own_stC (X : Stand p l e R s m args below meth c T locs cells slots) (hx : p.tables.exec = Jvm.exec) (hZ : Z.Warmed39 s.vm) {x : Int32} (eT : T.heap = h) (A : Arv Z h b k .char n vs dv) (hj : ¬ j < 0 ∧ j < n) (i : Nat) (hi : j.toNatClampNeg = i) (hil : i < vs.length) (hd : decode c.code pc = .ok (.castore, 1))
    (kk : ∀ (T' : State) (h' : Heap), Stand p l e R s m args below meth c T' (locs ++ [⟨b, j.toNatClampNeg⟩]) cells slots → T'.heap = h' → Wr h h' b j.toNatClampNeg (.int (nar .char x)) → Arv Z h' b k .char n (vs.set i (.int (nar .char x))) dv → own_Go p e below P T' (mkF m (pc + 1) Ls rest)) :
    own_Go p e below P T (mkF m pc Ls (.int x :: .int j :: .ref b :: rest)) := by
  obtain ⟨cl, A1, q1, S, q3, H, G⟩ := A
  obtain ⟨T', h', X', e', W, st⟩ := stC X hx hZ eT A1 (j := j) (x := x) (inb_of S hj) (g := mkF m pc Ls (.int x :: .int j :: .ref b :: rest)) rfl rfl hd
  exact own_go st (kk T' h' X' e' W (Arv.set A1 q1 S q3 H G (fits_nar_char _) W i hi hil))
theorem own_stI (X : Stand p l e R s m args below meth c T locs cells slots) (hx : p.tables.exec = Jvm.exec) (hZ : Z.Warmed39 s.vm) {x : Int32} (eT : T.heap = h) (A : Arv Z h b k .int n vs dv) (hj : ¬ j < 0 ∧ j < n) (i : Nat) (hi : j.toNatClampNeg = i) (hil : i < vs.length) (hd : decode c.code pc = .ok (.iastore, 1))
    (kk : ∀ (T' : State) (h' : Heap), Stand p l e R s m args below meth c T' (locs ++ [⟨b, j.toNatClampNeg⟩]) cells slots → T'.heap = h' → Wr h h' b j.toNatClampNeg (.int x) → Arv Z h' b k .int n (vs.set i (.int x)) dv → own_Go p e below P T' (mkF m (pc + 1) Ls rest)) :
    own_Go p e below P T (mkF m pc Ls (.int x :: .int j :: .ref b :: rest)) := by
  obtain ⟨cl, A1, q1, S, q3, H, G⟩ := A
  obtain ⟨T', h', X', e', W, st⟩ := stI X hx hZ eT A1 (j := j) (x := x) (inb_of S hj) (g := mkF m pc Ls (.int x :: .int j :: .ref b :: rest)) rfl rfl hd
  exact own_go st (kk T' h' X' e' W (Arv.set A1 q1 S q3 H G rfl W i hi hil))
theorem own_stB (X : Stand p l e R s m args below meth c T locs cells slots) (hx : p.tables.exec = Jvm.exec) (hZ : Z.Warmed39 s.vm) {x : Int32} (eT : T.heap = h) (A : Arv Z h b k .byte n vs dv) (hj : ¬ j < 0 ∧ j < n) (i : Nat) (hi : j.toNatClampNeg = i) (hil : i < vs.length) (hd : decode c.code pc = .ok (.bastore, 1))
    (kk : ∀ (T' : State) (h' : Heap), Stand p l e R s m args below meth c T' (locs ++ [⟨b, j.toNatClampNeg⟩]) cells slots → T'.heap = h' → Wr h h' b j.toNatClampNeg (.int (nar .byte x)) → Arv Z h' b k .byte n (vs.set i (.int (nar .byte x))) dv → own_Go p e below P T' (mkF m (pc + 1) Ls rest)) :
    own_Go p e below P T (mkF m pc Ls (.int x :: .int j :: .ref b :: rest)) := by
  obtain ⟨cl, A1, q1, S, q3, H, G⟩ := A
  obtain ⟨T', h', X', e', W, st⟩ := stB X hx hZ eT A1 (j := j) (x := x) (inb_of S hj) (g := mkF m pc Ls (.int x :: .int j :: .ref b :: rest)) rfl rfl hd
  exact own_go st (kk T' h' X' e' W (Arv.set A1 q1 S q3 H G (fits_nar_byte _) W i hi hil))
theorem own_ldA (X : Stand p l e R s m args below meth c T locs cells slots) (hx : p.tables.exec = Jvm.exec) (hZ : Z.Warmed39 s.vm) (eT : T.heap = h) (A : Arv Z h b k ty n vs dv) (hty : ty.isReference = true) (hj : ¬ j < 0 ∧ j < n) (hv : vs.getD j.toNatClampNeg dv = v) (hd : decode c.code pc = .ok (.aaload, 1))
    (kk : own_Go p e below P T (mkF m (pc + 1) Ls (v :: rest))) : own_Go p e below P T (mkF m pc Ls (.int j :: .ref b :: rest)) := by
  obtain ⟨cl, A1, q1, S, q3, H, G⟩ := A
  exact own_go (X.aaload hx (j := j) (v := v) (by rw [eT]; exact A1.1) (State.isArrayOf_alike hZ.alike A1.2.1) hty A1.2.2 (inb_of S hj) (H.at (inb_of S hj) hv) (g := mkF m pc Ls (.int j :: .ref b :: rest)) rfl rfl hd) kk
theorem own_ldC (X : Stand p l e R s m args below meth c T locs cells slots) (hx : p.tables.exec = Jvm.exec) (hZ : Z.Warmed39 s.vm) (eT : T.heap = h) (A : Arv Z h b k .char n vs dv) (hj : ¬ j < 0 ∧ j < n) (hv : vs.getD j.toNatClampNeg dv = v) (hd : decode c.code pc = .ok (.caload, 1))
    (kk : own_Go p e below P T (mkF m (pc + 1) Ls (v :: rest))) : own_Go p e below P T (mkF m pc Ls (.int j :: .ref b :: rest)) := by
  obtain ⟨cl, A1, q1, S, q3, H, G⟩ := A
  exact own_go (X.caload hx (j := j) (v := v) (by rw [eT]; exact A1.1) (State.isArrayOf_alike hZ.alike A1.2.1) A1.2.2 (inb_of S hj) (H.at (inb_of S hj) hv) (g := mkF m pc Ls (.int j :: .ref b :: rest)) rfl rfl hd) kk
theorem own_ldB (X : Stand p l e R s m args below meth c T locs cells slots) (hx : p.tables.exec = Jvm.exec) (hZ : Z.Warmed39 s.vm) (eT : T.heap = h) (A : Arv Z h b k .byte n vs dv) (hj : ¬ j < 0 ∧ j < n) (hv : vs.getD j.toNatClampNeg dv = v) (hd : decode c.code pc = .ok (.baload, 1))
    (kk : own_Go p e below P T (mkF m (pc + 1) Ls (v :: rest))) : own_Go p e below P T (mkF m pc Ls (.int j :: .ref b :: rest)) := by
  obtain ⟨cl, A1, q1, S, q3, H, G⟩ := A
  exact own_go (X.baloadBytes hx (j := j) (v := v) (by rw [eT]; exact A1.1) (State.isArrayOf_alike hZ.alike A1.2.1) A1.2.2 (inb_of S hj) (H.at (inb_of S hj) hv) (g := mkF m pc Ls (.int j :: .ref b :: rest)) rfl rfl hd) kk
theorem own_ldI (X : Stand p l e R s m args below meth c T locs cells slots) (hx : p.tables.exec = Jvm.exec) (hZ : Z.Warmed39 s.vm) (eT : T.heap = h) (A : Arv Z h b k .int n vs dv) (hj : ¬ j < 0 ∧ j < n) (hv : vs.getD j.toNatClampNeg dv = v) (hd : decode c.code pc = .ok (.iaload, 1))
    (kk : own_Go p e below P T (mkF m (pc + 1) Ls (v :: rest))) : own_Go p e below P T (mkF m pc Ls (.int j :: .ref b :: rest)) := by
  obtain ⟨cl, A1, q1, S, q3, H, G⟩ := A
  exact own_go (X.iaload hx (j := j) (v := v) (by rw [eT]; exact A1.1) (State.isArrayOf_alike hZ.alike A1.2.1) A1.2.2 (inb_of S hj) (H.at (inb_of S hj) hv) (g := mkF m pc Ls (.int j :: .ref b :: rest)) rfl rfl hd) kk
theorem own_len (X : Stand p l e R s m args below meth c T locs cells slots) (hx : p.tables.exec = Jvm.exec) (hZ : Z.Warmed39 s.vm) (eT : T.heap = h) (A : Arv Z h b k ty n vs dv) (hd : decode c.code pc = .ok (.arraylength, 1))
    (kk : own_Go p e below P T (mkF m (pc + 1) Ls (.int n :: rest))) : own_Go p e below P T (mkF m pc Ls (.ref b :: rest)) := by
  obtain ⟨cl, A1, q1, S, q3, H, G⟩ := A
  refine own_go (X.arraylength hx (by rw [eT]; exact A1.1) (State.isArrayOf_alike hZ.alike A1.2.1) (g := mkF m pc Ls (.ref b :: rest)) rfl rfl hd) ?_
  rw [len_of S q3]
  exact kk
end Own2
section Own3
variable {p : Program} {l : Launch} {e : Env} {R : Room} {s : State} {vm0 : Vm} {m : MethodId} {args : Array Value} {below : List Frame} {meth : Method} {c : Code} {T T' : State} {locs : List Loc} {cells slots : Nat} {Z : State} {a0 : Array Value} {h : Heap} {P : Outcome → State → Prop} {a b : Addr} {pc : Nat} {Ls : Array Slot} {rest st : List Value}
/-- as own_End, where String constants may have been booked -/
def own_EndW (s : State) (Q : Option Value → Heap → List Loc → Prop) (k n : Nat) (o : Outcome) (t : State) : Prop := ∃ v L, o = .returned v ∧ Q v t.heap L ∧ ReturnedEndW s o t L k n
def own_MetW (l : Launch) (Z : State) (y : MethodName) (bytes : ByteArray) (maxL : Nat) (ret : Option FieldType) (rm : Room) (as' : Array Value) (h0 : Heap) (Q : Option Value → Heap → List Loc → Prop) : Prop :=
  ∀ ws : List Jvm.Cond, MetFree l y (head1 (Jvm.Cond.code y bytes maxL ret :: ws) rm) (fun a U => a = as' ∧ Z.Warmed39 U.vm ∧ U.heap = h0) (fun _ _ _ _ _ => True) (fun _ U o U' => ∃ v L, o = .returned v ∧ Q v U'.heap L ∧ ReturnedEndW U o U' L rm.cells rm.slots)
theorem own_bodyW {y : MethodName} {bytes : ByteArray} {maxL : Nat} {ret : Option FieldType} {rm : Room} {as' : Array Value} {h0 : Heap} {Q : Option Value → Heap → List Loc → Prop} (hp : plainFor y = true)
    (k : ∀ (p : Program) (e : Env) (s : State) (m : MethodId) (below : List Frame) (meth : Method) (c : Code) (T : State), Stand p l e rm (s.setVm s.vm) m as' below meth c T [] 0 0 → p.tables.exec = Jvm.exec → Z.Warmed39 (s.setVm s.vm).vm → c.code = bytes → c.maxLocals = maxL → (s.setVm s.vm).vm.findClass y.cls = some m.cls → meth.name = y.name →
      meth.sig.returnType = ret → meth.locks = false → T.heap = h0 → s.Since s.vm h0.size → h0.size ≤ h0.size → s.heap = h0 → own_Go p e below (own_EndW s Q rm.cells rm.slots) T (entryFrame m as' maxL)) : own_MetW l Z y bytes maxL ret rm as' h0 Q := by
  intro ws
  refine MetFree.of_bodySF hp hisR ?_
  intro p e s m args below meth c s₁ Bd hml0 hP hK
  obtain ⟨rfl, hZ, hh⟩ := hP
  exact k p e s m below meth c s₁ (Stand.of_body Bd) Bd.exec hZ Bd.bytes hml0 (findClass_of_methodNamed Bd.named) (name_of_methodNamed Bd.named Bd.method).1 Bd.returns Bd.notSynchronized (by rw [← hh, Bd.state]; rfl) ((State.WarmedH.refl s).since _) (Nat.le_refl _) hh
theorem own_retW (X : Stand p l e R (s.setVm vm0) m args below meth c T locs cells slots) (hx : p.tables.exec = Jvm.exec) {w : Value} {t : FieldType} {i : Instr} (hret : meth.sig.returnType = some t) (hlk : meth.locks = false) (hd : decode c.code pc = .ok (i, 1)) (hn : narrow t w = w)
    (hi : (i = .ireturn ∧ (t = .int ∨ t = .boolean ∨ t = .byte ∨ t = .char ∨ t = .short) ∧ ∃ z, w = .int z) ∨ (i = .lreturn ∧ t = .long ∧ ∃ z, w = .long z) ∨ (i = .dreturn ∧ t = .double ∧ ∃ z, w = .double z) ∨ (i = .freturn ∧ t = .float ∧ ∃ z, w = .float z) ∨ (i = .areturn ∧ t.isReference = true ∧ w.isRef = true))
    {n : Nat} (hS : s.Since vm0 n) (hk : n ≤ T.heap.size) {Q : Option Value → Heap → List Loc → Prop} {kc kn : Nat} (hc : cells ≤ kc) (hs : slots ≤ kn) (hQ : Q (some w) T.heap locs) : own_Go p e below (own_EndW s Q kc kn) T (mkF m pc Ls (w :: rest)) := by
  obtain ⟨fs, hr, hrun, hended, hE⟩ := X.leaveW hS hk (v := some w) (fun h => by rw [hret] at h; cases h) hlk
  exact ⟨_, _, retOut X hx hret hn hi hd hr, hrun, hended, _, _, rfl, hQ, hE.1, hE.2.1, hE.2.2.1, hE.2.2.2.mono hc hs⟩
theorem own_retIW (X : Stand p l e R (s.setVm vm0) m args below meth c T locs cells slots) (hx : p.tables.exec = Jvm.exec) {z : Int32} {t : FieldType} (hret : meth.sig.returnType = some t) (hlk : meth.locks = false) (hd : decode c.code pc = .ok (.ireturn, 1)) (hn : narrow t (.int z) = .int z)
    (ht : t = .int ∨ t = .boolean ∨ t = .byte ∨ t = .char ∨ t = .short) {n : Nat} (hS : s.Since vm0 n) (hk : n ≤ T.heap.size) {Q : Option Value → Heap → List Loc → Prop} {kc kn : Nat} (hc : cells ≤ kc) (hs : slots ≤ kn) (hQ : Q (some (.int z)) T.heap locs) : own_Go p e below (own_EndW s Q kc kn) T (mkF m pc Ls (.int z :: rest)) :=
  own_retW X hx hret hlk hd hn (Or.inl ⟨rfl, ht, z, rfl⟩) hS hk hc hs hQ
theorem own_retAW (X : Stand p l e R (s.setVm vm0) m args below meth c T locs cells slots) (hx : p.tables.exec = Jvm.exec) {w : Value} {t : FieldType} (hret : meth.sig.returnType = some t) (hlk : meth.locks = false) (hd : decode c.code pc = .ok (.areturn, 1)) (ht : t.isReference = true) (hw : w.isRef = true)
    {n : Nat} (hS : s.Since vm0 n) (hk : n ≤ T.heap.size) {Q : Option Value → Heap → List Loc → Prop} {kc kn : Nat} (hc : cells ≤ kc) (hs : slots ≤ kn) (hQ : Q (some w) T.heap locs) : own_Go p e below (own_EndW s Q kc kn) T (mkF m pc Ls (w :: rest)) :=
  own_retW X hx hret hlk hd (by cases t <;> first | rfl | (cases w <;> rfl) | (simp [FieldType.isReference] at ht)) (Or.inr (Or.inr (Or.inr (Or.inr ⟨rfl, ht, hw⟩)))) hS hk hc hs hQ
theorem own_retVW (X : Stand p l e R (s.setVm vm0) m args below meth c T locs cells slots) (hx : p.tables.exec = Jvm.exec) (hret : meth.sig.returnType = none) (hlk : meth.locks = false) (hd : decode c.code pc = .ok (.return_, 1))
    {n : Nat} (hS : s.Since vm0 n) (hk : n ≤ T.heap.size) {Q : Option Value → Heap → List Loc → Prop} {kc kn : Nat} (hc : cells ≤ kc) (hs : slots ≤ kn) (hQ : Q none T.heap locs) : own_Go p e below (own_EndW s Q kc kn) T (mkF m pc Ls []) := by
  obtain ⟨fs, hr, hrun, hended, hE⟩ := X.leaveW hS hk (v := none) (fun _ => rfl) hlk
  exact ⟨_, _, X.returnOut hx hret hd hr, hrun, hended, _, _, rfl, hQ, hE.1, hE.2.1, hE.2.2.1, hE.2.2.2.mono hc hs⟩
/-- a String constant of which nothing is said but its place -/
theorem own_ldcS (X : Stand p l e R (s.setVm vm0) m args below meth c T locs cells slots) (hx : p.tables.exec = Jvm.exec) (hZ : Z.Warmed39 vm0) {own text : String} {index : Nat} (hown : vm0.findClass own = some m.cls) (w : (Jvm.Cond.stringLink own index text).before a0 Z = true) (wS : ∀ a ∈ Bundle.stringAtoms, a.before a0 Z = true)
    (eT : T.heap = h) {k0 : Nat} (hS : s.Since vm0 k0) (hk : k0 ≤ h.size) (hd : decode c.code pc = .ok (.ldc index, 2)) (n : Nat) (hn : 4 * text.toList.length ≤ n) (hbig : n ≤ 536870912) (hc : cells + 2 ≤ R.cells) (hl : slots + (n + 4) ≤ R.slots)
    (kk : ∀ (a : Addr) (T' : State) (h' : Heap) (k1 : Nat), Stand p l e R (s.setVm T'.vm) m args below meth c T' locs (cells + 2) (slots + (n + 4)) → T'.heap = h' → Ext h h' → s.Since T'.vm k1 → k1 ≤ h'.size → Z.Warmed39 (s.setVm T'.vm).vm → (s.setVm T'.vm).vm.findClass own = some m.cls → own_Go p e below P T' (mkF m (pc + 2) Ls (.ref a :: st))) :
    own_Go p e below P T (mkF m pc Ls st) := by
  obtain ⟨a, T', h', k1, X', e', E, S', hk', hZ', hown', stp⟩ := ldcS X hx hZ hown w wS eT hS hk (g := mkF m pc Ls st) rfl hd hn hbig hc hl
  exact own_go stp (kk a T' h' k1 X' e' E S' hk' hZ' hown')
end Own3
section Own4
variable {p : Program} {l : Launch} {e : Env} {R : Room} {s : State} {vm0 : Vm} {m : MethodId} {args : Array Value} {below : List Frame} {meth : Method} {c : Code} {T T' : State} {locs : List Loc} {cells slots : Nat} {Z : State} {a0 : Array Value} {h h0 : Heap} {P : Outcome → State → Prop} {a b : Addr} {pc : Nat} {Ls : Array Slot} {rest st : List Value} {EL : List (String × Nat)}
/-- as own_EndW; what the constants of EL hold is still known -/
def own_EndH (Z : State) (EL : List (String × Nat)) (s : State) (h0 : Heap) (Q : Option Value → Heap → List Loc → Prop) (k n : Nat) (o : Outcome) (t : State) : Prop := ∃ v L, o = .returned v ∧ Q v t.heap L ∧ CHr Z EL s.vm h0 t.vm t.heap ∧ ReturnedEndW s o t L k n
def own_MetH (l : Launch) (Z : State) (EL : List (String × Nat)) (y : MethodName) (bytes : ByteArray) (maxL : Nat) (ret : Option FieldType) (rm : Room) (as' : Array Value) (h0 : Heap) (Q : Option Value → Heap → List Loc → Prop) : Prop :=
  ∀ ws : List Jvm.Cond, MetFree l y (head1 (Jvm.Cond.code y bytes maxL ret :: ws) rm) (fun a U => a = as' ∧ Z.Warmed39 U.vm ∧ U.heap = h0 ∧ CHv Z EL U.vm h0) (fun _ _ _ _ _ => True) (fun _ U o U' => ∃ v L, o = .returned v ∧ Q v U'.heap L ∧ CHr Z EL U.vm U.heap U'.vm U'.heap ∧ ReturnedEndW U o U' L rm.cells rm.slots)
theorem own_bodyH {y : MethodName} {bytes : ByteArray} {maxL : Nat} {ret : Option FieldType} {rm : Room} {as' : Array Value} {Q : Option Value → Heap → List Loc → Prop} (hp : plainFor y = true)
    (k : ∀ (p : Program) (e : Env) (s : State) (m : MethodId) (below : List Frame) (meth : Method) (c : Code) (T : State), Stand p l e rm (s.setVm s.vm) m as' below meth c T [] 0 0 → p.tables.exec = Jvm.exec → Z.Warmed39 (s.setVm s.vm).vm → c.code = bytes → c.maxLocals = maxL → (s.setVm s.vm).vm.findClass y.cls = some m.cls → meth.name = y.name →
      meth.sig.returnType = ret → meth.locks = false → T.heap = h0 → s.Since s.vm h0.size → h0.size ≤ h0.size → CHr Z EL s.vm h0 s.vm h0 → own_Go p e below (own_EndH Z EL s h0 Q rm.cells rm.slots) T (entryFrame m as' maxL)) : own_MetH l Z EL y bytes maxL ret rm as' h0 Q := by
  intro ws
  refine MetFree.of_bodySF hp hisR ?_
  intro p e s m args below meth c s₁ Bd hml0 hP hK
  obtain ⟨rfl, hZ, hh, hC⟩ := hP
  obtain ⟨s₂, o, q1, q2, q3, v, L, q4, q5, q6, q7⟩ := k p e s m below meth c s₁ (Stand.of_body Bd) Bd.exec hZ Bd.bytes hml0 (findClass_of_methodNamed Bd.named) (name_of_methodNamed Bd.named Bd.method).1 Bd.returns Bd.notSynchronized (by rw [← hh, Bd.state]; rfl) ((State.WarmedH.refl s).since _) (Nat.le_refl _) (CHr.refl hC)
  exact ⟨s₂, o, q1, q2, q3, v, L, q4, q5, by rw [hh]; exact q6, q7⟩
theorem own_retH (X : Stand p l e R (s.setVm vm0) m args below meth c T locs cells slots) (hx : p.tables.exec = Jvm.exec) {w : Value} {t : FieldType} {i : Instr} (hret : meth.sig.returnType = some t) (hlk : meth.locks = false) (hd : decode c.code pc = .ok (i, 1)) (hn : narrow t w = w)
    (hi : (i = .ireturn ∧ (t = .int ∨ t = .boolean ∨ t = .byte ∨ t = .char ∨ t = .short) ∧ ∃ z, w = .int z) ∨ (i = .lreturn ∧ t = .long ∧ ∃ z, w = .long z) ∨ (i = .dreturn ∧ t = .double ∧ ∃ z, w = .double z) ∨ (i = .freturn ∧ t = .float ∧ ∃ z, w = .float z) ∨ (i = .areturn ∧ t.isReference = true ∧ w.isRef = true))
    (hZ : Z.Warmed39 vm0) (hEL : EW Z a0 EL) (hC : CHr Z EL s.vm h0 vm0 h) (eT : T.heap = h) {n : Nat} (hS : s.Since vm0 n) (hk : n ≤ h.size) {Q : Option Value → Heap → List Loc → Prop} {kc kn : Nat} (hc : cells ≤ kc) (hs : slots ≤ kn) (hQ : Q (some w) T.heap locs) : own_Go p e below (own_EndH Z EL s h0 Q kc kn) T (mkF m pc Ls (w :: rest)) := by
  subst eT
  obtain ⟨fs, hr, hrun, hended, hE⟩ := X.leaveW hS hk (v := some w) (fun h => by rw [hret] at h; cases h) hlk
  exact ⟨_, _, retOut X hx hret hn hi hd hr, hrun, hended, _, _, rfl, hQ, hC.trans (show CHr Z EL vm0 T.heap T.vm T.heap from CHv.at X hZ hEL hC.1), hE.1, hE.2.1, hE.2.2.1, hE.2.2.2.mono hc hs⟩
theorem own_retIH (X : Stand p l e R (s.setVm vm0) m args below meth c T locs cells slots) (hx : p.tables.exec = Jvm.exec) {z : Int32} {t : FieldType} (hret : meth.sig.returnType = some t) (hlk : meth.locks = false) (hd : decode c.code pc = .ok (.ireturn, 1)) (hn : narrow t (.int z) = .int z)
    (ht : t = .int ∨ t = .boolean ∨ t = .byte ∨ t = .char ∨ t = .short) (hZ : Z.Warmed39 vm0) (hEL : EW Z a0 EL) (hC : CHr Z EL s.vm h0 vm0 h) (eT : T.heap = h) {n : Nat} (hS : s.Since vm0 n) (hk : n ≤ h.size) {Q : Option Value → Heap → List Loc → Prop} {kc kn : Nat} (hc : cells ≤ kc) (hs : slots ≤ kn) (hQ : Q (some (.int z)) T.heap locs) :
    own_Go p e below (own_EndH Z EL s h0 Q kc kn) T (mkF m pc Ls (.int z :: rest)) :=
  own_retH X hx hret hlk hd hn (Or.inl ⟨rfl, ht, z, rfl⟩) hZ hEL hC eT hS hk hc hs hQ
theorem own_retAH (X : Stand p l e R (s.setVm vm0) m args below meth c T locs cells slots) (hx : p.tables.exec = Jvm.exec) {w : Value} {t : FieldType} (hret : meth.sig.returnType = some t) (hlk : meth.locks = false) (hd : decode c.code pc = .ok (.areturn, 1)) (ht : t.isReference = true) (hw : w.isRef = true)
    (hZ : Z.Warmed39 vm0) (hEL : EW Z a0 EL) (hC : CHr Z EL s.vm h0 vm0 h) (eT : T.heap = h) {n : Nat} (hS : s.Since vm0 n) (hk : n ≤ h.size) {Q : Option Value → Heap → List Loc → Prop} {kc kn : Nat} (hc : cells ≤ kc) (hs : slots ≤ kn) (hQ : Q (some w) T.heap locs) :
    own_Go p e below (own_EndH Z EL s h0 Q kc kn) T (mkF m pc Ls (w :: rest)) :=
  own_retH X hx hret hlk hd (by cases t <;> first | rfl | (cases w <;> rfl) | (simp [FieldType.isReference] at ht)) (Or.inr (Or.inr (Or.inr (Or.inr ⟨rfl, ht, hw⟩)))) hZ hEL hC eT hS hk hc hs hQ
theorem own_retVH (X : Stand p l e R (s.setVm vm0) m args below meth c T locs cells slots) (hx : p.tables.exec = Jvm.exec) (hret : meth.sig.returnType = none) (hlk : meth.locks = false) (hd : decode c.code pc = .ok (.return_, 1))
    (hZ : Z.Warmed39 vm0) (hEL : EW Z a0 EL) (hC : CHr Z EL s.vm h0 vm0 h) (eT : T.heap = h) {n : Nat} (hS : s.Since vm0 n) (hk : n ≤ h.size) {Q : Option Value → Heap → List Loc → Prop} {kc kn : Nat} (hc : cells ≤ kc) (hs : slots ≤ kn) (hQ : Q none T.heap locs) : own_Go p e below (own_EndH Z EL s h0 Q kc kn) T (mkF m pc Ls []) := by
  subst eT
  obtain ⟨fs, hr, hrun, hended, hE⟩ := X.leaveW hS hk (v := none) (fun _ => rfl) hlk
  exact ⟨_, _, X.returnOut hx hret hd hr, hrun, hended, _, _, rfl, hQ, hC.trans (show CHr Z EL vm0 T.heap T.vm T.heap from CHv.at X hZ hEL hC.1), hE.1, hE.2.1, hE.2.2.1, hE.2.2.2.mono hc hs⟩
/-- a String constant of which nothing is read -/
theorem own_ldcO (X : Stand p l e R (s.setVm vm0) m args below meth c T locs cells slots) (hx : p.tables.exec = Jvm.exec) (hZ : Z.Warmed39 vm0) {own text : String} {index : Nat} (hown : vm0.findClass own = some m.cls) (w : (Jvm.Cond.stringLink own index text).before a0 Z = true) (wS : ∀ a ∈ Bundle.stringAtoms, a.before a0 Z = true)
    (eT : T.heap = h) {k0 : Nat} (hS : s.Since vm0 k0) (hk : k0 ≤ h.size) (hEL : EW Z a0 EL) (H : CHv Z EL vm0 h) (hd : decode c.code pc = .ok (.ldc index, 2)) (n : Nat) (hn : 4 * text.toList.length ≤ n) (hbig : n ≤ 536870912) (hc : cells + 2 ≤ R.cells) (hl : slots + (n + 4) ≤ R.slots)
    (kk : ∀ (a : Addr) (T' : State) (h' : Heap) (k1 : Nat), Stand p l e R (s.setVm T'.vm) m args below meth c T' locs (cells + 2) (slots + (n + 4)) → T'.heap = h' → Ext h h' → s.Since T'.vm k1 → k1 ≤ h'.size → Z.Warmed39 (s.setVm T'.vm).vm → (s.setVm T'.vm).vm.findClass own = some m.cls → CHr Z EL vm0 h T'.vm h' → Lit (s.setVm T'.vm) own index a → own_Go p e below P T' (mkF m (pc + 2) Ls (.ref a :: st))) :
    own_Go p e below P T (mkF m pc Ls st) := by
  obtain ⟨a, T', h', k1, X', e', E, S', hk', hZ', hown', hC, hL, stp⟩ := ldcOH X hx hZ hown w wS eT hS hk hEL H (g := mkF m pc Ls st) rfl hd hn hbig hc hl
  exact own_go stp (kk a T' h' k1 X' e' E S' hk' hZ' hown' hC hL)
/-- a String constant that is read -/
theorem own_ldcH (X : Stand p l e R (s.setVm vm0) m args below meth c T locs cells slots) (hx : p.tables.exec = Jvm.exec) (hZ : Z.Warmed39 vm0) {own text : String} {index : Nat} (hown : vm0.findClass own = some m.cls) (w : (Jvm.Cond.stringLink own index text).before a0 Z = true) (wS : ∀ a ∈ Bundle.stringAtoms, a.before a0 Z = true)
    (eT : T.heap = h) {k0 : Nat} (hS : s.Since vm0 k0) (hk : k0 ≤ h.size) (hEL : EW Z a0 EL) (hmem : (own, index) ∈ EL) (H : CHv Z EL vm0 h) {vs : List Value} {z : Int32} (ht : (∀ c ∈ text.toList, c.toNat < 256) ∧ text.toList.map (fun c => Value.int (Jvm.Lit.byteI c.toNat.toUInt16)) = vs) (hz : ¬ z < 0) (hlz : z.toNatClampNeg = vs.length)
    (hd : decode c.code pc = .ok (.ldc index, 2)) (n : Nat) (hn : 4 * text.toList.length ≤ n) (hbig : n ≤ 536870912) (hc : cells + 2 ≤ R.cells) (hl : slots + (n + 4) ≤ R.slots)
    (kk : ∀ (a : Addr) (T' : State) (h' : Heap) (k1 : Nat) (b : Addr) (k : ClassId), Stand p l e R (s.setVm T'.vm) m args below meth c T' locs (cells + 2) (slots + (n + 4)) → T'.heap = h' → Ext h h' → s.Since T'.vm k1 → k1 ≤ h'.size → Z.Warmed39 (s.setVm T'.vm).vm → (s.setVm T'.vm).vm.findClass own = some m.cls →
      Exa Z h' a "java/lang/String" → Fld Z h' a "java/lang/String" "coder" "B" (.int 0) → Fld Z h' a "java/lang/String" "value" "[B" (.ref b) → Arv Z h' b k .byte z vs (.int 0) → CHr Z EL vm0 h T'.vm h' → Lit (s.setVm T'.vm) own index a → (∀ x, Safe Z EL T'.vm h' x → x ≠ a ∧ x ≠ b) → own_Go p e below P T' (mkF m (pc + 2) Ls (.ref a :: st))) :
    own_Go p e below P T (mkF m pc Ls st) := by
  obtain ⟨a, T', h', k1, b, k, X', e', E, S', hk', hZ', hown', q1, q2, q3, q4, -, -, hC, hL, hne, stp⟩ := ldcCH X hx hZ hown w wS eT hS hk hEL hmem H ht hz hlz (g := mkF m pc Ls st) rfl hd hn hbig hc hl
  exact own_go stp (kk a T' h' k1 b k X' e' E S' hk' hZ' hown' q1 q2 q3 q4 hC hL hne)
theorem own_callSH (X : Stand p l e R (s.setVm vm0) m args below meth c T locs cells slots) (hx : p.tables.exec = Jvm.exec) (hZ : Z.Warmed39 vm0) {own : String} {index : Nat} {y : MethodName} {bytes : ByteArray} {maxL : Nat} {ret : Option FieldType} (hown : vm0.findClass own = some m.cls)
    (w1 : (Jvm.Cond.methodLink own index y).before a0 Z = true) (w2 : (Jvm.Cond.static y).before a0 Z = true) (w3 : (Jvm.Cond.initialized y.cls).before a0 Z = true) (w4 : (Jvm.Cond.code y bytes maxL ret).before a0 Z = true) (hy : y.cls ≠ "java/lang/invoke/MethodHandle" ∧ y.cls ≠ "java/lang/invoke/VarHandle")
    {argsL rest : List Value} {rm : Room} {Q : Option Value → Heap → List Loc → Prop} (hM : own_MetH l Z EL y bytes maxL ret rm (argsL).toArray h Q) (hEL : EW Z a0 EL) (H : CHv Z EL vm0 h) {k0 : Nat} (hS : s.Since vm0 k0) (hk : k0 ≤ h.size) (eT : T.heap = h) {st : List Value} (hsize : Ls.size = c.maxLocals)
    (hlen : ∀ sig, parseMethodDescriptor y.desc = some sig → argsL.length = sig.parameters.length) (hstack : st = argsL.reverse ++ rest) (hd : decode c.code pc = .ok (.invokestatic index, 3)) {W : Nat} (hW : (rest.map fun v => v.category).sum ≤ W) (h4 : rm.frames + 1 ≤ R.frames ∧ W + (maxL + 11) + rm.locals ≤ R.locals ∧ cells + rm.cells ≤ R.cells ∧ slots + rm.slots ≤ R.slots)
    (k : ∀ (v : Option Value) (T' : State) (L : List Loc), Stand p l e R (s.setVm T'.vm) m args below meth c T' (locs ++ L) (cells + rm.cells) (slots + rm.slots) → s.Since T'.vm T'.heap.size → Z.Warmed39 (s.setVm T'.vm).vm → (s.setVm T'.vm).vm.findClass own = some m.cls → CHr Z EL vm0 h T'.vm T'.heap → Q v T'.heap L → own_Go p e below P T' (mkF m (pc + 3) Ls (v.toList ++ rest))) : own_Go p e below P T (mkF m pc Ls st) := by
  obtain ⟨v, _, ⟨T', L', k', n'⟩, -, X', hS', hg, ⟨Lc, hQ, l1, y1, z1, hC⟩, stp⟩ := callSS X hx (y := y) hown (mvT (s := s.setVm vm0) hZ w1) (mvT (s := s.setVm vm0) hZ w2) (mvT (s := s.setVm vm0) hZ w3) (mvT (s := s.setVm vm0) hZ w4) hy (backOfSH (W := W) (hM []) hZ w4 w3 h4.1 h4.2.1 hEL H) (g := mkF m pc Ls st) rfl hsize (argsL := argsL) (rest := rest) hlen hstack (by show 2 * 0 + _ ≤ _; omega) hd (fun _ _ => ⟨rfl, eT, h4.2.2.1, h4.2.2.2⟩)
  dsimp only [Pt.U, Pt.locs, Pt.cells, Pt.slots] at X' l1 y1 z1 stp hQ hS' hg hC
  subst l1 y1 z1
  exact own_go (fun _ q => stp.trans q) (k v T' Lc X' (foldS hS (by rw [eT]; exact hk) hS' hg) (State.Warmed39.trans (t := s.setVm vm0) hZ hS'.1) (by rw [show (s.setVm T'.vm).vm = T'.vm from rfl, hS'.1.alike.findClass]; exact hown) hC hQ)
theorem own_callNH (X : Stand p l e R (s.setVm vm0) m args below meth c T locs cells slots) (hx : p.tables.exec = Jvm.exec) (hZ : Z.Warmed39 vm0) {own : String} {index : Nat} {y : MethodName} {bytes : ByteArray} {maxL : Nat} (hown : vm0.findClass own = some m.cls)
    (w1 : (Jvm.Cond.methodLink own index y).before a0 Z = true) (w2 : (Jvm.Cond.instanceMethod y).before a0 Z = true) (w4 : (Jvm.Cond.code y bytes maxL none).before a0 Z = true) (w3 : (Jvm.Cond.initialized y.cls).before a0 Z = true) (hy : y.cls ≠ "java/lang/invoke/MethodHandle" ∧ y.cls ≠ "java/lang/invoke/VarHandle") (hn : y.name = "<init>")
    {argsL rest : List Value} {rm : Room} {Q : Option Value → Heap → List Loc → Prop} (hM : own_MetH l Z EL y bytes maxL none rm (.ref b :: argsL).toArray h Q) (hEL : EW Z a0 EL) (H : CHv Z EL vm0 h) {k0 : Nat} (hS : s.Since vm0 k0) (hk : k0 ≤ h.size) (eT : T.heap = h) {st : List Value} (hsize : Ls.size = c.maxLocals)
    (hlen : ∀ sig, parseMethodDescriptor y.desc = some sig → argsL.length = sig.parameters.length) (hstack : st = argsL.reverse ++ .ref b :: rest) (hd : decode c.code pc = .ok (.invokespecial index, 3)) {W : Nat} (hW : (rest.map fun v => v.category).sum ≤ W) (h4 : rm.frames + 1 ≤ R.frames ∧ W + (maxL + 11) + rm.locals ≤ R.locals ∧ cells + rm.cells ≤ R.cells ∧ slots + rm.slots ≤ R.slots)
    (k : ∀ (v : Option Value) (T' : State) (L : List Loc), Stand p l e R (s.setVm T'.vm) m args below meth c T' (locs ++ L) (cells + rm.cells) (slots + rm.slots) → s.Since T'.vm T'.heap.size → Z.Warmed39 (s.setVm T'.vm).vm → (s.setVm T'.vm).vm.findClass own = some m.cls → CHr Z EL vm0 h T'.vm T'.heap → Q v T'.heap L → own_Go p e below P T' (mkF m (pc + 3) Ls (v.toList ++ rest))) : own_Go p e below P T (mkF m pc Ls st) := by
  obtain ⟨v, _, ⟨T', L', k', n'⟩, -, X', hS', hg, ⟨Lc, hQ, l1, y1, z1, hC⟩, stp⟩ := X.specialBackS hx (y := y) hn hown (mvT (s := s.setVm vm0) hZ w1) (mvT (s := s.setVm vm0) hZ w2) (mvT (s := s.setVm vm0) hZ w4) hy (backOfSH (W := W) (hM []) hZ w4 w3 h4.1 h4.2.1 hEL H) (g := mkF m pc Ls st) rfl hsize (Steps.refl _) (a := b) (argsL := argsL) (rest := rest) hlen hstack (by show 2 * 0 + _ ≤ _; omega) hd (fun _ _ => ⟨rfl, eT, h4.2.2.1, h4.2.2.2⟩)
  dsimp only [Pt.U, Pt.locs, Pt.cells, Pt.slots] at X' l1 y1 z1 stp hQ hS' hg hC
  subst l1 y1 z1
  exact own_go (fun _ q => stp.trans q) (k v T' Lc X' (foldS hS (by rw [eT]; exact hk) hS' hg) (State.Warmed39.trans (t := s.setVm vm0) hZ hS'.1) (by rw [show (s.setVm T'.vm).vm = T'.vm from rfl, hS'.1.alike.findClass]; exact hown) hC hQ)
theorem own_callVH (X : Stand p l e R (s.setVm vm0) m args below meth c T locs cells slots) (hx : p.tables.exec = Jvm.exec) (hZ : Z.Warmed39 vm0) {own C : String} {index : Nat} {y z : MethodName} {bytes : ByteArray} {maxL : Nat} {ret : Option FieldType} (hown : vm0.findClass own = some m.cls)
    (w1 : (Jvm.Cond.methodLink own index y).before a0 Z = true) (w2 : (Jvm.Cond.declares y).before a0 Z = true) (nf : NotFace (s.setVm vm0) y) (w3 : (Jvm.Cond.selects C y z).before a0 Z = true) (w4 : (Jvm.Cond.instanceMethod z).before a0 Z = true) (w5 : (Jvm.Cond.code z bytes maxL ret).before a0 Z = true) (w6 : (Jvm.Cond.initialized z.cls).before a0 Z = true) (hy : y.cls ≠ "java/lang/invoke/MethodHandle" ∧ y.cls ≠ "java/lang/invoke/VarHandle")
    {argsL rest : List Value} {rm : Room} {Q : Option Value → Heap → List Loc → Prop} (hM : own_MetH l Z EL z bytes maxL ret rm (.ref b :: argsL).toArray h Q) (hEL : EW Z a0 EL) (H : CHv Z EL vm0 h) {k0 : Nat} (hS : s.Since vm0 k0) (hk : k0 ≤ h.size) (eT : T.heap = h) (E : Exa Z h b C) {st : List Value} (hsize : Ls.size = c.maxLocals)
    (hlen : ∀ sig, parseMethodDescriptor y.desc = some sig → argsL.length = sig.parameters.length) (hstack : st = argsL.reverse ++ .ref b :: rest) (hd : decode c.code pc = .ok (.invokevirtual index, 3)) {W : Nat} (hW : (rest.map fun v => v.category).sum ≤ W) (h4 : rm.frames + 1 ≤ R.frames ∧ W + (maxL + 11) + rm.locals ≤ R.locals ∧ cells + rm.cells ≤ R.cells ∧ slots + rm.slots ≤ R.slots)
    (k : ∀ (v : Option Value) (T' : State) (L : List Loc), Stand p l e R (s.setVm T'.vm) m args below meth c T' (locs ++ L) (cells + rm.cells) (slots + rm.slots) → s.Since T'.vm T'.heap.size → Z.Warmed39 (s.setVm T'.vm).vm → (s.setVm T'.vm).vm.findClass own = some m.cls → CHr Z EL vm0 h T'.vm T'.heap → Q v T'.heap L → own_Go p e below P T' (mkF m (pc + 3) Ls (v.toList ++ rest))) : own_Go p e below P T (mkF m pc Ls st) := by
  obtain ⟨cq, kq, qa, qb, qc⟩ := isOf (s := s.setVm vm0) hZ eT E
  obtain ⟨v, _, ⟨T', L', k', n'⟩, -, X', hS', hg, ⟨Lc, hQ, l1, y1, z1, hC⟩, stp⟩ := X.virtualBackS hx (y := y) (z := z) hown (mvT (s := s.setVm vm0) hZ w1) (mvT (s := s.setVm vm0) hZ w2) nf (mvT (s := s.setVm vm0) hZ w3) (mvT (s := s.setVm vm0) hZ w4) hy (backOfSH (W := W) (hM []) hZ w5 w6 h4.1 h4.2.1 hEL H) qa qc (g := mkF m pc Ls st) rfl hsize (Steps.refl _) (argsL := argsL) (rest := rest) hlen hstack (by show 2 * 0 + _ ≤ _; omega) hd (fun _ _ => ⟨rfl, eT, h4.2.2.1, h4.2.2.2⟩)
  dsimp only [Pt.U, Pt.locs, Pt.cells, Pt.slots] at X' l1 y1 z1 stp hQ hS' hg hC
  subst l1 y1 z1
  exact own_go (fun _ q => stp.trans q) (k v T' Lc X' (foldS hS (by rw [eT]; exact hk) hS' hg) (State.Warmed39.trans (t := s.setVm vm0) hZ hS'.1) (by rw [show (s.setVm T'.vm).vm = T'.vm from rfl, hS'.1.alike.findClass]; exact hown) hC hQ)
/-- a String under construction is no constant's -/
theorem own_safe0 {vm : Vm} {x : Addr} (hal : Z.vm.Alike vm) (E : Exa Z h x "java/lang/String") (F : Fld Z h x "java/lang/String" "value" "[B" .null) : Safe Z EL vm h x := fun B => by
  obtain ⟨p, hp, u, a, hb, q, hq, ⟨cS, ⟨⟨s1, s2, s3, ⟨cv, kv, iv, s4, s4'⟩, s5, s6, s7, s8, s9, s10, -⟩, hfS, hcS⟩, -, hB, -⟩, hy⟩ := B
  obtain ⟨cell, k, e1, e2, e3, -, -⟩ := E
  obtain ⟨cell', cf, k', i, f, f1, f2, -, -, -, -, f7⟩ := F
  cases e1.symm.trans f1
  rcases hy with rfl | rfl
  · have hs1 : h[q.sa]? = some q.sC := s1
    cases e1.symm.trans hs1
    obtain ⟨kv', z4⟩ := ff_back (U := Wst Z vm h) hal s4
    have z4' : Z.fieldFound? "java/lang/String" "value" "[B" = some (cv, kv', iv, q.fSV) := z4
    cases f2.symm.trans z4'
    have s8' : q.sC.slots[q.fSV.slot]? = some (.ref q.sd) := s8
    rw [f7] at s8'
    cases s8'
  · have hs1 : h[q.sd]? = some q.SA := s10
    cases e1.symm.trans hs1
    have hB' : vm.findClass "[B" = some q.SA.cls := hB
    rw [hal.findClass] at hB'
    obtain ⟨k1, q1, q2⟩ := Vm.findClass_spec hB'
    obtain ⟨k2, q3, q4⟩ := Vm.findClass_spec e2
    cases q1.symm.trans q3
    exact absurd (q2.symm.trans q4) (by decide)
end Own4
theorem own_bytes : ∀ n : Fin 256, ((Int32.ofNat n.val).toInt8.toInt32 &&& 255) = Int32.ofNat n.val ∧ (Int32.ofNat n.val).toUInt32.toUInt16.toUInt32.toInt32 = Int32.ofNat n.val := by decide +kernel
theorem own_nat (c : Int32) (h : ¬ c < 0 ∧ ¬ (255 : Int32) < c) : ∃ n : Fin 256, c = Int32.ofNat n.val := by
  have e0 : (0 : Int32).toInt = 0 := rfl
  have e1 : (255 : Int32).toInt = 255 := rfl
  obtain ⟨h1, h2⟩ := h
  rw [Int32.lt_iff_toInt_lt, e0] at h1
  rw [Int32.lt_iff_toInt_lt, e1] at h2
  refine ⟨⟨c.toInt.toNat, by omega⟩, Int32.toInt_inj.mp ?_⟩
  rw [Int32.toInt_ofNat_small (by show c.toInt.toNat < 2 ^ 31; omega)]
  show c.toInt = (c.toInt.toNat : Int); omega
theorem own_rt (c : Int32) (h : ¬ c < 0 ∧ ¬ (255 : Int32) < c) : (c.toInt8.toInt32 &&& 255) = c := by obtain ⟨n, rfl⟩ := own_nat c h; exact (own_bytes n).1
theorem own_ic (c : Int32) (h : ¬ c < 0 ∧ ¬ (255 : Int32) < c) : c.toUInt32.toUInt16.toUInt32.toInt32 = c := by obtain ⟨n, rfl⟩ := own_nat c h; exact (own_bytes n).2
theorem own_nc (c : Int32) (h : ¬ c < 0 ∧ ¬ (255 : Int32) < c) : narrow .char (.int c) = .int c := by
  have q := own_ic c h
  show Value.int c.toUInt32.toUInt16.toUInt32.toInt32 = _
  rw [q]
theorem own_and255 (x : Int32) : 0 ≤ (x &&& 255).toInt ∧ (x &&& 255).toInt ≤ 255 := by
  have h : (x &&& 255).toInt = x.toInt % 2 ^ 8 := Jvm.Kit.i32_mask x 255 (k := 8) (by decide) (by decide)
  rw [h]; omega
theorem own_ch (x : Int32) : ¬ (x &&& 255) < 0 ∧ ¬ (255 : Int32) < (x &&& 255) := by
  have h := own_and255 x
  have e0 : (0 : Int32).toInt = 0 := rfl
  have e1 : (255 : Int32).toInt = 255 := rfl
  rw [Int32.lt_iff_toInt_lt, Int32.lt_iff_toInt_lt, e0, e1]; omega
theorem own_b47n : ∀ n : Fin 256, (Int32.ofNat n.val).toInt8.toInt32 = 47 → Int32.ofNat n.val = 47 := by decide +kernel
theorem own_b47 (c : Int32) (h : ¬ c < 0 ∧ ¬ (255 : Int32) < c) (q : c.toInt8.toInt32 = 47) : c = 47 := by obtain ⟨n, rfl⟩ := own_nat c h; exact own_b47n n q
theorem own_and7 (x : Int32) : 0 ≤ (x &&& 7).toInt ∧ (x &&& 7).toInt ≤ 7 := by
  have h : (x &&& 7).toInt = x.toInt % 2 ^ 3 := Jvm.Kit.i32_mask x 7 (k := 3) (by decide) (by decide)
  rw [h]; omega
theorem own_cases (x : Int32) : (x &&& 7) % 5 = 0 ∨ (x &&& 7) % 5 = 1 ∨ (x &&& 7) % 5 = 2 ∨ (x &&& 7) % 5 = 3 ∨ (x &&& 7) % 5 = 4 := by
  have h := own_and7 x
  have q : ((x &&& 7) % 5).toInt = (x &&& 7).toInt % (5 : Int32).toInt := Jvm.Kit.i32_rem_nonneg h.1
  have e : (5 : Int32).toInt = 5 := rfl
  rw [e] at q
  have hh : ((x &&& 7) % 5).toInt = 0 ∨ ((x &&& 7) % 5).toInt = 1 ∨ ((x &&& 7) % 5).toInt = 2 ∨ ((x &&& 7) % 5).toInt = 3 ∨ ((x &&& 7) % 5).toInt = 4 := by omega
  rcases hh with h | h | h | h | h
  · exact Or.inl (own_i32 0 rfl h)
  · exact Or.inr (Or.inl (own_i32 1 rfl h))
  · exact Or.inr (Or.inr (Or.inl (own_i32 2 rfl h)))
  · exact Or.inr (Or.inr (Or.inr (Or.inl (own_i32 3 rfl h))))
  · exact Or.inr (Or.inr (Or.inr (Or.inr (own_i32 4 rfl h))))
def own_EL : List (String × Nat) := [("java/lang/String", 7), ("com/example/svazek/svazek/PackageFolder", 161), ("java/lang/StringLatin1", 151)]
theorem own_EW {Z : State} {a0 : Array Value} (hw : ∀ d ∈ tables_1, d.before a0 Z = true) : EW Z a0 own_EL := (EW.cons (own_hw hw 21 rfl) (by decide) (EW.cons (own_hw hw 73 rfl) (by decide) (EW.cons (own_hw hw 139 rfl) (by decide) EW.nil)))
def own_Gs (Z : State) (z : Int32) (sf : Value) : Prop := Sta Z Z.heap "java/lang/String" "COMPACT_STRINGS" "Z" (.int z) ∧ ¬ z = 0 ∧ Sta Z Z.heap "jdk/internal/util/Preconditions" "SIOOBE_FORMATTER" "Ljava/util/function/BiFunction;" sf ∧ sf.isRef = true
abbrev own_E (Z : State) (h : Heap) (t : Addr) : Prop := Exa Z h t "java/lang/String"
abbrev own_V (Z : State) (h : Heap) (t b : Addr) : Prop := Fld Z h t "java/lang/String" "value" "[B" (.ref b)
abbrev own_C (Z : State) (h : Heap) (t : Addr) : Prop := Fld Z h t "java/lang/String" "coder" "B" (.int 0)
def own_Qh (h0 : Heap) (n0 : Nat) (v : Option Value) (h : Heap) (L : List Loc) : Prop := ∃ c : Int32, v = some (.int c) ∧ Fr n0 L ∧ h = h0 ∧ (¬ c < 0 ∧ ¬ (255 : Int32) < c)
theorem d1_0 : decode method_3_code 0 = .ok (.iload_n 0, 1) := by decide +kernel
theorem d1_1 : decode method_3_code 1 = .ok (.iconst 3, 1) := by decide +kernel
theorem d1_2 : decode method_3_code 2 = .ok (.iand, 1) := by decide +kernel
theorem d1_3 : decode method_3_code 3 = .ok (.ifCond .ne 6, 3) := by decide +kernel
theorem d1_6 : decode method_3_code 6 = .ok (.bipush 47, 2) := by decide +kernel
theorem d1_8 : decode method_3_code 8 = .ok (.ireturn, 1) := by decide +kernel
theorem d1_9 : decode method_3_code 9 = .ok (.iload_n 0, 1) := by decide +kernel
theorem d1_10 : decode method_3_code 10 = .ok (.iconst 2, 1) := by decide +kernel
theorem d1_11 : decode method_3_code 11 = .ok (.iushr, 1) := by decide +kernel
theorem d1_12 : decode method_3_code 12 = .ok (.sipush 255, 3) := by decide +kernel
theorem d1_15 : decode method_3_code 15 = .ok (.iand, 1) := by decide +kernel
theorem d1_16 : decode method_3_code 16 = .ok (.i2c, 1) := by decide +kernel
theorem d1_17 : decode method_3_code 17 = .ok (.ireturn, 1) := by decide +kernel
def own_r_own_chr : Room := { frames := 0, cells := 0, slots := 0, locals := 0 }
theorem own_chr (l : Launch) (Z : State) (a0 : Array Value) (hw : own_W a0 Z) (p1 : Int32) (h0 : Heap) (n0 : Nat)  :
    own_Met l Z (⟨"com/example/svazek/svazek/PackageFolderPlaceOfPinLaw", "ch", "(I)C"⟩ : MethodName) method_3_code 1 (some .char) own_r_own_chr #[(.int p1)] h0 (own_Qh h0 n0) := by
  refine own_body (by decide +kernel) ?_
  intro p e s m below meth c T0 X0 hx hZ hby hml hown hnm hret hlk e0
  have N0 := Fr.nil n0
  refine own_cast (own_frame (L := [iv p1]) (ls := #[iv p1]) rfl rfl) ?_
  refine og_iloadN X0 hx (hb hby d1_0) rfl ?_
  refine og_iconst X0 hx (hb hby d1_1) ?_
  refine og_iand X0 hx (hb hby d1_2) ?_
  show own_Go p e below _ T0 (mkF m 3 #[iv p1] [(.int (p1 &&& 3))])
  by_cases hc3 : (p1 &&& 3) = 0
  · refine og_ifN X0 hx (hb hby d1_3) (teq hc3).2 ?_
    refine og_bipush X0 hx (hb hby d1_6) ?_
    exact own_retI X0 hx hret hlk (hb hby d1_8) rfl (by simp) (by decide) (by decide) (⟨_, rfl, N0, e0, by decide⟩)
  · refine og_ifY X0 hx 9 (hb hby d1_3) (feq hc3).2 (by decide) (by decide) ?_
    refine og_iloadN X0 hx (hb hby d1_9) rfl ?_
    refine og_iconst X0 hx (hb hby d1_10) ?_
    refine own_go (fun t k => XS.iushr X0.here hx rfl (hb hby d1_11) rfl k) ?_
    show own_Go p e below _ T0 (mkF m 12 #[iv p1] [(.int ((p1.toUInt32 >>> ((2 : Int32) &&& 31).toUInt32).toInt32))])
    refine og_sipush X0 hx (hb hby d1_12) ?_
    refine og_iand X0 hx (hb hby d1_15) ?_
    show own_Go p e below _ T0 (mkF m 16 #[iv p1] [(.int (((p1.toUInt32 >>> ((2 : Int32) &&& 31).toUInt32).toInt32) &&& 255))])
    refine own_go (fun t k => XS.i2c X0.here hx rfl (hb hby d1_16) rfl k) ?_
    show own_Go p e below _ T0 (mkF m 17 #[iv p1] [(.int ((((p1.toUInt32 >>> ((2 : Int32) &&& 31).toUInt32).toInt32) &&& 255).toUInt32.toUInt16.toUInt32.toInt32))])
    obtain ⟨c1, hc1, ec1⟩ : ∃ c : Int32, (¬ c < 0 ∧ ¬ (255 : Int32) < c) ∧ (((p1.toUInt32 >>> ((2 : Int32) &&& 31).toUInt32).toInt32) &&& 255).toUInt32.toUInt16.toUInt32.toInt32 = c := ⟨_, own_ch _, i2c_mask _⟩
    rw [ec1]
    show own_Go p e below _ T0 (mkF m 17 #[iv p1] [(.int c1)])
    exact own_retI X0 hx hret hlk (hb hby d1_17) (own_nc _ hc1) (by simp) (by decide) (by decide) (⟨_, rfl, N0, e0, hc1⟩)
def own_Q0 (Z : State) (h0 : Heap) (n0 : Nat) (v : Option Value) (h : Heap) (L : List Loc) : Prop := ∃ (t b : Addr) (k : ClassId), v = some (.ref t) ∧ Fr n0 L ∧ Keep h0 h [] ∧ h0.size ≤ t ∧ n0 ≤ t ∧ own_E Z h t ∧ own_V Z h t b ∧ own_C Z h t ∧ Arv Z h b k .byte (0 : Int32) [] (.int (0 : Int32))
def own_Qz (Z : State) (a1 : Addr) (h0 : Heap) (n0 : Nat) (v : Option Value) (h : Heap) (L : List Loc) : Prop := ∃ (d : Addr) (k : ClassId), v = none ∧ Fr n0 L ∧ Keep h0 h [a1] ∧ Fld Z h a1 "java/lang/String" "value" "[B" (.ref d) ∧ Fld Z h a1 "java/lang/String" "coder" "B" (.int (0 : Int32)) ∧ Arv Z h d k .byte (0 : Int32) [] (.int (0 : Int32))
theorem d4_0 : decode jdk_42_method_149_code 0 = .ok (.aload_n 0, 1) := by decide +kernel
theorem d4_1 : decode jdk_42_method_149_code 1 = .ok (.invokespecial 1, 3) := by decide +kernel
theorem d4_4 : decode jdk_42_method_149_code 4 = .ok (.iload_n 3, 1) := by decide +kernel
theorem d4_5 : decode jdk_42_method_149_code 5 = .ok (.ifCond .ne 22, 3) := by decide +kernel
theorem d4_8 : decode jdk_42_method_149_code 8 = .ok (.aload_n 0, 1) := by decide +kernel
theorem d4_9 : decode jdk_42_method_149_code 9 = .ok (.ldc 7, 2) := by decide +kernel
theorem d4_11 : decode jdk_42_method_149_code 11 = .ok (.getfield 9, 3) := by decide +kernel
theorem d4_14 : decode jdk_42_method_149_code 14 = .ok (.putfield 9, 3) := by decide +kernel
theorem d4_17 : decode jdk_42_method_149_code 17 = .ok (.aload_n 0, 1) := by decide +kernel
theorem d4_18 : decode jdk_42_method_149_code 18 = .ok (.ldc 7, 2) := by decide +kernel
theorem d4_20 : decode jdk_42_method_149_code 20 = .ok (.getfield 15, 3) := by decide +kernel
theorem d4_23 : decode jdk_42_method_149_code 23 = .ok (.putfield 15, 3) := by decide +kernel
theorem d4_26 : decode jdk_42_method_149_code 26 = .ok (.return_, 1) := by decide +kernel
def own_r_own_siz : Room := { frames := 1, cells := 2, slots := 4, locals := 12 }
theorem own_siz (l : Launch) (Z : State) (a0 : Array Value) (hw : own_W a0 Z) (a1 ca : Addr) (u2 : Value) (h0 : Heap) (n0 : Nat) (hO : Old Z n0 h0) (g1 : n0 ≤ a1) (E1 : Exa Z h0 a1 "java/lang/String") (F1 : Fld Z h0 a1 "java/lang/String" "value" "[B" .null) (F2 : Fld Z h0 a1 "java/lang/String" "coder" "B" u2) :
    own_MetH l Z own_EL (⟨"java/lang/String", "<init>", "([CIILjava/lang/Void;)V"⟩ : MethodName) jdk_42_method_149_code 6 none own_r_own_siz #[(.ref a1), (.ref ca), (.int 0), (.int 0), .null] h0 (own_Qz Z a1 h0 n0) := by
  refine own_bodyH (by decide +kernel) ?_
  intro p e s m below meth c T0 X0 hx hZ hby hml hown hnm hret hlk e0 hS hk C0
  have hwS : ∀ a ∈ Bundle.stringAtoms, a.before a0 Z = true := fun d hd => hw d ((by decide +kernel : ∀ d ∈ Bundle.stringAtoms, d ∈ tables_1) d hd)
  have N0 := Fr.nil n0
  refine own_cast (own_frame (L := [rv a1, rv ca, iv 0, iv 0, .val .null]) (ls := #[rv a1, rv ca, iv 0, iv 0, .val .null, .unset]) rfl rfl) ?_
  have S0_a1 : Safe Z own_EL s.vm h0 a1 := own_safe0 hZ.alike E1 F1
  refine og_aloadN X0 hx (hb hby d4_0) rfl rfl ?_
  obtain ⟨T1, X1, e1, st1⟩ := initO X0 hx hZ hown (own_hw hw 18 rfl) (own_hw hw 19 rfl) (own_hw hw 20 rfl) e0 (g := (mkF m 1 #[rv a1, rv ca, iv 0, iv 0, .val .null, .unset] [(.ref a1)])) rfl (by rw [hml]; rfl) rfl (hb hby d4_1) (by decide) (W := 0) (by show 2 * 0 + _ ≤ _; exact Nat.le_of_eq rfl) (by decide)
  refine own_go st1 ?_
  show own_Go p e below _ T1 (mkF m 4 #[rv a1, rv ca, iv 0, iv 0, .val .null, .unset] [])
  refine og_iloadN X1 hx (hb hby d4_4) rfl ?_
  refine og_ifN X1 hx (hb hby d4_5) (teq rfl).2 ?_
  refine og_aloadN X1 hx (hb hby d4_8) rfl rfl ?_
  refine own_ldcH X1 hx hZ hown (own_hw hw 21 rfl) hwS e1 hS hk (own_EW hw) (List.mem_of_getElem? (i := 0) rfl) C0.1 (z := 0) ⟨by decide, rfl⟩ (by decide) rfl (hb hby d4_9) 0 (by decide) (by decide) (by decide) (by decide) ?_
  intro s2 T2 h2 k2 d2 kb2 X2 e2 E2 hS2 hk2 hZ2 hown2 Es2 Fc2 Fv2 As2 C2q Lt2 ns2
  have E_a1_2 := E1.ext E2
  have F_a1_value_2 := F1.ext E2
  have F_a1_coder_2 := F2.ext E2
  have S_a1_2 := CHr.safe C2q E1.lt S0_a1
  have C2 := C0.trans C2q
  have O2 := hO.ext E2
  have K2 := (Keep.refl h0 [a1]).ext E2
  have E_s2_2 : Exa Z h2 s2 "java/lang/String" := Es2
  have F_s2_coder_2 : Fld Z h2 s2 "java/lang/String" "coder" "B" (.int (0 : Int32)) := Fc2
  have F_s2_value_2 : Fld Z h2 s2 "java/lang/String" "value" "[B" (.ref d2) := Fv2
  have A_d2_2 : Arv Z h2 d2 kb2 .byte 0 [] (.int 0) := As2
  have ne_a1_s2 := (ns2 _ S_a1_2).1
  have ne_a1_d2 := (ns2 _ S_a1_2).2
  show own_Go p e below _ T2 (mkF m 11 #[rv a1, rv ca, iv 0, iv 0, .val .null, .unset] [(.ref s2), (.ref a1)])
  refine og_getF X2 hx hZ2 hown2 (own_hw hw 27 rfl) Via.refl e2 F_s2_value_2 (hb hby d4_11) ?_
  intro T3 X3 e3
  show own_Go p e below _ T3 (mkF m 14 #[rv a1, rv ca, iv 0, iv 0, .val .null, .unset] [(.ref d2), (.ref a1)])
  obtain ⟨T4, h4, X4, e4, W4, st4⟩ := putF X3 hx hZ2 hown2 (host := "") (Or.inl (own_hw hw 27 rfl)) Via.refl e3 F_a1_value_2 E_a1_2 (Or.inr ⟨(own_hw hw 23 rfl), rfl, hnm⟩) (own_hw hw 8 rfl) (ty := (.array .byte)) (by decide) rfl rfl (g := (mkF m 14 #[rv a1, rv ca, iv 0, iv 0, .val .null, .unset] [(.ref d2), (.ref a1)])) rfl rfl (hb hby d4_14)
  refine own_go st4 ?_
  have hk4 := Nat.le_trans hk2 (Keep.of_wr W4).1
  have sf4 := S_a1_2
  have C4 := C2.trans (CHr.wr W4 sf4 C2.1)
  have E_a1_4 := E_a1_2.wr W4
  have F_a1_coder_4 := F_a1_coder_2.other W4 (Or.inr (slot_ne (Or.inr (own_hw hw 24 rfl)) (Or.inr (own_hw hw 23 rfl)) (by decide) (t := .byte) (t' := (.array .byte)) (by decide) (by decide)))
  have S_a1_4 := Safe.wr W4 sf4 C2.1 S_a1_2
  have E_s2_4 := E_s2_2.wr W4
  have F_s2_coder_4 := F_s2_coder_2.other W4 (Or.inl (Ne.symm ne_a1_s2))
  have F_s2_value_4 := F_s2_value_2.other W4 (Or.inl (Ne.symm ne_a1_s2))
  have A_d2_4 := A_d2_2.other W4 (Ne.symm ne_a1_d2)
  have O4 := O2.wr W4 g1
  have K4 := K2.wr W4 (Or.inl (by simp))
  have N4 := Fr.snoc X4 N0 g1
  have F_a1_value_4 : Fld Z h4 a1 "java/lang/String" "value" "[B" (.ref d2) := F_a1_value_2.same W4
  show own_Go p e below _ T4 (mkF m 17 #[rv a1, rv ca, iv 0, iv 0, .val .null, .unset] [])
  refine og_aloadN X4 hx (hb hby d4_17) rfl rfl ?_
  refine own_go (ldcAgain X4 hx hZ2 hown2 (own_hw hw 21 rfl) Lt2 (g := (mkF m 18 #[rv a1, rv ca, iv 0, iv 0, .val .null, .unset] [(.ref a1)])) rfl (hb hby d4_18)) ?_
  show own_Go p e below _ T4 (mkF m 20 #[rv a1, rv ca, iv 0, iv 0, .val .null, .unset] [(.ref s2), (.ref a1)])
  refine og_getF X4 hx hZ2 hown2 (own_hw hw 28 rfl) Via.refl e4 F_s2_coder_4 (hb hby d4_20) ?_
  intro T6 X6 e6
  show own_Go p e below _ T6 (mkF m 23 #[rv a1, rv ca, iv 0, iv 0, .val .null, .unset] [(.int (0 : Int32)), (.ref a1)])
  obtain ⟨T7, h7, X7, e7, W7, st7⟩ := putFN X6 hx hZ2 hown2 (own_hw hw 28 rfl) Via.refl e6 F_a1_coder_4 E_a1_4 (Or.inr ⟨(own_hw hw 24 rfl), rfl, hnm⟩) (own_hw hw 8 rfl) (ty := .byte) (v' := (.int (0 : Int32))) (by decide) rfl (by decide) (g := (mkF m 23 #[rv a1, rv ca, iv 0, iv 0, .val .null, .unset] [(.int (0 : Int32)), (.ref a1)])) rfl rfl (hb hby d4_23)
  refine own_go st7 ?_
  have hk7 := Nat.le_trans hk4 (Keep.of_wr W7).1
  have sf7 := S_a1_4
  have C7 := C4.trans (CHr.wr W7 sf7 C4.1)
  have E_a1_7 := E_a1_4.wr W7
  have S_a1_7 := Safe.wr W7 sf7 C4.1 S_a1_4
  have E_s2_7 := E_s2_4.wr W7
  have F_s2_coder_7 := F_s2_coder_4.other W7 (Or.inl (Ne.symm ne_a1_s2))
  have F_s2_value_7 := F_s2_value_4.other W7 (Or.inl (Ne.symm ne_a1_s2))
  have A_d2_7 := A_d2_4.other W7 (Ne.symm ne_a1_d2)
  have F_a1_value_7 := F_a1_value_4.other W7 (Or.inr (slot_ne (Or.inr (own_hw hw 23 rfl)) (Or.inr (own_hw hw 24 rfl)) (by decide) (t := (.array .byte)) (t' := .byte) (by decide) (by decide)))
  have O7 := O4.wr W7 g1
  have K7 := K4.wr W7 (Or.inl (by simp))
  have N7 := Fr.snoc X7 N4 g1
  have F_a1_coder_7 : Fld Z h7 a1 "java/lang/String" "coder" "B" (.int (0 : Int32)) := F_a1_coder_4.same W7
  show own_Go p e below _ T7 (mkF m 26 #[rv a1, rv ca, iv 0, iv 0, .val .null, .unset] [])
  exact own_retVH X7 hx hret hlk (hb hby d4_26) hZ2 (own_EW hw) C7 e7 hS2 hk7 (by decide) (by decide) (by rw [e7]; exact ⟨d2, _, rfl, N7, K7, F_a1_value_7, F_a1_coder_7, A_d2_7⟩)
theorem d3_0 : decode jdk_42_method_3_code 0 = .ok (.aload_n 0, 1) := by decide +kernel
theorem d3_1 : decode jdk_42_method_3_code 1 = .ok (.aload_n 1, 1) := by decide +kernel
theorem d3_2 : decode jdk_42_method_3_code 2 = .ok (.iconst 0, 1) := by decide +kernel
theorem d3_3 : decode jdk_42_method_3_code 3 = .ok (.aload_n 1, 1) := by decide +kernel
theorem d3_4 : decode jdk_42_method_3_code 4 = .ok (.arraylength, 1) := by decide +kernel
theorem d3_5 : decode jdk_42_method_3_code 5 = .ok (.aconst_null, 1) := by decide +kernel
theorem d3_6 : decode jdk_42_method_3_code 6 = .ok (.invokespecial 27, 3) := by decide +kernel
theorem d3_9 : decode jdk_42_method_3_code 9 = .ok (.return_, 1) := by decide +kernel
theorem own_pd61703 : parseMethodDescriptor "([CIILjava/lang/Void;)V" = some ⟨[(.array .char), .int, .int, (.object "java/lang/Void")], none⟩ := by decide +kernel
def own_r_own_sz : Room := { frames := 2, cells := 2, slots := 4, locals := 29 }
theorem own_sz (l : Launch) (Z : State) (a0 : Array Value) (hw : own_W a0 Z) (a1 ca : Addr) (kc : ClassId) (u2 : Value) (h0 : Heap) (n0 : Nat) (hO : Old Z n0 h0) (g1 : n0 ≤ a1) (E1 : Exa Z h0 a1 "java/lang/String") (F1 : Fld Z h0 a1 "java/lang/String" "value" "[B" .null) (F2 : Fld Z h0 a1 "java/lang/String" "coder" "B" u2) (nec : a1 ≠ ca) (Ac : Arv Z h0 ca kc .char (0 : Int32) [] (.int (0 : Int32))) :
    own_MetH l Z own_EL (⟨"java/lang/String", "<init>", "([C)V"⟩ : MethodName) jdk_42_method_3_code 2 none own_r_own_sz #[(.ref a1), (.ref ca)] h0 (own_Qz Z a1 h0 n0) := by
  refine own_bodyH (by decide +kernel) ?_
  intro p e s m below meth c T0 X0 hx hZ hby hml hown hnm hret hlk e0 hS hk C0
  have hwS : ∀ a ∈ Bundle.stringAtoms, a.before a0 Z = true := fun d hd => hw d ((by decide +kernel : ∀ d ∈ Bundle.stringAtoms, d ∈ tables_1) d hd)
  have N0 := Fr.nil n0
  refine own_cast (own_frame (L := [rv a1, rv ca]) (ls := #[rv a1, rv ca]) rfl rfl) ?_
  have S0_a1 : Safe Z own_EL s.vm h0 a1 := own_safe0 hZ.alike E1 F1
  refine og_aloadN X0 hx (hb hby d3_0) rfl rfl ?_
  refine og_aloadN X0 hx (hb hby d3_1) rfl rfl ?_
  refine og_iconst X0 hx (hb hby d3_2) ?_
  refine og_aloadN X0 hx (hb hby d3_3) rfl rfl ?_
  refine own_len X0 hx hZ e0 Ac (hb hby d3_4) ?_
  show own_Go p e below _ T0 (mkF m 5 #[rv a1, rv ca] [(.int 0), (.int 0), (.ref ca), (.ref a1)])
  refine og_null X0 hx (hb hby d3_5) ?_
  refine own_callNH X0 hx hZ hown (own_hw hw 14 rfl) (own_hw hw 15 rfl) (own_hw hw 17 rfl) (own_hw hw 9 rfl) (by decide) rfl (b := a1) (argsL := [(.ref ca), (.int 0), (.int 0), .null]) (rest := []) (own_siz l Z a0 hw a1 ca _ h0 n0 hO g1 E1 F1 F2) (own_EW hw) C0.1 hS hk e0 (by rw [hml]; rfl) (lenOf own_pd61703 rfl) rfl (hb hby d3_6) (W := 0) (Nat.le_of_eq rfl) (by decide) ?_
  intro v1 T1 L1 X1 hS1 hZ1 hown1 C1q q1
  obtain ⟨d1, k1, rfl, N1q, K1q, Fv1, Fc1, A1q⟩ := q1
  have N1 := Fr.app N0 N1q
  have C1 := C0.trans C1q
  have E_a1_1 := E1.keep K1q
  have A_ca_1 := Ac.keep K1q (ninS (Ne.symm nec) nin0)
  have S_a1_1 := CHr.safe C1q E1.lt S0_a1
  have O1 := hO.keep K1q (allS g1 all0)
  have K1 := (Keep.refl h0 [a1]).trans K1q (allS (Or.inl (by simp)) all0)
  show own_Go p e below _ T1 (mkF m 9 #[rv a1, rv ca] [])
  exact own_retVH X1 hx hret hlk (hb hby d3_9) hZ1 (own_EW hw) C1 rfl hS1 (Nat.le_refl _) (by decide) (by decide) (⟨d1, _, rfl, N1, K1, Fv1, Fc1, A1q⟩)
theorem d2_0 : decode method_4_code 0 = .ok (.iload_n 0, 1) := by decide +kernel
theorem d2_1 : decode method_4_code 1 = .ok (.ifCond .ne 14, 3) := by decide +kernel
theorem d2_4 : decode method_4_code 4 = .ok (.new 28, 3) := by decide +kernel
theorem d2_7 : decode method_4_code 7 = .ok (.dup, 1) := by decide +kernel
theorem d2_8 : decode method_4_code 8 = .ok (.iconst 0, 1) := by decide +kernel
theorem d2_9 : decode method_4_code 9 = .ok (.newarray .char, 2) := by decide +kernel
theorem d2_11 : decode method_4_code 11 = .ok (.invokespecial 40, 3) := by decide +kernel
theorem d2_14 : decode method_4_code 14 = .ok (.areturn, 1) := by decide +kernel
theorem own_pd46664 : parseMethodDescriptor "([C)V" = some ⟨[(.array .char)], none⟩ := by decide +kernel
def own_r_own_mk0 : Room := { frames := 3, cells := 4, slots := 8, locals := 43 }
theorem own_mk0 (l : Launch) (Z : State) (a0 : Array Value) (hw : own_W a0 Z) (c0 c1 c2 c3 : Int32) (h0 : Heap) (n0 : Nat) (hO : Old Z n0 h0) :
    own_MetH l Z own_EL (⟨"com/example/svazek/svazek/PackageFolderPlaceOfPinLaw", "make", "(ICCCC)Ljava/lang/String;"⟩ : MethodName) method_4_code 5 (some (.object "java/lang/String")) own_r_own_mk0 #[(.int 0), (.int c0), (.int c1), (.int c2), (.int c3)] h0 (own_Q0 Z h0 n0) := by
  refine own_bodyH (by decide +kernel) ?_
  intro p e s m below meth c T0 X0 hx hZ hby hml hown hnm hret hlk e0 hS hk C0
  have hwS : ∀ a ∈ Bundle.stringAtoms, a.before a0 Z = true := fun d hd => hw d ((by decide +kernel : ∀ d ∈ Bundle.stringAtoms, d ∈ tables_1) d hd)
  have N0 := Fr.nil n0
  refine own_cast (own_frame (L := [iv 0, iv c0, iv c1, iv c2, iv c3]) (ls := #[iv 0, iv c0, iv c1, iv c2, iv c3]) rfl rfl) ?_
  refine og_iloadN X0 hx (hb hby d2_0) rfl ?_
  refine og_ifN X0 hx (hb hby d2_1) (teq rfl).2 ?_
  refine own_newO X0 hx hZ hown (own_hw hw 7 rfl) (own_hw hw 8 rfl) (own_hw hw 9 rfl) e0 (hb hby d2_4) (by decide) (by decide) ?_
  intro T1 h1 b1 g1 X1 e1 E1 A1 D1
  have ge_b1 : n0 ≤ b1 := Nat.le_trans (own_oldle hO) (Nat.le_of_eq g1.symm)
  have sz_b1 : h0.size ≤ b1 := Nat.le_trans (Keep.refl h0 []).1 (Nat.le_of_eq g1.symm)
  have S_b1 : Safe Z own_EL s.vm h0 b1 := Safe.new (Nat.le_of_eq g1.symm)
  have hk1 := Nat.le_trans hk E1.1
  have S_b1_1 := Safe.ext E1 C0.1 S_b1
  have C1 := C0.trans (CHr.ext E1 C0.1)
  have O1 := hO.ext E1
  have K1 := (Keep.refl h0 []).ext E1
  have F_b1_value_1 : Fld Z h1 b1 "java/lang/String" "value" "[B" .null := D1 (Or.inr (own_hw hw 23 rfl)) (ty := (.array .byte)) (by decide)
  have F_b1_coder_1 : Fld Z h1 b1 "java/lang/String" "coder" "B" (.int 0) := D1 (Or.inr (own_hw hw 24 rfl)) (ty := .byte) (by decide)
  show own_Go p e below _ T1 (mkF m 7 #[iv 0, iv c0, iv c1, iv c2, iv c3] [(.ref b1)])
  refine og_dup X1 hx (hb hby d2_7) rfl ?_
  refine og_iconst X1 hx (hb hby d2_8) ?_
  refine own_newP X1 hx hZ (own_hw hw 10 rfl) e1 (hb hby d2_9) (by decide) 0 (by decide) (by decide) (by decide) (by decide) ?_
  intro T2 h2 k2 b2 g2 X2 e2 E2 A2
  have ne_b1_b2 : b1 ≠ b2 := Nat.ne_of_lt (Nat.lt_of_lt_of_eq A1.lt g2.symm)
  have ge_b2 : n0 ≤ b2 := Nat.le_trans (own_oldle O1) (Nat.le_of_eq g2.symm)
  have sz_b2 : h0.size ≤ b2 := Nat.le_trans K1.1 (Nat.le_of_eq g2.symm)
  have hk2 := Nat.le_trans hk1 E2.1
  have S_b1_2 := Safe.ext E2 C1.1 S_b1_1
  have E_b1_2 := A1.ext E2
  have F_b1_value_2 := F_b1_value_1.ext E2
  have F_b1_coder_2 := F_b1_coder_1.ext E2
  have C2 := C1.trans (CHr.ext E2 C1.1)
  have O2 := O1.ext E2
  have K2 := K1.ext E2
  have A_b2_2 : Arv Z h2 b2 k2 .char 0 [] (.int (0 : Int32)) := A2
  show own_Go p e below _ T2 (mkF m 11 #[iv 0, iv c0, iv c1, iv c2, iv c3] [(.ref b2), (.ref b1), (.ref b1)])
  refine own_callNH X2 hx hZ hown (own_hw hw 11 rfl) (own_hw hw 12 rfl) (own_hw hw 13 rfl) (own_hw hw 9 rfl) (by decide) rfl (b := b1) (argsL := [(.ref b2)]) (rest := [(.ref b1)]) (own_sz l Z a0 hw b1 b2 _ _ h2 n0 O2 ge_b1 E_b1_2 F_b1_value_2 F_b1_coder_2 ne_b1_b2 A_b2_2) (own_EW hw) C2.1 hS hk2 e2 (by rw [hml]; rfl) (lenOf own_pd46664 rfl) rfl (hb hby d2_11) (W := 1) (Nat.le_of_eq rfl) (by decide) ?_
  intro v3 T3 L3 X3 hS3 hZ3 hown3 C3q q3
  obtain ⟨d3, k3, rfl, N3q, K3q, Fv3, Fc3, A3q⟩ := q3
  have N3 := Fr.app N0 N3q
  have C3 := C2.trans C3q
  have S_b1_3 := CHr.safe C3q E_b1_2.lt S_b1_2
  have E_b1_3 := E_b1_2.keep K3q
  have A_b2_3 := A_b2_2.keep K3q (ninS (Ne.symm ne_b1_b2) nin0)
  have O3 := O2.keep K3q (allS ge_b1 all0)
  have K3 := K2.trans K3q (allS (Or.inr sz_b1) all0)
  show own_Go p e below _ T3 (mkF m 14 #[iv 0, iv c0, iv c1, iv c2, iv c3] [(.ref b1)])
  exact own_retAH X3 hx hret hlk (hb hby d2_14) rfl rfl hZ3 (own_EW hw) C3 rfl hS3 (Nat.le_refl _) (by decide) (by decide) (⟨b1, d3, _, rfl, N3, K3, sz_b1, ge_b1, E_b1_3, Fv3, Fc3, A3q⟩)
def own_Qs1 (Z : State) (h0 : Heap) (n0 : Nat) (v0 : Value) (v : Option Value) (h : Heap) (L : List Loc) : Prop := ∃ (t b : Addr) (k : ClassId), v = some (.ref t) ∧ Fr n0 L ∧ Keep h0 h [] ∧ h0.size ≤ t ∧ n0 ≤ t ∧ h0.size ≤ b ∧ n0 ≤ b ∧ t ≠ b ∧ own_E Z h t ∧ own_V Z h t b ∧ own_C Z h t ∧ Arv Z h b k .byte 1 [v0] (.int (0 : Int32))
theorem d2_15 : decode method_4_code 15 = .ok (.iload_n 0, 1) := by decide +kernel
theorem d2_16 : decode method_4_code 16 = .ok (.iconst 1, 1) := by decide +kernel
theorem d2_17 : decode method_4_code 17 = .ok (.if_icmp .ne 18, 3) := by decide +kernel
theorem d2_20 : decode method_4_code 20 = .ok (.new 28, 3) := by decide +kernel
theorem d2_23 : decode method_4_code 23 = .ok (.dup, 1) := by decide +kernel
theorem d2_24 : decode method_4_code 24 = .ok (.iconst 1, 1) := by decide +kernel
theorem d2_25 : decode method_4_code 25 = .ok (.newarray .char, 2) := by decide +kernel
theorem d2_27 : decode method_4_code 27 = .ok (.dup, 1) := by decide +kernel
theorem d2_28 : decode method_4_code 28 = .ok (.iconst 0, 1) := by decide +kernel
theorem d2_29 : decode method_4_code 29 = .ok (.iload_n 1, 1) := by decide +kernel
theorem d2_30 : decode method_4_code 30 = .ok (.castore, 1) := by decide +kernel
theorem d2_31 : decode method_4_code 31 = .ok (.invokespecial 40, 3) := by decide +kernel
theorem d2_34 : decode method_4_code 34 = .ok (.areturn, 1) := by decide +kernel
def own_r_own_mk1 : Room := { frames := 4, cells := 3, slots := 6, locals := 66 }
theorem own_mk1 (l : Launch) (Z : State) (a0 : Array Value) (hw : own_W a0 Z) (c0 c1 c2 c3 : Int32) (z : Int32) (h0 : Heap) (n0 : Nat) (hO : Old Z n0 h0) (SC : Sta Z Z.heap "java/lang/String" "COMPACT_STRINGS" "Z" (.int z)) (hz : ¬ z = 0) (hc0 : ¬ c0 < 0 ∧ ¬ (255 : Int32) < c0) (hc1 : ¬ c1 < 0 ∧ ¬ (255 : Int32) < c1) (hc2 : ¬ c2 < 0 ∧ ¬ (255 : Int32) < c2) (hc3 : ¬ c3 < 0 ∧ ¬ (255 : Int32) < c3) :
    own_Met l Z (⟨"com/example/svazek/svazek/PackageFolderPlaceOfPinLaw", "make", "(ICCCC)Ljava/lang/String;"⟩ : MethodName) method_4_code 5 (some (.object "java/lang/String")) own_r_own_mk1 #[(.int 1), (.int c0), (.int c1), (.int c2), (.int c3)] h0 (own_Qs1 Z h0 n0 (.int c0.toInt8.toInt32)) := by
  refine own_body (by decide +kernel) ?_
  intro p e s m below meth c T0 X0 hx hZ hby hml hown hnm hret hlk e0
  have N0 := Fr.nil n0
  refine own_cast (own_frame (L := [iv 1, iv c0, iv c1, iv c2, iv c3]) (ls := #[iv 1, iv c0, iv c1, iv c2, iv c3]) rfl rfl) ?_
  refine og_iloadN X0 hx (hb hby d2_0) rfl ?_
  refine og_ifY X0 hx 15 (hb hby d2_1) (feq (by decide)).2 (by decide) (by decide) ?_
  refine og_iloadN X0 hx (hb hby d2_15) rfl ?_
  refine og_iconst X0 hx (hb hby d2_16) ?_
  refine og_icN X0 hx (hb hby d2_17) (teq rfl).2 ?_
  refine own_newO X0 hx hZ hown (own_hw hw 7 rfl) (own_hw hw 8 rfl) (own_hw hw 9 rfl) e0 (hb hby d2_20) (by decide) (by decide) ?_
  intro T1 h1 b1 g1 X1 e1 E1 A1 D1
  have ge_b1 : n0 ≤ b1 := Nat.le_trans (own_oldle hO) (Nat.le_of_eq g1.symm)
  have sz_b1 : h0.size ≤ b1 := Nat.le_trans (Keep.refl h0 []).1 (Nat.le_of_eq g1.symm)
  have O1 := hO.ext E1
  have K1 := (Keep.refl h0 []).ext E1
  have F_b1_value_1 : Fld Z h1 b1 "java/lang/String" "value" "[B" .null := D1 (Or.inr (own_hw hw 23 rfl)) (ty := (.array .byte)) (by decide)
  have F_b1_coder_1 : Fld Z h1 b1 "java/lang/String" "coder" "B" (.int 0) := D1 (Or.inr (own_hw hw 24 rfl)) (ty := .byte) (by decide)
  show own_Go p e below _ T1 (mkF m 23 #[iv 1, iv c0, iv c1, iv c2, iv c3] [(.ref b1)])
  refine og_dup X1 hx (hb hby d2_23) rfl ?_
  refine og_iconst X1 hx (hb hby d2_24) ?_
  refine own_newP X1 hx hZ (own_hw hw 10 rfl) e1 (hb hby d2_25) (by decide) 1 (by decide) (by decide) (by decide) (by decide) ?_
  intro T2 h2 k2 b2 g2 X2 e2 E2 A2
  have ne_b1_b2 : b1 ≠ b2 := Nat.ne_of_lt (Nat.lt_of_lt_of_eq A1.lt g2.symm)
  have ge_b2 : n0 ≤ b2 := Nat.le_trans (own_oldle O1) (Nat.le_of_eq g2.symm)
  have sz_b2 : h0.size ≤ b2 := Nat.le_trans K1.1 (Nat.le_of_eq g2.symm)
  have E_b1_2 := A1.ext E2
  have F_b1_value_2 := F_b1_value_1.ext E2
  have F_b1_coder_2 := F_b1_coder_1.ext E2
  have O2 := O1.ext E2
  have K2 := K1.ext E2
  have A_b2_2 : Arv Z h2 b2 k2 .char 1 [(.int (0 : Int32))] (.int (0 : Int32)) := A2
  show own_Go p e below _ T2 (mkF m 27 #[iv 1, iv c0, iv c1, iv c2, iv c3] [(.ref b2), (.ref b1), (.ref b1)])
  refine og_dup X2 hx (hb hby d2_27) rfl ?_
  refine og_iconst X2 hx (hb hby d2_28) ?_
  refine og_iloadN X2 hx (hb hby d2_29) rfl ?_
  refine own_stC X2 hx hZ e2 A_b2_2 ⟨by decide, by decide⟩ 0 rfl (by show 0 < 1; decide) (hb hby d2_30) ?_
  intro T3 h3 X3 e3 W3 A3
  have E_b1_3 := E_b1_2.wr W3
  have F_b1_value_3 := F_b1_value_2.other W3 (Or.inl ne_b1_b2)
  have F_b1_coder_3 := F_b1_coder_2.other W3 (Or.inl ne_b1_b2)
  have O3 := O2.wr W3 ge_b2
  have K3 := K2.wr W3 (Or.inr sz_b2)
  have N3 := Fr.snoc X3 N0 ge_b2
  have A_b2_3 : Arv Z h3 b2 k2 .char 1 [(.int c0)] (.int (0 : Int32)) := (by have q := A3; rw [show nar .char c0 = c0 from own_ic _ hc0] at q; exact q)
  show own_Go p e below _ T3 (mkF m 31 #[iv 1, iv c0, iv c1, iv c2, iv c3] [(.ref b2), (.ref b1), (.ref b1)])
  have hws : ∀ d ∈ StrChars.Road.words, d.before a0 Z = true := fun d hd => hw d ((by decide +kernel : ∀ d ∈ StrChars.Road.words, d ∈ tables_1) d hd)
  have hp4 : ∀ c ∈ ([c0] : List Int32), ¬ c < 0 ∧ ¬ (255 : Int32) < c := by
    intro c hc; simp only [List.mem_cons, List.not_mem_nil, or_false] at hc; rcases hc with rfl <;> assumption
  refine own_callNB X3 hx hZ hown (own_hw hw 11 rfl) (own_hw hw 12 rfl) (own_hw hw 13 rfl) (own_hw hw 9 rfl) (by decide) rfl (b := b1) (argsL := [(.ref b2)]) (rest := [(.ref b1)]) (StrChars.Road.backV (W := 1) hZ hws (kI := 4) (own_hw hw 8 rfl) (cs := ([c0] : List Int32)) (bs := (([c0] : List Int32)).map (fun c => c.toInt8.toInt32)) (n := 1) ge_b1 (own_oldle O3) E_b1_3 F_b1_value_3 F_b1_coder_3 A_b2_3 (SC.ext O3.2) hz rfl rfl (by decide) (by decide) hp4 rfl (by decide) (by decide)) e3 (by rw [hml]; rfl) (lenOf own_pd46664 rfl) rfl (hb hby d2_31) (Nat.le_of_eq rfl) (by decide) (by decide) ?_
  intro v4 T4 L4 X4 q4
  obtain ⟨rfl, N4q, K4q, E4q, C4q, vb4, kb4, ge4, z4q, ne4q, V4q, A4q⟩ := q4
  have N4 := Fr.app N3 N4q
  have ne_b1_vb4 : b1 ≠ vb4 := Nat.ne_of_lt (Nat.lt_of_lt_of_le E_b1_3.lt z4q)
  have ne_b2_vb4 : b2 ≠ vb4 := Nat.ne_of_lt (Nat.lt_of_lt_of_le A_b2_3.lt z4q)
  have sz_vb4 : h0.size ≤ vb4 := Nat.le_trans K3.1 z4q
  have E_b1_4 := E_b1_3.keep K4q
  have A_b2_4 := A_b2_3.keep K4q (ninS (Ne.symm ne_b1_b2) nin0)
  have O4 := O3.keep K4q (allS ge_b1 all0)
  have K4 := K3.trans K4q (allS (Or.inr sz_b1) all0)
  show own_Go p e below _ T4 (mkF m 34 #[iv 1, iv c0, iv c1, iv c2, iv c3] [(.ref b1)])
  exact own_retA X4 hx hret hlk (hb hby d2_34) rfl rfl (by decide) (by decide) (⟨b1, vb4, _, rfl, N4, K4, sz_b1, ge_b1, sz_vb4, ge4, ne_b1_vb4, E_b1_4, V4q, C4q, A4q⟩)
def own_Qs2 (Z : State) (h0 : Heap) (n0 : Nat) (v0 v1 : Value) (v : Option Value) (h : Heap) (L : List Loc) : Prop := ∃ (t b : Addr) (k : ClassId), v = some (.ref t) ∧ Fr n0 L ∧ Keep h0 h [] ∧ h0.size ≤ t ∧ n0 ≤ t ∧ h0.size ≤ b ∧ n0 ≤ b ∧ t ≠ b ∧ own_E Z h t ∧ own_V Z h t b ∧ own_C Z h t ∧ Arv Z h b k .byte 2 [v0, v1] (.int (0 : Int32))
theorem d2_35 : decode method_4_code 35 = .ok (.iload_n 0, 1) := by decide +kernel
theorem d2_36 : decode method_4_code 36 = .ok (.iconst 2, 1) := by decide +kernel
theorem d2_37 : decode method_4_code 37 = .ok (.if_icmp .ne 22, 3) := by decide +kernel
theorem d2_40 : decode method_4_code 40 = .ok (.new 28, 3) := by decide +kernel
theorem d2_43 : decode method_4_code 43 = .ok (.dup, 1) := by decide +kernel
theorem d2_44 : decode method_4_code 44 = .ok (.iconst 2, 1) := by decide +kernel
theorem d2_45 : decode method_4_code 45 = .ok (.newarray .char, 2) := by decide +kernel
theorem d2_47 : decode method_4_code 47 = .ok (.dup, 1) := by decide +kernel
theorem d2_48 : decode method_4_code 48 = .ok (.iconst 0, 1) := by decide +kernel
theorem d2_49 : decode method_4_code 49 = .ok (.iload_n 1, 1) := by decide +kernel
theorem d2_50 : decode method_4_code 50 = .ok (.castore, 1) := by decide +kernel
theorem d2_51 : decode method_4_code 51 = .ok (.dup, 1) := by decide +kernel
theorem d2_52 : decode method_4_code 52 = .ok (.iconst 1, 1) := by decide +kernel
theorem d2_53 : decode method_4_code 53 = .ok (.iload_n 2, 1) := by decide +kernel
theorem d2_54 : decode method_4_code 54 = .ok (.castore, 1) := by decide +kernel
theorem d2_55 : decode method_4_code 55 = .ok (.invokespecial 40, 3) := by decide +kernel
theorem d2_58 : decode method_4_code 58 = .ok (.areturn, 1) := by decide +kernel
def own_r_own_mk2 : Room := { frames := 4, cells := 3, slots := 8, locals := 66 }
theorem own_mk2 (l : Launch) (Z : State) (a0 : Array Value) (hw : own_W a0 Z) (c0 c1 c2 c3 : Int32) (z : Int32) (h0 : Heap) (n0 : Nat) (hO : Old Z n0 h0) (SC : Sta Z Z.heap "java/lang/String" "COMPACT_STRINGS" "Z" (.int z)) (hz : ¬ z = 0) (hc0 : ¬ c0 < 0 ∧ ¬ (255 : Int32) < c0) (hc1 : ¬ c1 < 0 ∧ ¬ (255 : Int32) < c1) (hc2 : ¬ c2 < 0 ∧ ¬ (255 : Int32) < c2) (hc3 : ¬ c3 < 0 ∧ ¬ (255 : Int32) < c3) :
    own_Met l Z (⟨"com/example/svazek/svazek/PackageFolderPlaceOfPinLaw", "make", "(ICCCC)Ljava/lang/String;"⟩ : MethodName) method_4_code 5 (some (.object "java/lang/String")) own_r_own_mk2 #[(.int 2), (.int c0), (.int c1), (.int c2), (.int c3)] h0 (own_Qs2 Z h0 n0 (.int c0.toInt8.toInt32) (.int c1.toInt8.toInt32)) := by
  refine own_body (by decide +kernel) ?_
  intro p e s m below meth c T0 X0 hx hZ hby hml hown hnm hret hlk e0
  have N0 := Fr.nil n0
  refine own_cast (own_frame (L := [iv 2, iv c0, iv c1, iv c2, iv c3]) (ls := #[iv 2, iv c0, iv c1, iv c2, iv c3]) rfl rfl) ?_
  refine og_iloadN X0 hx (hb hby d2_0) rfl ?_
  refine og_ifY X0 hx 15 (hb hby d2_1) (feq (by decide)).2 (by decide) (by decide) ?_
  refine og_iloadN X0 hx (hb hby d2_15) rfl ?_
  refine og_iconst X0 hx (hb hby d2_16) ?_
  refine og_icY X0 hx 35 (hb hby d2_17) (feq (by decide)).2 (by decide) (by decide) ?_
  refine og_iloadN X0 hx (hb hby d2_35) rfl ?_
  refine og_iconst X0 hx (hb hby d2_36) ?_
  refine og_icN X0 hx (hb hby d2_37) (teq rfl).2 ?_
  refine own_newO X0 hx hZ hown (own_hw hw 7 rfl) (own_hw hw 8 rfl) (own_hw hw 9 rfl) e0 (hb hby d2_40) (by decide) (by decide) ?_
  intro T1 h1 b1 g1 X1 e1 E1 A1 D1
  have ge_b1 : n0 ≤ b1 := Nat.le_trans (own_oldle hO) (Nat.le_of_eq g1.symm)
  have sz_b1 : h0.size ≤ b1 := Nat.le_trans (Keep.refl h0 []).1 (Nat.le_of_eq g1.symm)
  have O1 := hO.ext E1
  have K1 := (Keep.refl h0 []).ext E1
  have F_b1_value_1 : Fld Z h1 b1 "java/lang/String" "value" "[B" .null := D1 (Or.inr (own_hw hw 23 rfl)) (ty := (.array .byte)) (by decide)
  have F_b1_coder_1 : Fld Z h1 b1 "java/lang/String" "coder" "B" (.int 0) := D1 (Or.inr (own_hw hw 24 rfl)) (ty := .byte) (by decide)
  show own_Go p e below _ T1 (mkF m 43 #[iv 2, iv c0, iv c1, iv c2, iv c3] [(.ref b1)])
  refine og_dup X1 hx (hb hby d2_43) rfl ?_
  refine og_iconst X1 hx (hb hby d2_44) ?_
  refine own_newP X1 hx hZ (own_hw hw 10 rfl) e1 (hb hby d2_45) (by decide) 2 (by decide) (by decide) (by decide) (by decide) ?_
  intro T2 h2 k2 b2 g2 X2 e2 E2 A2
  have ne_b1_b2 : b1 ≠ b2 := Nat.ne_of_lt (Nat.lt_of_lt_of_eq A1.lt g2.symm)
  have ge_b2 : n0 ≤ b2 := Nat.le_trans (own_oldle O1) (Nat.le_of_eq g2.symm)
  have sz_b2 : h0.size ≤ b2 := Nat.le_trans K1.1 (Nat.le_of_eq g2.symm)
  have E_b1_2 := A1.ext E2
  have F_b1_value_2 := F_b1_value_1.ext E2
  have F_b1_coder_2 := F_b1_coder_1.ext E2
  have O2 := O1.ext E2
  have K2 := K1.ext E2
  have A_b2_2 : Arv Z h2 b2 k2 .char 2 [(.int (0 : Int32)), (.int (0 : Int32))] (.int (0 : Int32)) := A2
  show own_Go p e below _ T2 (mkF m 47 #[iv 2, iv c0, iv c1, iv c2, iv c3] [(.ref b2), (.ref b1), (.ref b1)])
  refine og_dup X2 hx (hb hby d2_47) rfl ?_
  refine og_iconst X2 hx (hb hby d2_48) ?_
  refine og_iloadN X2 hx (hb hby d2_49) rfl ?_
  refine own_stC X2 hx hZ e2 A_b2_2 ⟨by decide, by decide⟩ 0 rfl (by show 0 < 2; decide) (hb hby d2_50) ?_
  intro T3 h3 X3 e3 W3 A3
  have E_b1_3 := E_b1_2.wr W3
  have F_b1_value_3 := F_b1_value_2.other W3 (Or.inl ne_b1_b2)
  have F_b1_coder_3 := F_b1_coder_2.other W3 (Or.inl ne_b1_b2)
  have O3 := O2.wr W3 ge_b2
  have K3 := K2.wr W3 (Or.inr sz_b2)
  have N3 := Fr.snoc X3 N0 ge_b2
  have A_b2_3 : Arv Z h3 b2 k2 .char 2 [(.int c0), (.int (0 : Int32))] (.int (0 : Int32)) := (by have q := A3; rw [show nar .char c0 = c0 from own_ic _ hc0] at q; exact q)
  show own_Go p e below _ T3 (mkF m 51 #[iv 2, iv c0, iv c1, iv c2, iv c3] [(.ref b2), (.ref b1), (.ref b1)])
  refine og_dup X3 hx (hb hby d2_51) rfl ?_
  refine og_iconst X3 hx (hb hby d2_52) ?_
  refine og_iloadN X3 hx (hb hby d2_53) rfl ?_
  refine own_stC X3 hx hZ e3 A_b2_3 ⟨by decide, by decide⟩ 1 rfl (by show 1 < 2; decide) (hb hby d2_54) ?_
  intro T4 h4 X4 e4 W4 A4
  have E_b1_4 := E_b1_3.wr W4
  have F_b1_value_4 := F_b1_value_3.other W4 (Or.inl ne_b1_b2)
  have F_b1_coder_4 := F_b1_coder_3.other W4 (Or.inl ne_b1_b2)
  have O4 := O3.wr W4 ge_b2
  have K4 := K3.wr W4 (Or.inr sz_b2)
  have N4 := Fr.snoc X4 N3 ge_b2
  have A_b2_4 : Arv Z h4 b2 k2 .char 2 [(.int c0), (.int c1)] (.int (0 : Int32)) := (by have q := A4; rw [show nar .char c1 = c1 from own_ic _ hc1] at q; exact q)
  show own_Go p e below _ T4 (mkF m 55 #[iv 2, iv c0, iv c1, iv c2, iv c3] [(.ref b2), (.ref b1), (.ref b1)])
  have hws : ∀ d ∈ StrChars.Road.words, d.before a0 Z = true := fun d hd => hw d ((by decide +kernel : ∀ d ∈ StrChars.Road.words, d ∈ tables_1) d hd)
  have hp5 : ∀ c ∈ ([c0, c1] : List Int32), ¬ c < 0 ∧ ¬ (255 : Int32) < c := by
    intro c hc; simp only [List.mem_cons, List.not_mem_nil, or_false] at hc; rcases hc with rfl | rfl <;> assumption
  refine own_callNB X4 hx hZ hown (own_hw hw 11 rfl) (own_hw hw 12 rfl) (own_hw hw 13 rfl) (own_hw hw 9 rfl) (by decide) rfl (b := b1) (argsL := [(.ref b2)]) (rest := [(.ref b1)]) (StrChars.Road.backV (W := 1) hZ hws (kI := 4) (own_hw hw 8 rfl) (cs := ([c0, c1] : List Int32)) (bs := (([c0, c1] : List Int32)).map (fun c => c.toInt8.toInt32)) (n := 2) ge_b1 (own_oldle O4) E_b1_4 F_b1_value_4 F_b1_coder_4 A_b2_4 (SC.ext O4.2) hz rfl rfl (by decide) (by decide) hp5 rfl (by decide) (by decide)) e4 (by rw [hml]; rfl) (lenOf own_pd46664 rfl) rfl (hb hby d2_55) (Nat.le_of_eq rfl) (by decide) (by decide) ?_
  intro v5 T5 L5 X5 q5
  obtain ⟨rfl, N5q, K5q, E5q, C5q, vb5, kb5, ge5, z5q, ne5q, V5q, A5q⟩ := q5
  have N5 := Fr.app N4 N5q
  have ne_b1_vb5 : b1 ≠ vb5 := Nat.ne_of_lt (Nat.lt_of_lt_of_le E_b1_4.lt z5q)
  have ne_b2_vb5 : b2 ≠ vb5 := Nat.ne_of_lt (Nat.lt_of_lt_of_le A_b2_4.lt z5q)
  have sz_vb5 : h0.size ≤ vb5 := Nat.le_trans K4.1 z5q
  have E_b1_5 := E_b1_4.keep K5q
  have A_b2_5 := A_b2_4.keep K5q (ninS (Ne.symm ne_b1_b2) nin0)
  have O5 := O4.keep K5q (allS ge_b1 all0)
  have K5 := K4.trans K5q (allS (Or.inr sz_b1) all0)
  show own_Go p e below _ T5 (mkF m 58 #[iv 2, iv c0, iv c1, iv c2, iv c3] [(.ref b1)])
  exact own_retA X5 hx hret hlk (hb hby d2_58) rfl rfl (by decide) (by decide) (⟨b1, vb5, _, rfl, N5, K5, sz_b1, ge_b1, sz_vb5, ge5, ne_b1_vb5, E_b1_5, V5q, C5q, A5q⟩)
def own_Qs3 (Z : State) (h0 : Heap) (n0 : Nat) (v0 v1 v2 : Value) (v : Option Value) (h : Heap) (L : List Loc) : Prop := ∃ (t b : Addr) (k : ClassId), v = some (.ref t) ∧ Fr n0 L ∧ Keep h0 h [] ∧ h0.size ≤ t ∧ n0 ≤ t ∧ h0.size ≤ b ∧ n0 ≤ b ∧ t ≠ b ∧ own_E Z h t ∧ own_V Z h t b ∧ own_C Z h t ∧ Arv Z h b k .byte 3 [v0, v1, v2] (.int (0 : Int32))
theorem d2_59 : decode method_4_code 59 = .ok (.iload_n 0, 1) := by decide +kernel
theorem d2_60 : decode method_4_code 60 = .ok (.iconst 3, 1) := by decide +kernel
theorem d2_61 : decode method_4_code 61 = .ok (.if_icmp .ne 26, 3) := by decide +kernel
theorem d2_64 : decode method_4_code 64 = .ok (.new 28, 3) := by decide +kernel
theorem d2_67 : decode method_4_code 67 = .ok (.dup, 1) := by decide +kernel
theorem d2_68 : decode method_4_code 68 = .ok (.iconst 3, 1) := by decide +kernel
theorem d2_69 : decode method_4_code 69 = .ok (.newarray .char, 2) := by decide +kernel
theorem d2_71 : decode method_4_code 71 = .ok (.dup, 1) := by decide +kernel
theorem d2_72 : decode method_4_code 72 = .ok (.iconst 0, 1) := by decide +kernel
theorem d2_73 : decode method_4_code 73 = .ok (.iload_n 1, 1) := by decide +kernel
theorem d2_74 : decode method_4_code 74 = .ok (.castore, 1) := by decide +kernel
theorem d2_75 : decode method_4_code 75 = .ok (.dup, 1) := by decide +kernel
theorem d2_76 : decode method_4_code 76 = .ok (.iconst 1, 1) := by decide +kernel
theorem d2_77 : decode method_4_code 77 = .ok (.iload_n 2, 1) := by decide +kernel
theorem d2_78 : decode method_4_code 78 = .ok (.castore, 1) := by decide +kernel
theorem d2_79 : decode method_4_code 79 = .ok (.dup, 1) := by decide +kernel
theorem d2_80 : decode method_4_code 80 = .ok (.iconst 2, 1) := by decide +kernel
theorem d2_81 : decode method_4_code 81 = .ok (.iload_n 3, 1) := by decide +kernel
theorem d2_82 : decode method_4_code 82 = .ok (.castore, 1) := by decide +kernel
theorem d2_83 : decode method_4_code 83 = .ok (.invokespecial 40, 3) := by decide +kernel
theorem d2_86 : decode method_4_code 86 = .ok (.areturn, 1) := by decide +kernel
def own_r_own_mk3 : Room := { frames := 4, cells := 3, slots := 10, locals := 66 }
theorem own_mk3 (l : Launch) (Z : State) (a0 : Array Value) (hw : own_W a0 Z) (c0 c1 c2 c3 : Int32) (z : Int32) (h0 : Heap) (n0 : Nat) (hO : Old Z n0 h0) (SC : Sta Z Z.heap "java/lang/String" "COMPACT_STRINGS" "Z" (.int z)) (hz : ¬ z = 0) (hc0 : ¬ c0 < 0 ∧ ¬ (255 : Int32) < c0) (hc1 : ¬ c1 < 0 ∧ ¬ (255 : Int32) < c1) (hc2 : ¬ c2 < 0 ∧ ¬ (255 : Int32) < c2) (hc3 : ¬ c3 < 0 ∧ ¬ (255 : Int32) < c3) :
    own_Met l Z (⟨"com/example/svazek/svazek/PackageFolderPlaceOfPinLaw", "make", "(ICCCC)Ljava/lang/String;"⟩ : MethodName) method_4_code 5 (some (.object "java/lang/String")) own_r_own_mk3 #[(.int 3), (.int c0), (.int c1), (.int c2), (.int c3)] h0 (own_Qs3 Z h0 n0 (.int c0.toInt8.toInt32) (.int c1.toInt8.toInt32) (.int c2.toInt8.toInt32)) := by
  refine own_body (by decide +kernel) ?_
  intro p e s m below meth c T0 X0 hx hZ hby hml hown hnm hret hlk e0
  have N0 := Fr.nil n0
  refine own_cast (own_frame (L := [iv 3, iv c0, iv c1, iv c2, iv c3]) (ls := #[iv 3, iv c0, iv c1, iv c2, iv c3]) rfl rfl) ?_
  refine og_iloadN X0 hx (hb hby d2_0) rfl ?_
  refine og_ifY X0 hx 15 (hb hby d2_1) (feq (by decide)).2 (by decide) (by decide) ?_
  refine og_iloadN X0 hx (hb hby d2_15) rfl ?_
  refine og_iconst X0 hx (hb hby d2_16) ?_
  refine og_icY X0 hx 35 (hb hby d2_17) (feq (by decide)).2 (by decide) (by decide) ?_
  refine og_iloadN X0 hx (hb hby d2_35) rfl ?_
  refine og_iconst X0 hx (hb hby d2_36) ?_
  refine og_icY X0 hx 59 (hb hby d2_37) (feq (by decide)).2 (by decide) (by decide) ?_
  refine og_iloadN X0 hx (hb hby d2_59) rfl ?_
  refine og_iconst X0 hx (hb hby d2_60) ?_
  refine og_icN X0 hx (hb hby d2_61) (teq rfl).2 ?_
  refine own_newO X0 hx hZ hown (own_hw hw 7 rfl) (own_hw hw 8 rfl) (own_hw hw 9 rfl) e0 (hb hby d2_64) (by decide) (by decide) ?_
  intro T1 h1 b1 g1 X1 e1 E1 A1 D1
  have ge_b1 : n0 ≤ b1 := Nat.le_trans (own_oldle hO) (Nat.le_of_eq g1.symm)
  have sz_b1 : h0.size ≤ b1 := Nat.le_trans (Keep.refl h0 []).1 (Nat.le_of_eq g1.symm)
  have O1 := hO.ext E1
  have K1 := (Keep.refl h0 []).ext E1
  have F_b1_value_1 : Fld Z h1 b1 "java/lang/String" "value" "[B" .null := D1 (Or.inr (own_hw hw 23 rfl)) (ty := (.array .byte)) (by decide)
  have F_b1_coder_1 : Fld Z h1 b1 "java/lang/String" "coder" "B" (.int 0) := D1 (Or.inr (own_hw hw 24 rfl)) (ty := .byte) (by decide)
  show own_Go p e below _ T1 (mkF m 67 #[iv 3, iv c0, iv c1, iv c2, iv c3] [(.ref b1)])
  refine og_dup X1 hx (hb hby d2_67) rfl ?_
  refine og_iconst X1 hx (hb hby d2_68) ?_
  refine own_newP X1 hx hZ (own_hw hw 10 rfl) e1 (hb hby d2_69) (by decide) 3 (by decide) (by decide) (by decide) (by decide) ?_
  intro T2 h2 k2 b2 g2 X2 e2 E2 A2
  have ne_b1_b2 : b1 ≠ b2 := Nat.ne_of_lt (Nat.lt_of_lt_of_eq A1.lt g2.symm)
  have ge_b2 : n0 ≤ b2 := Nat.le_trans (own_oldle O1) (Nat.le_of_eq g2.symm)
  have sz_b2 : h0.size ≤ b2 := Nat.le_trans K1.1 (Nat.le_of_eq g2.symm)
  have E_b1_2 := A1.ext E2
  have F_b1_value_2 := F_b1_value_1.ext E2
  have F_b1_coder_2 := F_b1_coder_1.ext E2
  have O2 := O1.ext E2
  have K2 := K1.ext E2
  have A_b2_2 : Arv Z h2 b2 k2 .char 3 [(.int (0 : Int32)), (.int (0 : Int32)), (.int (0 : Int32))] (.int (0 : Int32)) := A2
  show own_Go p e below _ T2 (mkF m 71 #[iv 3, iv c0, iv c1, iv c2, iv c3] [(.ref b2), (.ref b1), (.ref b1)])
  refine og_dup X2 hx (hb hby d2_71) rfl ?_
  refine og_iconst X2 hx (hb hby d2_72) ?_
  refine og_iloadN X2 hx (hb hby d2_73) rfl ?_
  refine own_stC X2 hx hZ e2 A_b2_2 ⟨by decide, by decide⟩ 0 rfl (by show 0 < 3; decide) (hb hby d2_74) ?_
  intro T3 h3 X3 e3 W3 A3
  have E_b1_3 := E_b1_2.wr W3
  have F_b1_value_3 := F_b1_value_2.other W3 (Or.inl ne_b1_b2)
  have F_b1_coder_3 := F_b1_coder_2.other W3 (Or.inl ne_b1_b2)
  have O3 := O2.wr W3 ge_b2
  have K3 := K2.wr W3 (Or.inr sz_b2)
  have N3 := Fr.snoc X3 N0 ge_b2
  have A_b2_3 : Arv Z h3 b2 k2 .char 3 [(.int c0), (.int (0 : Int32)), (.int (0 : Int32))] (.int (0 : Int32)) := (by have q := A3; rw [show nar .char c0 = c0 from own_ic _ hc0] at q; exact q)
  show own_Go p e below _ T3 (mkF m 75 #[iv 3, iv c0, iv c1, iv c2, iv c3] [(.ref b2), (.ref b1), (.ref b1)])
  refine og_dup X3 hx (hb hby d2_75) rfl ?_
  refine og_iconst X3 hx (hb hby d2_76) ?_
  refine og_iloadN X3 hx (hb hby d2_77) rfl ?_
  refine own_stC X3 hx hZ e3 A_b2_3 ⟨by decide, by decide⟩ 1 rfl (by show 1 < 3; decide) (hb hby d2_78) ?_
  intro T4 h4 X4 e4 W4 A4
  have E_b1_4 := E_b1_3.wr W4
  have F_b1_value_4 := F_b1_value_3.other W4 (Or.inl ne_b1_b2)
  have F_b1_coder_4 := F_b1_coder_3.other W4 (Or.inl ne_b1_b2)
  have O4 := O3.wr W4 ge_b2
  have K4 := K3.wr W4 (Or.inr sz_b2)
  have N4 := Fr.snoc X4 N3 ge_b2
  have A_b2_4 : Arv Z h4 b2 k2 .char 3 [(.int c0), (.int c1), (.int (0 : Int32))] (.int (0 : Int32)) := (by have q := A4; rw [show nar .char c1 = c1 from own_ic _ hc1] at q; exact q)
  show own_Go p e below _ T4 (mkF m 79 #[iv 3, iv c0, iv c1, iv c2, iv c3] [(.ref b2), (.ref b1), (.ref b1)])
  refine og_dup X4 hx (hb hby d2_79) rfl ?_
  refine og_iconst X4 hx (hb hby d2_80) ?_
  refine og_iloadN X4 hx (hb hby d2_81) rfl ?_
  refine own_stC X4 hx hZ e4 A_b2_4 ⟨by decide, by decide⟩ 2 rfl (by show 2 < 3; decide) (hb hby d2_82) ?_
  intro T5 h5 X5 e5 W5 A5
  have E_b1_5 := E_b1_4.wr W5
  have F_b1_value_5 := F_b1_value_4.other W5 (Or.inl ne_b1_b2)
  have F_b1_coder_5 := F_b1_coder_4.other W5 (Or.inl ne_b1_b2)
  have O5 := O4.wr W5 ge_b2
  have K5 := K4.wr W5 (Or.inr sz_b2)
  have N5 := Fr.snoc X5 N4 ge_b2
  have A_b2_5 : Arv Z h5 b2 k2 .char 3 [(.int c0), (.int c1), (.int c2)] (.int (0 : Int32)) := (by have q := A5; rw [show nar .char c2 = c2 from own_ic _ hc2] at q; exact q)
  show own_Go p e below _ T5 (mkF m 83 #[iv 3, iv c0, iv c1, iv c2, iv c3] [(.ref b2), (.ref b1), (.ref b1)])
  have hws : ∀ d ∈ StrChars.Road.words, d.before a0 Z = true := fun d hd => hw d ((by decide +kernel : ∀ d ∈ StrChars.Road.words, d ∈ tables_1) d hd)
  have hp6 : ∀ c ∈ ([c0, c1, c2] : List Int32), ¬ c < 0 ∧ ¬ (255 : Int32) < c := by
    intro c hc; simp only [List.mem_cons, List.not_mem_nil, or_false] at hc; rcases hc with rfl | rfl | rfl <;> assumption
  refine own_callNB X5 hx hZ hown (own_hw hw 11 rfl) (own_hw hw 12 rfl) (own_hw hw 13 rfl) (own_hw hw 9 rfl) (by decide) rfl (b := b1) (argsL := [(.ref b2)]) (rest := [(.ref b1)]) (StrChars.Road.backV (W := 1) hZ hws (kI := 4) (own_hw hw 8 rfl) (cs := ([c0, c1, c2] : List Int32)) (bs := (([c0, c1, c2] : List Int32)).map (fun c => c.toInt8.toInt32)) (n := 3) ge_b1 (own_oldle O5) E_b1_5 F_b1_value_5 F_b1_coder_5 A_b2_5 (SC.ext O5.2) hz rfl rfl (by decide) (by decide) hp6 rfl (by decide) (by decide)) e5 (by rw [hml]; rfl) (lenOf own_pd46664 rfl) rfl (hb hby d2_83) (Nat.le_of_eq rfl) (by decide) (by decide) ?_
  intro v6 T6 L6 X6 q6
  obtain ⟨rfl, N6q, K6q, E6q, C6q, vb6, kb6, ge6, z6q, ne6q, V6q, A6q⟩ := q6
  have N6 := Fr.app N5 N6q
  have ne_b1_vb6 : b1 ≠ vb6 := Nat.ne_of_lt (Nat.lt_of_lt_of_le E_b1_5.lt z6q)
  have ne_b2_vb6 : b2 ≠ vb6 := Nat.ne_of_lt (Nat.lt_of_lt_of_le A_b2_5.lt z6q)
  have sz_vb6 : h0.size ≤ vb6 := Nat.le_trans K5.1 z6q
  have E_b1_6 := E_b1_5.keep K6q
  have A_b2_6 := A_b2_5.keep K6q (ninS (Ne.symm ne_b1_b2) nin0)
  have O6 := O5.keep K6q (allS ge_b1 all0)
  have K6 := K5.trans K6q (allS (Or.inr sz_b1) all0)
  show own_Go p e below _ T6 (mkF m 86 #[iv 3, iv c0, iv c1, iv c2, iv c3] [(.ref b1)])
  exact own_retA X6 hx hret hlk (hb hby d2_86) rfl rfl (by decide) (by decide) (⟨b1, vb6, _, rfl, N6, K6, sz_b1, ge_b1, sz_vb6, ge6, ne_b1_vb6, E_b1_6, V6q, C6q, A6q⟩)
def own_Qs4 (Z : State) (h0 : Heap) (n0 : Nat) (v0 v1 v2 v3 : Value) (v : Option Value) (h : Heap) (L : List Loc) : Prop := ∃ (t b : Addr) (k : ClassId), v = some (.ref t) ∧ Fr n0 L ∧ Keep h0 h [] ∧ h0.size ≤ t ∧ n0 ≤ t ∧ h0.size ≤ b ∧ n0 ≤ b ∧ t ≠ b ∧ own_E Z h t ∧ own_V Z h t b ∧ own_C Z h t ∧ Arv Z h b k .byte 4 [v0, v1, v2, v3] (.int (0 : Int32))
theorem d2_87 : decode method_4_code 87 = .ok (.new 28, 3) := by decide +kernel
theorem d2_90 : decode method_4_code 90 = .ok (.dup, 1) := by decide +kernel
theorem d2_91 : decode method_4_code 91 = .ok (.iconst 4, 1) := by decide +kernel
theorem d2_92 : decode method_4_code 92 = .ok (.newarray .char, 2) := by decide +kernel
theorem d2_94 : decode method_4_code 94 = .ok (.dup, 1) := by decide +kernel
theorem d2_95 : decode method_4_code 95 = .ok (.iconst 0, 1) := by decide +kernel
theorem d2_96 : decode method_4_code 96 = .ok (.iload_n 1, 1) := by decide +kernel
theorem d2_97 : decode method_4_code 97 = .ok (.castore, 1) := by decide +kernel
theorem d2_98 : decode method_4_code 98 = .ok (.dup, 1) := by decide +kernel
theorem d2_99 : decode method_4_code 99 = .ok (.iconst 1, 1) := by decide +kernel
theorem d2_100 : decode method_4_code 100 = .ok (.iload_n 2, 1) := by decide +kernel
theorem d2_101 : decode method_4_code 101 = .ok (.castore, 1) := by decide +kernel
theorem d2_102 : decode method_4_code 102 = .ok (.dup, 1) := by decide +kernel
theorem d2_103 : decode method_4_code 103 = .ok (.iconst 2, 1) := by decide +kernel
theorem d2_104 : decode method_4_code 104 = .ok (.iload_n 3, 1) := by decide +kernel
theorem d2_105 : decode method_4_code 105 = .ok (.castore, 1) := by decide +kernel
theorem d2_106 : decode method_4_code 106 = .ok (.dup, 1) := by decide +kernel
theorem d2_107 : decode method_4_code 107 = .ok (.iconst 3, 1) := by decide +kernel
theorem d2_108 : decode method_4_code 108 = .ok (.iload 4, 2) := by decide +kernel
theorem d2_110 : decode method_4_code 110 = .ok (.castore, 1) := by decide +kernel
theorem d2_111 : decode method_4_code 111 = .ok (.invokespecial 40, 3) := by decide +kernel
theorem d2_114 : decode method_4_code 114 = .ok (.areturn, 1) := by decide +kernel
def own_r_own_mk4 : Room := { frames := 4, cells := 3, slots := 12, locals := 66 }
theorem own_mk4 (l : Launch) (Z : State) (a0 : Array Value) (hw : own_W a0 Z) (c0 c1 c2 c3 : Int32) (z : Int32) (h0 : Heap) (n0 : Nat) (hO : Old Z n0 h0) (SC : Sta Z Z.heap "java/lang/String" "COMPACT_STRINGS" "Z" (.int z)) (hz : ¬ z = 0) (hc0 : ¬ c0 < 0 ∧ ¬ (255 : Int32) < c0) (hc1 : ¬ c1 < 0 ∧ ¬ (255 : Int32) < c1) (hc2 : ¬ c2 < 0 ∧ ¬ (255 : Int32) < c2) (hc3 : ¬ c3 < 0 ∧ ¬ (255 : Int32) < c3) :
    own_Met l Z (⟨"com/example/svazek/svazek/PackageFolderPlaceOfPinLaw", "make", "(ICCCC)Ljava/lang/String;"⟩ : MethodName) method_4_code 5 (some (.object "java/lang/String")) own_r_own_mk4 #[(.int 4), (.int c0), (.int c1), (.int c2), (.int c3)] h0 (own_Qs4 Z h0 n0 (.int c0.toInt8.toInt32) (.int c1.toInt8.toInt32) (.int c2.toInt8.toInt32) (.int c3.toInt8.toInt32)) := by
  refine own_body (by decide +kernel) ?_
  intro p e s m below meth c T0 X0 hx hZ hby hml hown hnm hret hlk e0
  have N0 := Fr.nil n0
  refine own_cast (own_frame (L := [iv 4, iv c0, iv c1, iv c2, iv c3]) (ls := #[iv 4, iv c0, iv c1, iv c2, iv c3]) rfl rfl) ?_
  refine og_iloadN X0 hx (hb hby d2_0) rfl ?_
  refine og_ifY X0 hx 15 (hb hby d2_1) (feq (by decide)).2 (by decide) (by decide) ?_
  refine og_iloadN X0 hx (hb hby d2_15) rfl ?_
  refine og_iconst X0 hx (hb hby d2_16) ?_
  refine og_icY X0 hx 35 (hb hby d2_17) (feq (by decide)).2 (by decide) (by decide) ?_
  refine og_iloadN X0 hx (hb hby d2_35) rfl ?_
  refine og_iconst X0 hx (hb hby d2_36) ?_
  refine og_icY X0 hx 59 (hb hby d2_37) (feq (by decide)).2 (by decide) (by decide) ?_
  refine og_iloadN X0 hx (hb hby d2_59) rfl ?_
  refine og_iconst X0 hx (hb hby d2_60) ?_
  refine og_icY X0 hx 87 (hb hby d2_61) (feq (by decide)).2 (by decide) (by decide) ?_
  refine own_newO X0 hx hZ hown (own_hw hw 7 rfl) (own_hw hw 8 rfl) (own_hw hw 9 rfl) e0 (hb hby d2_87) (by decide) (by decide) ?_
  intro T1 h1 b1 g1 X1 e1 E1 A1 D1
  have ge_b1 : n0 ≤ b1 := Nat.le_trans (own_oldle hO) (Nat.le_of_eq g1.symm)
  have sz_b1 : h0.size ≤ b1 := Nat.le_trans (Keep.refl h0 []).1 (Nat.le_of_eq g1.symm)
  have O1 := hO.ext E1
  have K1 := (Keep.refl h0 []).ext E1
  have F_b1_value_1 : Fld Z h1 b1 "java/lang/String" "value" "[B" .null := D1 (Or.inr (own_hw hw 23 rfl)) (ty := (.array .byte)) (by decide)
  have F_b1_coder_1 : Fld Z h1 b1 "java/lang/String" "coder" "B" (.int 0) := D1 (Or.inr (own_hw hw 24 rfl)) (ty := .byte) (by decide)
  show own_Go p e below _ T1 (mkF m 90 #[iv 4, iv c0, iv c1, iv c2, iv c3] [(.ref b1)])
  refine og_dup X1 hx (hb hby d2_90) rfl ?_
  refine og_iconst X1 hx (hb hby d2_91) ?_
  refine own_newP X1 hx hZ (own_hw hw 10 rfl) e1 (hb hby d2_92) (by decide) 4 (by decide) (by decide) (by decide) (by decide) ?_
  intro T2 h2 k2 b2 g2 X2 e2 E2 A2
  have ne_b1_b2 : b1 ≠ b2 := Nat.ne_of_lt (Nat.lt_of_lt_of_eq A1.lt g2.symm)
  have ge_b2 : n0 ≤ b2 := Nat.le_trans (own_oldle O1) (Nat.le_of_eq g2.symm)
  have sz_b2 : h0.size ≤ b2 := Nat.le_trans K1.1 (Nat.le_of_eq g2.symm)
  have E_b1_2 := A1.ext E2
  have F_b1_value_2 := F_b1_value_1.ext E2
  have F_b1_coder_2 := F_b1_coder_1.ext E2
  have O2 := O1.ext E2
  have K2 := K1.ext E2
  have A_b2_2 : Arv Z h2 b2 k2 .char 4 [(.int (0 : Int32)), (.int (0 : Int32)), (.int (0 : Int32)), (.int (0 : Int32))] (.int (0 : Int32)) := A2
  show own_Go p e below _ T2 (mkF m 94 #[iv 4, iv c0, iv c1, iv c2, iv c3] [(.ref b2), (.ref b1), (.ref b1)])
  refine og_dup X2 hx (hb hby d2_94) rfl ?_
  refine og_iconst X2 hx (hb hby d2_95) ?_
  refine og_iloadN X2 hx (hb hby d2_96) rfl ?_
  refine own_stC X2 hx hZ e2 A_b2_2 ⟨by decide, by decide⟩ 0 rfl (by show 0 < 4; decide) (hb hby d2_97) ?_
  intro T3 h3 X3 e3 W3 A3
  have E_b1_3 := E_b1_2.wr W3
  have F_b1_value_3 := F_b1_value_2.other W3 (Or.inl ne_b1_b2)
  have F_b1_coder_3 := F_b1_coder_2.other W3 (Or.inl ne_b1_b2)
  have O3 := O2.wr W3 ge_b2
  have K3 := K2.wr W3 (Or.inr sz_b2)
  have N3 := Fr.snoc X3 N0 ge_b2
  have A_b2_3 : Arv Z h3 b2 k2 .char 4 [(.int c0), (.int (0 : Int32)), (.int (0 : Int32)), (.int (0 : Int32))] (.int (0 : Int32)) := (by have q := A3; rw [show nar .char c0 = c0 from own_ic _ hc0] at q; exact q)
  show own_Go p e below _ T3 (mkF m 98 #[iv 4, iv c0, iv c1, iv c2, iv c3] [(.ref b2), (.ref b1), (.ref b1)])
  refine og_dup X3 hx (hb hby d2_98) rfl ?_
  refine og_iconst X3 hx (hb hby d2_99) ?_
  refine og_iloadN X3 hx (hb hby d2_100) rfl ?_
  refine own_stC X3 hx hZ e3 A_b2_3 ⟨by decide, by decide⟩ 1 rfl (by show 1 < 4; decide) (hb hby d2_101) ?_
  intro T4 h4 X4 e4 W4 A4
  have E_b1_4 := E_b1_3.wr W4
  have F_b1_value_4 := F_b1_value_3.other W4 (Or.inl ne_b1_b2)
  have F_b1_coder_4 := F_b1_coder_3.other W4 (Or.inl ne_b1_b2)
  have O4 := O3.wr W4 ge_b2
  have K4 := K3.wr W4 (Or.inr sz_b2)
  have N4 := Fr.snoc X4 N3 ge_b2
  have A_b2_4 : Arv Z h4 b2 k2 .char 4 [(.int c0), (.int c1), (.int (0 : Int32)), (.int (0 : Int32))] (.int (0 : Int32)) := (by have q := A4; rw [show nar .char c1 = c1 from own_ic _ hc1] at q; exact q)
  show own_Go p e below _ T4 (mkF m 102 #[iv 4, iv c0, iv c1, iv c2, iv c3] [(.ref b2), (.ref b1), (.ref b1)])
  refine og_dup X4 hx (hb hby d2_102) rfl ?_
  refine og_iconst X4 hx (hb hby d2_103) ?_
  refine og_iloadN X4 hx (hb hby d2_104) rfl ?_
  refine own_stC X4 hx hZ e4 A_b2_4 ⟨by decide, by decide⟩ 2 rfl (by show 2 < 4; decide) (hb hby d2_105) ?_
  intro T5 h5 X5 e5 W5 A5
  have E_b1_5 := E_b1_4.wr W5
  have F_b1_value_5 := F_b1_value_4.other W5 (Or.inl ne_b1_b2)
  have F_b1_coder_5 := F_b1_coder_4.other W5 (Or.inl ne_b1_b2)
  have O5 := O4.wr W5 ge_b2
  have K5 := K4.wr W5 (Or.inr sz_b2)
  have N5 := Fr.snoc X5 N4 ge_b2
  have A_b2_5 : Arv Z h5 b2 k2 .char 4 [(.int c0), (.int c1), (.int c2), (.int (0 : Int32))] (.int (0 : Int32)) := (by have q := A5; rw [show nar .char c2 = c2 from own_ic _ hc2] at q; exact q)
  show own_Go p e below _ T5 (mkF m 106 #[iv 4, iv c0, iv c1, iv c2, iv c3] [(.ref b2), (.ref b1), (.ref b1)])
  refine og_dup X5 hx (hb hby d2_106) rfl ?_
  refine og_iconst X5 hx (hb hby d2_107) ?_
  refine og_iload X5 hx (hb hby d2_108) rfl ?_
  refine own_stC X5 hx hZ e5 A_b2_5 ⟨by decide, by decide⟩ 3 rfl (by show 3 < 4; decide) (hb hby d2_110) ?_
  intro T6 h6 X6 e6 W6 A6
  have E_b1_6 := E_b1_5.wr W6
  have F_b1_value_6 := F_b1_value_5.other W6 (Or.inl ne_b1_b2)
  have F_b1_coder_6 := F_b1_coder_5.other W6 (Or.inl ne_b1_b2)
  have O6 := O5.wr W6 ge_b2
  have K6 := K5.wr W6 (Or.inr sz_b2)
  have N6 := Fr.snoc X6 N5 ge_b2
  have A_b2_6 : Arv Z h6 b2 k2 .char 4 [(.int c0), (.int c1), (.int c2), (.int c3)] (.int (0 : Int32)) := (by have q := A6; rw [show nar .char c3 = c3 from own_ic _ hc3] at q; exact q)
  show own_Go p e below _ T6 (mkF m 111 #[iv 4, iv c0, iv c1, iv c2, iv c3] [(.ref b2), (.ref b1), (.ref b1)])
  have hws : ∀ d ∈ StrChars.Road.words, d.before a0 Z = true := fun d hd => hw d ((by decide +kernel : ∀ d ∈ StrChars.Road.words, d ∈ tables_1) d hd)
  have hp7 : ∀ c ∈ ([c0, c1, c2, c3] : List Int32), ¬ c < 0 ∧ ¬ (255 : Int32) < c := by
    intro c hc; simp only [List.mem_cons, List.not_mem_nil, or_false] at hc; rcases hc with rfl | rfl | rfl | rfl <;> assumption
  refine own_callNB X6 hx hZ hown (own_hw hw 11 rfl) (own_hw hw 12 rfl) (own_hw hw 13 rfl) (own_hw hw 9 rfl) (by decide) rfl (b := b1) (argsL := [(.ref b2)]) (rest := [(.ref b1)]) (StrChars.Road.backV (W := 1) hZ hws (kI := 4) (own_hw hw 8 rfl) (cs := ([c0, c1, c2, c3] : List Int32)) (bs := (([c0, c1, c2, c3] : List Int32)).map (fun c => c.toInt8.toInt32)) (n := 4) ge_b1 (own_oldle O6) E_b1_6 F_b1_value_6 F_b1_coder_6 A_b2_6 (SC.ext O6.2) hz rfl rfl (by decide) (by decide) hp7 rfl (by decide) (by decide)) e6 (by rw [hml]; rfl) (lenOf own_pd46664 rfl) rfl (hb hby d2_111) (Nat.le_of_eq rfl) (by decide) (by decide) ?_
  intro v7 T7 L7 X7 q7
  obtain ⟨rfl, N7q, K7q, E7q, C7q, vb7, kb7, ge7, z7q, ne7q, V7q, A7q⟩ := q7
  have N7 := Fr.app N6 N7q
  have ne_b1_vb7 : b1 ≠ vb7 := Nat.ne_of_lt (Nat.lt_of_lt_of_le E_b1_6.lt z7q)
  have ne_b2_vb7 : b2 ≠ vb7 := Nat.ne_of_lt (Nat.lt_of_lt_of_le A_b2_6.lt z7q)
  have sz_vb7 : h0.size ≤ vb7 := Nat.le_trans K6.1 z7q
  have E_b1_7 := E_b1_6.keep K7q
  have A_b2_7 := A_b2_6.keep K7q (ninS (Ne.symm ne_b1_b2) nin0)
  have O7 := O6.keep K7q (allS ge_b1 all0)
  have K7 := K6.trans K7q (allS (Or.inr sz_b1) all0)
  show own_Go p e below _ T7 (mkF m 114 #[iv 4, iv c0, iv c1, iv c2, iv c3] [(.ref b1)])
  exact own_retA X7 hx hret hlk (hb hby d2_114) rfl rfl (by decide) (by decide) (⟨b1, vb7, _, rfl, N7, K7, sz_b1, ge_b1, sz_vb7, ge7, ne_b1_vb7, E_b1_7, V7q, C7q, A7q⟩)
theorem d6_0 : decode method_5_code 0 = .ok (.iload_n 0, 1) := by decide +kernel
theorem d6_1 : decode method_5_code 1 = .ok (.iconst 3, 1) := by decide +kernel
theorem d6_2 : decode method_5_code 2 = .ok (.if_icmp .le 12, 3) := by decide +kernel
theorem d6_14 : decode method_5_code 14 = .ok (.iload_n 0, 1) := by decide +kernel
theorem d6_15 : decode method_5_code 15 = .ok (.iconst 2, 1) := by decide +kernel
theorem d6_16 : decode method_5_code 16 = .ok (.if_icmp .le 11, 3) := by decide +kernel
theorem d6_27 : decode method_5_code 27 = .ok (.iload_n 0, 1) := by decide +kernel
theorem d6_28 : decode method_5_code 28 = .ok (.iconst 1, 1) := by decide +kernel
theorem d6_29 : decode method_5_code 29 = .ok (.if_icmp .le 11, 3) := by decide +kernel
theorem d6_40 : decode method_5_code 40 = .ok (.iload_n 0, 1) := by decide +kernel
theorem d6_41 : decode method_5_code 41 = .ok (.ifCond .le 11, 3) := by decide +kernel
theorem d6_52 : decode method_5_code 52 = .ok (.iconst (-1), 1) := by decide +kernel
theorem d6_53 : decode method_5_code 53 = .ok (.ireturn, 1) := by decide +kernel
def own_r_own_ls_0_m1 : Room := { frames := 0, cells := 0, slots := 0, locals := 0 }
theorem own_ls_0_m1 (l : Launch) (Z : State) (a0 : Array Value) (hw : own_W a0 Z) (c0 c1 c2 c3 : Int32) (h0 : Heap) (n0 : Nat)  :
    own_Met l Z (⟨"com/example/svazek/svazek/PackageFolderPlaceOfPinLaw", "lastSlash", "(ICCCC)I"⟩ : MethodName) method_5_code 5 (some .int) own_r_own_ls_0_m1 #[(.int 0), (.int c0), (.int c1), (.int c2), (.int c3)] h0 (own_Qv (some (.int (-1))) h0 n0) := by
  refine own_body (by decide +kernel) ?_
  intro p e s m below meth c T0 X0 hx hZ hby hml hown hnm hret hlk e0
  have N0 := Fr.nil n0
  refine own_cast (own_frame (L := [iv 0, iv c0, iv c1, iv c2, iv c3]) (ls := #[iv 0, iv c0, iv c1, iv c2, iv c3]) rfl rfl) ?_
  refine og_iloadN X0 hx (hb hby d6_0) rfl ?_
  refine og_iconst X0 hx (hb hby d6_1) ?_
  refine og_icY X0 hx 14 (hb hby d6_2) (flt (by decide)).2.2.2 (by decide) (by decide) ?_
  refine og_iloadN X0 hx (hb hby d6_14) rfl ?_
  refine og_iconst X0 hx (hb hby d6_15) ?_
  refine og_icY X0 hx 27 (hb hby d6_16) (flt (by decide)).2.2.2 (by decide) (by decide) ?_
  refine og_iloadN X0 hx (hb hby d6_27) rfl ?_
  refine og_iconst X0 hx (hb hby d6_28) ?_
  refine og_icY X0 hx 40 (hb hby d6_29) (flt (by decide)).2.2.2 (by decide) (by decide) ?_
  refine og_iloadN X0 hx (hb hby d6_40) rfl ?_
  refine og_ifY X0 hx 52 (hb hby d6_41) (flt (by decide)).2.2.2 (by decide) (by decide) ?_
  refine og_iconst X0 hx (hb hby d6_52) ?_
  exact own_retI X0 hx hret hlk (hb hby d6_53) rfl (by simp) (by decide) (by decide) (⟨rfl, N0, e0⟩)
theorem d14_0 : decode jdk_43_method_4_code 0 = .ok (.iload_n 0, 1) := by decide +kernel
theorem d14_1 : decode jdk_43_method_4_code 1 = .ok (.ifCond .lt 14, 3) := by decide +kernel
theorem d14_4 : decode jdk_43_method_4_code 4 = .ok (.iload_n 0, 1) := by decide +kernel
theorem d14_5 : decode jdk_43_method_4_code 5 = .ok (.sipush 255, 3) := by decide +kernel
theorem d14_8 : decode jdk_43_method_4_code 8 = .ok (.if_icmp .gt 7, 3) := by decide +kernel
theorem d14_11 : decode jdk_43_method_4_code 11 = .ok (.iconst 1, 1) := by decide +kernel
theorem d14_12 : decode jdk_43_method_4_code 12 = .ok (.goto 4, 3) := by decide +kernel
theorem d14_16 : decode jdk_43_method_4_code 16 = .ok (.ireturn, 1) := by decide +kernel
def own_r_own_ce47 : Room := { frames := 0, cells := 0, slots := 0, locals := 0 }
theorem own_ce47 (l : Launch) (Z : State) (a0 : Array Value) (hw : own_W a0 Z)  (h0 : Heap) (n0 : Nat)  :
    own_Met l Z (⟨"java/lang/StringLatin1", "canEncode", "(I)Z"⟩ : MethodName) jdk_43_method_4_code 1 (some .boolean) own_r_own_ce47 #[(.int 47)] h0 (own_Qv (some (.int 1)) h0 n0) := by
  refine own_body (by decide +kernel) ?_
  intro p e s m below meth c T0 X0 hx hZ hby hml hown hnm hret hlk e0
  have N0 := Fr.nil n0
  refine own_cast (own_frame (L := [iv 47]) (ls := #[iv 47]) rfl rfl) ?_
  refine og_iloadN X0 hx (hb hby d14_0) rfl ?_
  refine og_ifN X0 hx (hb hby d14_1) (flt (by decide)).1 ?_
  refine og_iloadN X0 hx (hb hby d14_4) rfl ?_
  refine og_sipush X0 hx (hb hby d14_5) ?_
  refine og_icN X0 hx (hb hby d14_8) (flt (by decide)).2.2.1 ?_
  refine og_iconst X0 hx (hb hby d14_11) ?_
  refine og_goto X0 hx 16 (hb hby d14_12) (by decide) (by decide) ?_
  exact own_retI X0 hx hret hlk (hb hby d14_16) rfl (by simp) (by decide) (by decide) (⟨rfl, N0, e0⟩)
theorem d15_0 : decode jdk_29_method_69_code 0 = .ok (.iload_n 0, 1) := by decide +kernel
theorem d15_1 : decode jdk_29_method_69_code 1 = .ok (.iload_n 1, 1) := by decide +kernel
theorem d15_2 : decode jdk_29_method_69_code 2 = .ok (.if_icmp .gt 7, 3) := by decide +kernel
theorem d15_5 : decode jdk_29_method_69_code 5 = .ok (.iload_n 0, 1) := by decide +kernel
theorem d15_6 : decode jdk_29_method_69_code 6 = .ok (.goto 4, 3) := by decide +kernel
theorem d15_10 : decode jdk_29_method_69_code 10 = .ok (.ireturn, 1) := by decide +kernel
def own_r_own_min_m1_m1 : Room := { frames := 0, cells := 0, slots := 0, locals := 0 }
theorem own_min_m1_m1 (l : Launch) (Z : State) (a0 : Array Value) (hw : own_W a0 Z)  (h0 : Heap) (n0 : Nat)  :
    own_Met l Z (⟨"java/lang/Math", "min", "(II)I"⟩ : MethodName) jdk_29_method_69_code 2 (some .int) own_r_own_min_m1_m1 #[(.int (-1)), (.int (-1))] h0 (own_Qv (some (.int (-1))) h0 n0) := by
  refine own_body (by decide +kernel) ?_
  intro p e s m below meth c T0 X0 hx hZ hby hml hown hnm hret hlk e0
  have N0 := Fr.nil n0
  refine own_cast (own_frame (L := [iv (-1), iv (-1)]) (ls := #[iv (-1), iv (-1)]) rfl rfl) ?_
  refine og_iloadN X0 hx (hb hby d15_0) rfl ?_
  refine og_iloadN X0 hx (hb hby d15_1) rfl ?_
  refine og_icN X0 hx (hb hby d15_2) (flt (by decide)).2.2.1 ?_
  refine og_iloadN X0 hx (hb hby d15_5) rfl ?_
  refine og_goto X0 hx 10 (hb hby d15_6) (by decide) (by decide) ?_
  exact own_retI X0 hx hret hlk (hb hby d15_10) rfl (by simp) (by decide) (by decide) (⟨rfl, N0, e0⟩)
def own_r_lia : Room := { frames := 1, cells := 0, slots := 0, locals := 13 }
theorem d13_0 : decode jdk_43_method_27_code 0 = .ok (.iload_n 1, 1) := by decide +kernel
theorem d13_1 : decode jdk_43_method_27_code 1 = .ok (.invokestatic 88, 3) := by decide +kernel
theorem d13_4 : decode jdk_43_method_27_code 4 = .ok (.ifCond .ne 5, 3) := by decide +kernel
theorem d13_9 : decode jdk_43_method_27_code 9 = .ok (.iload_n 2, 1) := by decide +kernel
theorem d13_10 : decode jdk_43_method_27_code 10 = .ok (.aload_n 0, 1) := by decide +kernel
theorem d13_11 : decode jdk_43_method_27_code 11 = .ok (.arraylength, 1) := by decide +kernel
theorem d13_12 : decode jdk_43_method_27_code 12 = .ok (.iconst 1, 1) := by decide +kernel
theorem d13_13 : decode jdk_43_method_27_code 13 = .ok (.isub, 1) := by decide +kernel
theorem d13_14 : decode jdk_43_method_27_code 14 = .ok (.invokestatic 38, 3) := by decide +kernel
theorem d13_17 : decode jdk_43_method_27_code 17 = .ok (.istore_n 3, 1) := by decide +kernel
theorem d13_18 : decode jdk_43_method_27_code 18 = .ok (.iload_n 3, 1) := by decide +kernel
theorem d13_19 : decode jdk_43_method_27_code 19 = .ok (.ifCond .lt 19, 3) := by decide +kernel
theorem d13_38 : decode jdk_43_method_27_code 38 = .ok (.iconst (-1), 1) := by decide +kernel
theorem d13_39 : decode jdk_43_method_27_code 39 = .ok (.ireturn, 1) := by decide +kernel
theorem own_pd97859 : parseMethodDescriptor "(I)Z" = some ⟨[.int], some .boolean⟩ := by decide +kernel
theorem own_pd23903 : parseMethodDescriptor "(II)I" = some ⟨[.int, .int], some .int⟩ := by decide +kernel
theorem own_lia_0_m1 (l : Launch) (Z : State) (a0 : Array Value) (hw : own_W a0 Z) (b : Addr) (kb : ClassId) (dv : Value) (h0 : Heap) (n0 : Nat)  (Ab : Arv Z h0 b kb .byte 0 [] dv) :
    own_Met l Z (⟨"java/lang/StringLatin1", "lastIndexOf", "([BII)I"⟩ : MethodName) jdk_43_method_27_code 4 (some .int) own_r_lia #[(.ref b), (.int 47), (.int (-1))] h0 (own_Qv (some (.int (-1))) h0 n0) := by
  refine own_body (by decide +kernel) ?_
  intro p e s m below meth c T0 X0 hx hZ hby hml hown hnm hret hlk e0
  have N0 := Fr.nil n0
  refine own_cast (own_frame (L := [rv b, iv 47, iv (-1)]) (ls := #[rv b, iv 47, iv (-1), .unset]) rfl rfl) ?_
  refine og_iloadN X0 hx (hb hby d13_0) rfl ?_
  refine own_callS X0 hx hZ hown (own_hw hw 66 rfl) (own_hw hw 67 rfl) (own_hw hw 64 rfl) (own_hw hw 68 rfl) (by decide) (argsL := [(.int 47)]) (rest := []) (own_ce47 l Z a0 hw h0 n0) e0 (by rw [hml]; rfl) (lenOf own_pd97859 rfl) rfl (hb hby d13_1) (W := 0) (Nat.le_of_eq rfl) (by decide) ?_
  intro v1 T1 L1 X1 q1
  obtain ⟨rfl, N1q, e1⟩ := q1
  have N1 := Fr.app N0 N1q
  show own_Go p e below _ T1 (mkF m 4 #[rv b, iv 47, iv (-1), .unset] [(.int 1)])
  refine og_ifY X1 hx 9 (hb hby d13_4) (feq (by decide)).2 (by decide) (by decide) ?_
  refine og_iloadN X1 hx (hb hby d13_9) rfl ?_
  refine og_aloadN X1 hx (hb hby d13_10) rfl rfl ?_
  refine own_len X1 hx hZ e1 Ab (hb hby d13_11) ?_
  show own_Go p e below _ T1 (mkF m 12 #[rv b, iv 47, iv (-1), .unset] [(.int 0), (.int (-1))])
  refine og_iconst X1 hx (hb hby d13_12) ?_
  refine og_isub X1 hx (hb hby d13_13) ?_
  show own_Go p e below _ T1 (mkF m 14 #[rv b, iv 47, iv (-1), .unset] [(.int (-1)), (.int (-1))])
  refine own_callS X1 hx hZ hown (own_hw hw 69 rfl) (own_hw hw 70 rfl) (own_hw hw 71 rfl) (own_hw hw 72 rfl) (by decide) (argsL := [(.int (-1)), (.int (-1))]) (rest := []) (own_min_m1_m1 l Z a0 hw h0 n0) e1 (by rw [hml]; rfl) (lenOf own_pd23903 rfl) rfl (hb hby d13_14) (W := 0) (Nat.le_of_eq rfl) (by decide) ?_
  intro v2 T2 L2 X2 q2
  obtain ⟨rfl, N2q, e2⟩ := q2
  have N2 := Fr.app N1 N2q
  show own_Go p e below _ T2 (mkF m 17 #[rv b, iv 47, iv (-1), .unset] [(.int (-1))])
  refine og_istoreN X2 hx #[rv b, iv 47, iv (-1), iv (-1)] (hb hby d13_17) rfl ?_
  refine og_iloadN X2 hx (hb hby d13_18) rfl ?_
  refine og_ifY X2 hx 38 (hb hby d13_19) (tlt (by decide)).1 (by decide) (by decide) ?_
  refine og_iconst X2 hx (hb hby d13_38) ?_
  exact own_retI X2 hx hret hlk (hb hby d13_39) rfl (by simp) (by decide) (by decide) (⟨rfl, N2, e2⟩)
theorem d12_0 : decode jdk_42_method_154_code 0 = .ok (.getstatic 38, 3) := by decide +kernel
theorem d12_3 : decode jdk_42_method_154_code 3 = .ok (.ifCond .eq 14, 3) := by decide +kernel
theorem d12_6 : decode jdk_42_method_154_code 6 = .ok (.aload_n 0, 1) := by decide +kernel
theorem d12_7 : decode jdk_42_method_154_code 7 = .ok (.getfield 15, 3) := by decide +kernel
theorem d12_10 : decode jdk_42_method_154_code 10 = .ok (.ifCond .ne 7, 3) := by decide +kernel
theorem d12_13 : decode jdk_42_method_154_code 13 = .ok (.iconst 1, 1) := by decide +kernel
theorem d12_14 : decode jdk_42_method_154_code 14 = .ok (.goto 4, 3) := by decide +kernel
theorem d12_18 : decode jdk_42_method_154_code 18 = .ok (.ireturn, 1) := by decide +kernel
def own_r_own_isl1 : Room := { frames := 0, cells := 0, slots := 0, locals := 0 }
theorem own_isl1 (l : Launch) (Z : State) (a0 : Array Value) (hw : own_W a0 Z) (z : Int32) (sf : Value) (t : Addr) (h0 : Heap) (n0 : Nat) (hO : Old Z n0 h0) (hG : own_Gs Z z sf) (Fc : own_C Z h0 t) :
    own_Met l Z (⟨"java/lang/String", "isLatin1", "()Z"⟩ : MethodName) jdk_42_method_154_code 1 (some .boolean) own_r_own_isl1 #[(.ref t)] h0 (own_Qv (some (.int 1)) h0 n0) := by
  refine own_body (by decide +kernel) ?_
  intro p e s m below meth c T0 X0 hx hZ hby hml hown hnm hret hlk e0
  have N0 := Fr.nil n0
  refine own_cast (own_frame (L := [rv t]) (ls := #[rv t]) rfl rfl) ?_
  obtain ⟨SC, hz, SF, rf⟩ := id hG
  refine og_getS X0 hx hZ hown (own_hw hw 51 rfl) Via.refl e0 (SC.ext hO.2) (hb hby d12_0) ?_
  intro T1 X1 e1
  show own_Go p e below _ T1 (mkF m 3 #[rv t] [(.int z)])
  refine og_ifN X1 hx (hb hby d12_3) (feq hz).1 ?_
  refine og_aloadN X1 hx (hb hby d12_6) rfl rfl ?_
  refine og_getF X1 hx hZ hown (own_hw hw 28 rfl) Via.refl e1 Fc (hb hby d12_7) ?_
  intro T2 X2 e2
  show own_Go p e below _ T2 (mkF m 10 #[rv t] [(.int (0 : Int32))])
  refine og_ifN X2 hx (hb hby d12_10) (teq (by decide)).2 ?_
  refine og_iconst X2 hx (hb hby d12_13) ?_
  refine og_goto X2 hx 18 (hb hby d12_14) (by decide) (by decide) ?_
  exact own_retI X2 hx hret hlk (hb hby d12_18) rfl (by simp) (by decide) (by decide) (⟨rfl, N0, e2⟩)
theorem d11_0 : decode jdk_42_method_83_code 0 = .ok (.aload_n 0, 1) := by decide +kernel
theorem d11_1 : decode jdk_42_method_83_code 1 = .ok (.invokevirtual 492, 3) := by decide +kernel
theorem d11_4 : decode jdk_42_method_83_code 4 = .ok (.ifCond .eq 15, 3) := by decide +kernel
theorem d11_7 : decode jdk_42_method_83_code 7 = .ok (.aload_n 0, 1) := by decide +kernel
theorem d11_8 : decode jdk_42_method_83_code 8 = .ok (.getfield 9, 3) := by decide +kernel
theorem d11_11 : decode jdk_42_method_83_code 11 = .ok (.iload_n 1, 1) := by decide +kernel
theorem d11_12 : decode jdk_42_method_83_code 12 = .ok (.iload_n 2, 1) := by decide +kernel
theorem d11_13 : decode jdk_42_method_83_code 13 = .ok (.invokestatic 644, 3) := by decide +kernel
theorem d11_16 : decode jdk_42_method_83_code 16 = .ok (.goto 12, 3) := by decide +kernel
theorem d11_28 : decode jdk_42_method_83_code 28 = .ok (.ireturn, 1) := by decide +kernel
theorem own_pd61835 : parseMethodDescriptor "()Z" = some ⟨[], some .boolean⟩ := by decide +kernel
theorem own_pd83039 : parseMethodDescriptor "([BII)I" = some ⟨[(.array .byte), .int, .int], some .int⟩ := by decide +kernel
def own_r_own_lib_0 : Room := { frames := 2, cells := 0, slots := 0, locals := 28 }
theorem own_lib_0 (l : Launch) (Z : State) (a0 : Array Value) (hw : own_W a0 Z) (z : Int32) (sf : Value) (t b : Addr) (kb : ClassId) (dv : Value) (r : Int32) (h0 : Heap) (n0 : Nat) (hO : Old Z n0 h0) (hG : own_Gs Z z sf) (inn : own_Met l Z (⟨"java/lang/StringLatin1", "lastIndexOf", "([BII)I"⟩ : MethodName) jdk_43_method_27_code 4 (some .int) own_r_lia #[.ref b, .int 47, .int (-1)] h0 (own_Qv (some (.int r)) h0 n0)) (Et : own_E Z h0 t) (Fv : own_V Z h0 t b) (Fc : own_C Z h0 t) (Ab : Arv Z h0 b kb .byte 0 [] dv) :
    own_Met l Z (⟨"java/lang/String", "lastIndexOf", "(II)I"⟩ : MethodName) jdk_42_method_83_code 3 (some .int) own_r_own_lib_0 #[(.ref t), (.int 47), (.int (-1))] h0 (own_Qv (some (.int r)) h0 n0) := by
  refine own_body (by decide +kernel) ?_
  intro p e s m below meth c T0 X0 hx hZ hby hml hown hnm hret hlk e0
  have N0 := Fr.nil n0
  refine own_cast (own_frame (L := [rv t, iv 47, iv (-1)]) (ls := #[rv t, iv 47, iv (-1)]) rfl rfl) ?_
  obtain ⟨SC, hz, SF, rf⟩ := id hG
  refine og_aloadN X0 hx (hb hby d11_0) rfl rfl ?_
  refine own_callV X0 hx hZ hown (own_hw hw 57 rfl) (own_hw hw 58 rfl) (notFace_of_selects (args := #[]) (mvT hZ (own_hw hw 60 rfl))) (own_hw hw 60 rfl) (own_hw hw 59 rfl) (own_hw hw 61 rfl) (own_hw hw 9 rfl) (by decide) (b := t) (argsL := []) (rest := []) (own_isl1 l Z a0 hw z sf t h0 n0 hO hG Fc) e0 Et (by rw [hml]; rfl) (lenOf own_pd61835 rfl) rfl (hb hby d11_1) (W := 0) (Nat.le_of_eq rfl) (by decide) ?_
  intro v1 T1 L1 X1 q1
  obtain ⟨rfl, N1q, e1⟩ := q1
  have N1 := Fr.app N0 N1q
  show own_Go p e below _ T1 (mkF m 4 #[rv t, iv 47, iv (-1)] [(.int (1 : Int32))])
  refine og_ifN X1 hx (hb hby d11_4) (feq (by decide)).1 ?_
  refine og_aloadN X1 hx (hb hby d11_7) rfl rfl ?_
  refine og_getF X1 hx hZ hown (own_hw hw 27 rfl) Via.refl e1 Fv (hb hby d11_8) ?_
  intro T2 X2 e2
  refine og_iloadN X2 hx (hb hby d11_11) rfl ?_
  refine og_iloadN X2 hx (hb hby d11_12) rfl ?_
  refine own_callS X2 hx hZ hown (own_hw hw 62 rfl) (own_hw hw 63 rfl) (own_hw hw 64 rfl) (own_hw hw 65 rfl) (by decide) (argsL := [(.ref b), (.int 47), (.int (-1))]) (rest := []) inn e2 (by rw [hml]; rfl) (lenOf own_pd83039 rfl) rfl (hb hby d11_13) (W := 0) (Nat.le_of_eq rfl) (by decide) ?_
  intro v3 T3 L3 X3 q3
  obtain ⟨rfl, N3q, e3⟩ := q3
  have N3 := Fr.app N1 N3q
  show own_Go p e below _ T3 (mkF m 16 #[rv t, iv 47, iv (-1)] [(.int r)])
  refine og_goto X3 hx 28 (hb hby d11_16) (by decide) (by decide) ?_
  exact own_retI X3 hx hret hlk (hb hby d11_28) rfl (by simp) (by decide) (by decide) (⟨rfl, N3, e3⟩)
theorem own_shr0 (n : Int32) : (n >>> ((0 : Int32) &&& 31)) = n := Int32.toInt_inj.mp (by rw [Jvm.Kit.i32_shr n _ (k := 0) (by decide)]; omega)
theorem d10_0 : decode jdk_42_method_152_code 0 = .ok (.getstatic 38, 3) := by decide +kernel
theorem d10_3 : decode jdk_42_method_152_code 3 = .ok (.ifCond .eq 10, 3) := by decide +kernel
theorem d10_6 : decode jdk_42_method_152_code 6 = .ok (.aload_n 0, 1) := by decide +kernel
theorem d10_7 : decode jdk_42_method_152_code 7 = .ok (.getfield 15, 3) := by decide +kernel
theorem d10_10 : decode jdk_42_method_152_code 10 = .ok (.goto 4, 3) := by decide +kernel
theorem d10_14 : decode jdk_42_method_152_code 14 = .ok (.ireturn, 1) := by decide +kernel
def own_r_own_coder : Room := { frames := 0, cells := 0, slots := 0, locals := 0 }
theorem own_coder (l : Launch) (Z : State) (a0 : Array Value) (hw : own_W a0 Z) (z : Int32) (sf : Value) (t : Addr) (h0 : Heap) (n0 : Nat) (hO : Old Z n0 h0) (hG : own_Gs Z z sf) (Fc : own_C Z h0 t) :
    own_Met l Z (⟨"java/lang/String", "coder", "()B"⟩ : MethodName) jdk_42_method_152_code 1 (some .byte) own_r_own_coder #[(.ref t)] h0 (own_Qv (some (.int 0)) h0 n0) := by
  refine own_body (by decide +kernel) ?_
  intro p e s m below meth c T0 X0 hx hZ hby hml hown hnm hret hlk e0
  have N0 := Fr.nil n0
  refine own_cast (own_frame (L := [rv t]) (ls := #[rv t]) rfl rfl) ?_
  obtain ⟨SC, hz, SF, rf⟩ := id hG
  refine og_getS X0 hx hZ hown (own_hw hw 51 rfl) Via.refl e0 (SC.ext hO.2) (hb hby d10_0) ?_
  intro T1 X1 e1
  show own_Go p e below _ T1 (mkF m 3 #[rv t] [(.int z)])
  refine og_ifN X1 hx (hb hby d10_3) (feq hz).1 ?_
  refine og_aloadN X1 hx (hb hby d10_6) rfl rfl ?_
  refine og_getF X1 hx hZ hown (own_hw hw 28 rfl) Via.refl e1 Fc (hb hby d10_7) ?_
  intro T2 X2 e2
  refine og_goto X2 hx 14 (hb hby d10_10) (by decide) (by decide) ?_
  exact own_retI X2 hx hret hlk (hb hby d10_14) rfl (by simp) (by decide) (by decide) (⟨rfl, N0, e2⟩)
theorem d9_0 : decode jdk_42_method_54_code 0 = .ok (.aload_n 0, 1) := by decide +kernel
theorem d9_1 : decode jdk_42_method_54_code 1 = .ok (.getfield 9, 3) := by decide +kernel
theorem d9_4 : decode jdk_42_method_54_code 4 = .ok (.arraylength, 1) := by decide +kernel
theorem d9_5 : decode jdk_42_method_54_code 5 = .ok (.aload_n 0, 1) := by decide +kernel
theorem d9_6 : decode jdk_42_method_54_code 6 = .ok (.invokevirtual 335, 3) := by decide +kernel
theorem d9_9 : decode jdk_42_method_54_code 9 = .ok (.ishr, 1) := by decide +kernel
theorem d9_10 : decode jdk_42_method_54_code 10 = .ok (.ireturn, 1) := by decide +kernel
theorem own_pd59997 : parseMethodDescriptor "()B" = some ⟨[], some .byte⟩ := by decide +kernel
def own_r_own_slen : Room := { frames := 1, cells := 0, slots := 0, locals := 13 }
theorem own_slen (l : Launch) (Z : State) (a0 : Array Value) (hw : own_W a0 Z) (z : Int32) (sf : Value) (t b : Addr) (kb : ClassId) (dv : Value) (n : Int32) (vs : List Value) (h0 : Heap) (n0 : Nat) (hO : Old Z n0 h0) (hG : own_Gs Z z sf) (Et : own_E Z h0 t) (Fv : own_V Z h0 t b) (Fc : own_C Z h0 t) (Ab : Arv Z h0 b kb .byte n vs dv) :
    own_Met l Z (⟨"java/lang/String", "length", "()I"⟩ : MethodName) jdk_42_method_54_code 1 (some .int) own_r_own_slen #[(.ref t)] h0 (own_Qv (some (.int n)) h0 n0) := by
  refine own_body (by decide +kernel) ?_
  intro p e s m below meth c T0 X0 hx hZ hby hml hown hnm hret hlk e0
  have N0 := Fr.nil n0
  refine own_cast (own_frame (L := [rv t]) (ls := #[rv t]) rfl rfl) ?_
  obtain ⟨SC, hz, SF, rf⟩ := id hG
  refine og_aloadN X0 hx (hb hby d9_0) rfl rfl ?_
  refine og_getF X0 hx hZ hown (own_hw hw 27 rfl) Via.refl e0 Fv (hb hby d9_1) ?_
  intro T1 X1 e1
  show own_Go p e below _ T1 (mkF m 4 #[rv t] [(.ref b)])
  refine own_len X1 hx hZ e1 Ab (hb hby d9_4) ?_
  show own_Go p e below _ T1 (mkF m 5 #[rv t] [(.int n)])
  refine og_aloadN X1 hx (hb hby d9_5) rfl rfl ?_
  refine own_callV X1 hx hZ hown (own_hw hw 46 rfl) (own_hw hw 47 rfl) (notFace_of_selects (args := #[]) (mvT hZ (own_hw hw 49 rfl))) (own_hw hw 49 rfl) (own_hw hw 48 rfl) (own_hw hw 50 rfl) (own_hw hw 9 rfl) (by decide) (b := t) (argsL := []) (rest := [(.int n)]) (own_coder l Z a0 hw z sf t h0 n0 hO hG Fc) e1 Et (by rw [hml]; rfl) (lenOf own_pd59997 rfl) rfl (hb hby d9_6) (W := 1) (Nat.le_of_eq rfl) (by decide) ?_
  intro v2 T2 L2 X2 q2
  obtain ⟨rfl, N2q, e2⟩ := q2
  have N2 := Fr.app N0 N2q
  show own_Go p e below _ T2 (mkF m 9 #[rv t] [(.int (0 : Int32)), (.int n)])
  refine own_go (fun t k => XS.ishr X2.here hx rfl (hb hby d9_9) rfl k) ?_
  show own_Go p e below _ T2 (mkF m 10 #[rv t] [(.int (n >>> ((0 : Int32) &&& 31)))])
  rw [own_shr0 n]
  show own_Go p e below _ T2 (mkF m 10 #[rv t] [(.int n)])
  exact own_retI X2 hx hret hlk (hb hby d9_10) rfl (by simp) (by decide) (by decide) (⟨rfl, N2, e2⟩)
theorem d8_0 : decode jdk_42_method_82_code 0 = .ok (.aload_n 0, 1) := by decide +kernel
theorem d8_1 : decode jdk_42_method_82_code 1 = .ok (.iload_n 1, 1) := by decide +kernel
theorem d8_2 : decode jdk_42_method_82_code 2 = .ok (.aload_n 0, 1) := by decide +kernel
theorem d8_3 : decode jdk_42_method_82_code 3 = .ok (.invokevirtual 505, 3) := by decide +kernel
theorem d8_6 : decode jdk_42_method_82_code 6 = .ok (.iconst 1, 1) := by decide +kernel
theorem d8_7 : decode jdk_42_method_82_code 7 = .ok (.isub, 1) := by decide +kernel
theorem d8_8 : decode jdk_42_method_82_code 8 = .ok (.invokevirtual 641, 3) := by decide +kernel
theorem d8_11 : decode jdk_42_method_82_code 11 = .ok (.ireturn, 1) := by decide +kernel
theorem own_pd13941 : parseMethodDescriptor "()I" = some ⟨[], some .int⟩ := by decide +kernel
def own_r_own_lic_0 : Room := { frames := 3, cells := 0, slots := 0, locals := 42 }
theorem own_lic_0 (l : Launch) (Z : State) (a0 : Array Value) (hw : own_W a0 Z) (z : Int32) (sf : Value) (t b : Addr) (kb : ClassId) (dv : Value) (r : Int32) (h0 : Heap) (n0 : Nat) (hO : Old Z n0 h0) (hG : own_Gs Z z sf) (inn : own_Met l Z (⟨"java/lang/StringLatin1", "lastIndexOf", "([BII)I"⟩ : MethodName) jdk_43_method_27_code 4 (some .int) own_r_lia #[.ref b, .int 47, .int (-1)] h0 (own_Qv (some (.int r)) h0 n0)) (Et : own_E Z h0 t) (Fv : own_V Z h0 t b) (Fc : own_C Z h0 t) (Ab : Arv Z h0 b kb .byte 0 [] dv) :
    own_Met l Z (⟨"java/lang/String", "lastIndexOf", "(I)I"⟩ : MethodName) jdk_42_method_82_code 2 (some .int) own_r_own_lic_0 #[(.ref t), (.int 47)] h0 (own_Qv (some (.int r)) h0 n0) := by
  refine own_body (by decide +kernel) ?_
  intro p e s m below meth c T0 X0 hx hZ hby hml hown hnm hret hlk e0
  have N0 := Fr.nil n0
  refine own_cast (own_frame (L := [rv t, iv 47]) (ls := #[rv t, iv 47]) rfl rfl) ?_
  obtain ⟨SC, hz, SF, rf⟩ := id hG
  refine og_aloadN X0 hx (hb hby d8_0) rfl rfl ?_
  refine og_iloadN X0 hx (hb hby d8_1) rfl ?_
  refine og_aloadN X0 hx (hb hby d8_2) rfl rfl ?_
  refine own_callV X0 hx hZ hown (own_hw hw 41 rfl) (own_hw hw 42 rfl) (notFace_of_selects (args := #[]) (mvT hZ (own_hw hw 44 rfl))) (own_hw hw 44 rfl) (own_hw hw 43 rfl) (own_hw hw 45 rfl) (own_hw hw 9 rfl) (by decide) (b := t) (argsL := []) (rest := [(.int 47), (.ref t)]) (own_slen l Z a0 hw z sf t b _ _ _ _ h0 n0 hO hG Et Fv Fc Ab) e0 Et (by rw [hml]; rfl) (lenOf own_pd13941 rfl) rfl (hb hby d8_3) (W := 2) (Nat.le_of_eq rfl) (by decide) ?_
  intro v1 T1 L1 X1 q1
  obtain ⟨rfl, N1q, e1⟩ := q1
  have N1 := Fr.app N0 N1q
  show own_Go p e below _ T1 (mkF m 6 #[rv t, iv 47] [(.int 0), (.int 47), (.ref t)])
  refine og_iconst X1 hx (hb hby d8_6) ?_
  refine og_isub X1 hx (hb hby d8_7) ?_
  show own_Go p e below _ T1 (mkF m 8 #[rv t, iv 47] [(.int (-1)), (.int 47), (.ref t)])
  refine own_callV X1 hx hZ hown (own_hw hw 52 rfl) (own_hw hw 53 rfl) (notFace_of_selects (args := #[]) (mvT hZ (own_hw hw 55 rfl))) (own_hw hw 55 rfl) (own_hw hw 54 rfl) (own_hw hw 56 rfl) (own_hw hw 9 rfl) (by decide) (b := t) (argsL := [(.int 47), (.int (-1))]) (rest := []) (own_lib_0 l Z a0 hw z sf t b _ _ r h0 n0 hO hG inn Et Fv Fc Ab) e1 Et (by rw [hml]; rfl) (lenOf own_pd23903 rfl) rfl (hb hby d8_8) (W := 0) (Nat.le_of_eq rfl) (by decide) ?_
  intro v2 T2 L2 X2 q2
  obtain ⟨rfl, N2q, e2⟩ := q2
  have N2 := Fr.app N1 N2q
  show own_Go p e below _ T2 (mkF m 11 #[rv t, iv 47] [(.int r)])
  exact own_retI X2 hx hret hlk (hb hby d8_11) rfl (by simp) (by decide) (by decide) (⟨rfl, N2, e2⟩)
def own_Qe (Z : State) (h0 : Heap) (n0 : Nat) (v : Option Value) (h : Heap) (L : List Loc) : Prop := ∃ (t b : Addr) (k : ClassId), v = some (.ref t) ∧ Fr n0 L ∧ Keep h0 h [] ∧ own_E Z h t ∧ own_V Z h t b ∧ own_C Z h t ∧ Arv Z h b k .byte (0 : Int32) [] (.int (0 : Int32))
theorem d7_0 : decode prog_41_method_7_code 0 = .ok (.aload_n 0, 1) := by decide +kernel
theorem d7_1 : decode prog_41_method_7_code 1 = .ok (.bipush 47, 2) := by decide +kernel
theorem d7_3 : decode prog_41_method_7_code 3 = .ok (.invokevirtual 158, 3) := by decide +kernel
theorem d7_6 : decode prog_41_method_7_code 6 = .ok (.istore_n 1, 1) := by decide +kernel
theorem d7_7 : decode prog_41_method_7_code 7 = .ok (.iload_n 1, 1) := by decide +kernel
theorem d7_8 : decode prog_41_method_7_code 8 = .ok (.ifCond .ge 8, 3) := by decide +kernel
theorem d7_11 : decode prog_41_method_7_code 11 = .ok (.ldc 161, 2) := by decide +kernel
theorem d7_13 : decode prog_41_method_7_code 13 = .ok (.goto 9, 3) := by decide +kernel
theorem d7_22 : decode prog_41_method_7_code 22 = .ok (.areturn, 1) := by decide +kernel
theorem own_pd49053 : parseMethodDescriptor "(I)I" = some ⟨[.int], some .int⟩ := by decide +kernel
def own_r_own_po_0_m1 : Room := { frames := 4, cells := 2, slots := 4, locals := 55 }
theorem own_po_0_m1 (l : Launch) (Z : State) (a0 : Array Value) (hw : own_W a0 Z) (z : Int32) (sf : Value) (t b : Addr) (kb : ClassId) (dv : Value) (h0 : Heap) (n0 : Nat) (hO : Old Z n0 h0) (hG : own_Gs Z z sf)  (Et : own_E Z h0 t) (Fv : own_V Z h0 t b) (Fc : own_C Z h0 t) (Ab : Arv Z h0 b kb .byte 0 [] dv) :
    own_MetH l Z own_EL (⟨"com/example/svazek/svazek/PackageFolder", "placeOf", "(Ljava/lang/String;)Ljava/lang/String;"⟩ : MethodName) prog_41_method_7_code 2 (some (.object "java/lang/String")) own_r_own_po_0_m1 #[(.ref t)] h0 (own_Qe Z h0 n0) := by
  refine own_bodyH (by decide +kernel) ?_
  intro p e s m below meth c T0 X0 hx hZ hby hml hown hnm hret hlk e0 hS hk C0
  have hwS : ∀ a ∈ Bundle.stringAtoms, a.before a0 Z = true := fun d hd => hw d ((by decide +kernel : ∀ d ∈ Bundle.stringAtoms, d ∈ tables_1) d hd)
  have N0 := Fr.nil n0
  refine own_cast (own_frame (L := [rv t]) (ls := #[rv t, .unset]) rfl rfl) ?_
  obtain ⟨SC, hz, SF, rf⟩ := id hG
  refine og_aloadN X0 hx (hb hby d7_0) rfl rfl ?_
  refine og_bipush X0 hx (hb hby d7_1) ?_
  refine own_callV X0 hx hZ hown (own_hw hw 36 rfl) (own_hw hw 37 rfl) (notFace_of_selects (args := #[]) (mvT hZ (own_hw hw 39 rfl))) (own_hw hw 39 rfl) (own_hw hw 38 rfl) (own_hw hw 40 rfl) (own_hw hw 9 rfl) (by decide) (b := t) (argsL := [(.int 47)]) (rest := []) (own_lic_0 l Z a0 hw z sf t b _ _ (-1) h0 n0 hO hG (own_lia_0_m1 l Z a0 hw b _ _ h0 n0 Ab) Et Fv Fc Ab) e0 Et (by rw [hml]; rfl) (lenOf own_pd49053 rfl) rfl (hb hby d7_3) (W := 0) (Nat.le_of_eq rfl) (by decide) ?_
  intro v1 T1 L1 X1 q1
  obtain ⟨rfl, N1q, e1⟩ := q1
  have N1 := Fr.app N0 N1q
  show own_Go p e below _ T1 (mkF m 6 #[rv t, .unset] [(.int (-1))])
  refine og_istoreN X1 hx #[rv t, iv (-1)] (hb hby d7_6) rfl ?_
  refine og_iloadN X1 hx (hb hby d7_7) rfl ?_
  refine og_ifN X1 hx (hb hby d7_8) (tlt (by decide)).2.1 ?_
  show own_Go p e below _ T1 (mkF m 11 #[rv t, iv (-1)] [])
  refine own_ldcH X1 hx hZ hown (own_hw hw 73 rfl) hwS e1 hS hk (own_EW hw) (List.mem_of_getElem? (i := 1) rfl) C0.1 (z := 0) ⟨by decide, rfl⟩ (by decide) rfl (hb hby d7_11) 0 (by decide) (by decide) (by decide) (by decide) ?_
  intro s2 T2 h2 k2 d2 kb2 X2 e2 E2 hS2 hk2 hZ2 hown2 Es2 Fc2 Fv2 As2 C2q Lt2 ns2
  have E_t_2 := Et.ext E2
  have F_t_value_2 := Fv.ext E2
  have F_t_coder_2 := Fc.ext E2
  have A_b_2 := Ab.ext E2
  have C2 := C0.trans C2q
  have O2 := hO.ext E2
  have K2 := (Keep.refl h0 []).ext E2
  have E_s2_2 : Exa Z h2 s2 "java/lang/String" := Es2
  have F_s2_coder_2 : Fld Z h2 s2 "java/lang/String" "coder" "B" (.int (0 : Int32)) := Fc2
  have F_s2_value_2 : Fld Z h2 s2 "java/lang/String" "value" "[B" (.ref d2) := Fv2
  have A_d2_2 : Arv Z h2 d2 kb2 .byte 0 [] (.int 0) := As2
  show own_Go p e below _ T2 (mkF m 13 #[rv t, iv (-1)] [(.ref s2)])
  refine og_goto X2 hx 22 (hb hby d7_13) (by decide) (by decide) ?_
  exact own_retAH X2 hx hret hlk (hb hby d7_22) rfl rfl hZ2 (own_EW hw) C2 e2 hS2 hk2 (by decide) (by decide) (by rw [e2]; exact ⟨s2, d2, _, rfl, N1, K2, E_s2_2, F_s2_value_2, F_s2_coder_2, A_d2_2⟩)
theorem d6_44 : decode method_5_code 44 = .ok (.iload_n 1, 1) := by decide +kernel
theorem d6_45 : decode method_5_code 45 = .ok (.bipush 47, 2) := by decide +kernel
theorem d6_47 : decode method_5_code 47 = .ok (.if_icmp .ne 5, 3) := by decide +kernel
def own_r_own_ls_1_m1 : Room := { frames := 0, cells := 0, slots := 0, locals := 0 }
theorem own_ls_1_m1 (l : Launch) (Z : State) (a0 : Array Value) (hw : own_W a0 Z) (c0 c1 c2 c3 : Int32) (h0 : Heap) (n0 : Nat) (m0 : ¬ c0 = 47) :
    own_Met l Z (⟨"com/example/svazek/svazek/PackageFolderPlaceOfPinLaw", "lastSlash", "(ICCCC)I"⟩ : MethodName) method_5_code 5 (some .int) own_r_own_ls_1_m1 #[(.int 1), (.int c0), (.int c1), (.int c2), (.int c3)] h0 (own_Qv (some (.int (-1))) h0 n0) := by
  refine own_body (by decide +kernel) ?_
  intro p e s m below meth c T0 X0 hx hZ hby hml hown hnm hret hlk e0
  have N0 := Fr.nil n0
  refine own_cast (own_frame (L := [iv 1, iv c0, iv c1, iv c2, iv c3]) (ls := #[iv 1, iv c0, iv c1, iv c2, iv c3]) rfl rfl) ?_
  refine og_iloadN X0 hx (hb hby d6_0) rfl ?_
  refine og_iconst X0 hx (hb hby d6_1) ?_
  refine og_icY X0 hx 14 (hb hby d6_2) (flt (by decide)).2.2.2 (by decide) (by decide) ?_
  refine og_iloadN X0 hx (hb hby d6_14) rfl ?_
  refine og_iconst X0 hx (hb hby d6_15) ?_
  refine og_icY X0 hx 27 (hb hby d6_16) (flt (by decide)).2.2.2 (by decide) (by decide) ?_
  refine og_iloadN X0 hx (hb hby d6_27) rfl ?_
  refine og_iconst X0 hx (hb hby d6_28) ?_
  refine og_icY X0 hx 40 (hb hby d6_29) (flt (by decide)).2.2.2 (by decide) (by decide) ?_
  refine og_iloadN X0 hx (hb hby d6_40) rfl ?_
  refine og_ifN X0 hx (hb hby d6_41) (tlt (by decide)).2.2.2 ?_
  refine og_iloadN X0 hx (hb hby d6_44) rfl ?_
  refine og_bipush X0 hx (hb hby d6_45) ?_
  refine og_icY X0 hx 52 (hb hby d6_47) (feq m0).2 (by decide) (by decide) ?_
  refine og_iconst X0 hx (hb hby d6_52) ?_
  exact own_retI X0 hx hret hlk (hb hby d6_53) rfl (by simp) (by decide) (by decide) (⟨rfl, N0, e0⟩)
def own_r_own_min_0_0 : Room := { frames := 0, cells := 0, slots := 0, locals := 0 }
theorem own_min_0_0 (l : Launch) (Z : State) (a0 : Array Value) (hw : own_W a0 Z)  (h0 : Heap) (n0 : Nat)  :
    own_Met l Z (⟨"java/lang/Math", "min", "(II)I"⟩ : MethodName) jdk_29_method_69_code 2 (some .int) own_r_own_min_0_0 #[(.int 0), (.int 0)] h0 (own_Qv (some (.int (0))) h0 n0) := by
  refine own_body (by decide +kernel) ?_
  intro p e s m below meth c T0 X0 hx hZ hby hml hown hnm hret hlk e0
  have N0 := Fr.nil n0
  refine own_cast (own_frame (L := [iv 0, iv 0]) (ls := #[iv 0, iv 0]) rfl rfl) ?_
  refine og_iloadN X0 hx (hb hby d15_0) rfl ?_
  refine og_iloadN X0 hx (hb hby d15_1) rfl ?_
  refine og_icN X0 hx (hb hby d15_2) (flt (by decide)).2.2.1 ?_
  refine og_iloadN X0 hx (hb hby d15_5) rfl ?_
  refine og_goto X0 hx 10 (hb hby d15_6) (by decide) (by decide) ?_
  exact own_retI X0 hx hret hlk (hb hby d15_10) rfl (by simp) (by decide) (by decide) (⟨rfl, N0, e0⟩)
theorem d13_22 : decode jdk_43_method_27_code 22 = .ok (.aload_n 0, 1) := by decide +kernel
theorem d13_23 : decode jdk_43_method_27_code 23 = .ok (.iload_n 3, 1) := by decide +kernel
theorem d13_24 : decode jdk_43_method_27_code 24 = .ok (.baload, 1) := by decide +kernel
theorem d13_25 : decode jdk_43_method_27_code 25 = .ok (.iload_n 1, 1) := by decide +kernel
theorem d13_26 : decode jdk_43_method_27_code 26 = .ok (.i2b, 1) := by decide +kernel
theorem d13_27 : decode jdk_43_method_27_code 27 = .ok (.if_icmp .ne 5, 3) := by decide +kernel
theorem d13_32 : decode jdk_43_method_27_code 32 = .ok (.iinc 3 (-1), 3) := by decide +kernel
theorem d13_35 : decode jdk_43_method_27_code 35 = .ok (.goto (-17), 3) := by decide +kernel
theorem own_lia_1_m1 (l : Launch) (Z : State) (a0 : Array Value) (hw : own_W a0 Z) (b : Addr) (kb : ClassId) (dv : Value) (c0 : Int32) (h0 : Heap) (n0 : Nat) (hc0 : ¬ c0 < 0 ∧ ¬ (255 : Int32) < c0) (m0 : ¬ c0 = 47) (Ab : Arv Z h0 b kb .byte 1 [(.int c0.toInt8.toInt32)] dv) :
    own_Met l Z (⟨"java/lang/StringLatin1", "lastIndexOf", "([BII)I"⟩ : MethodName) jdk_43_method_27_code 4 (some .int) own_r_lia #[(.ref b), (.int 47), (.int 0)] h0 (own_Qv (some (.int (-1))) h0 n0) := by
  refine own_body (by decide +kernel) ?_
  intro p e s m below meth c T0 X0 hx hZ hby hml hown hnm hret hlk e0
  have N0 := Fr.nil n0
  refine own_cast (own_frame (L := [rv b, iv 47, iv 0]) (ls := #[rv b, iv 47, iv 0, .unset]) rfl rfl) ?_
  refine og_iloadN X0 hx (hb hby d13_0) rfl ?_
  refine own_callS X0 hx hZ hown (own_hw hw 66 rfl) (own_hw hw 67 rfl) (own_hw hw 64 rfl) (own_hw hw 68 rfl) (by decide) (argsL := [(.int 47)]) (rest := []) (own_ce47 l Z a0 hw h0 n0) e0 (by rw [hml]; rfl) (lenOf own_pd97859 rfl) rfl (hb hby d13_1) (W := 0) (Nat.le_of_eq rfl) (by decide) ?_
  intro v1 T1 L1 X1 q1
  obtain ⟨rfl, N1q, e1⟩ := q1
  have N1 := Fr.app N0 N1q
  show own_Go p e below _ T1 (mkF m 4 #[rv b, iv 47, iv 0, .unset] [(.int 1)])
  refine og_ifY X1 hx 9 (hb hby d13_4) (feq (by decide)).2 (by decide) (by decide) ?_
  refine og_iloadN X1 hx (hb hby d13_9) rfl ?_
  refine og_aloadN X1 hx (hb hby d13_10) rfl rfl ?_
  refine own_len X1 hx hZ e1 Ab (hb hby d13_11) ?_
  show own_Go p e below _ T1 (mkF m 12 #[rv b, iv 47, iv 0, .unset] [(.int 1), (.int 0)])
  refine og_iconst X1 hx (hb hby d13_12) ?_
  refine og_isub X1 hx (hb hby d13_13) ?_
  show own_Go p e below _ T1 (mkF m 14 #[rv b, iv 47, iv 0, .unset] [(.int 0), (.int 0)])
  refine own_callS X1 hx hZ hown (own_hw hw 69 rfl) (own_hw hw 70 rfl) (own_hw hw 71 rfl) (own_hw hw 72 rfl) (by decide) (argsL := [(.int 0), (.int 0)]) (rest := []) (own_min_0_0 l Z a0 hw h0 n0) e1 (by rw [hml]; rfl) (lenOf own_pd23903 rfl) rfl (hb hby d13_14) (W := 0) (Nat.le_of_eq rfl) (by decide) ?_
  intro v2 T2 L2 X2 q2
  obtain ⟨rfl, N2q, e2⟩ := q2
  have N2 := Fr.app N1 N2q
  show own_Go p e below _ T2 (mkF m 17 #[rv b, iv 47, iv 0, .unset] [(.int 0)])
  refine og_istoreN X2 hx #[rv b, iv 47, iv 0, iv 0] (hb hby d13_17) rfl ?_
  refine og_iloadN X2 hx (hb hby d13_18) rfl ?_
  refine og_ifN X2 hx (hb hby d13_19) (flt (by decide)).1 ?_
  refine og_aloadN X2 hx (hb hby d13_22) rfl rfl ?_
  refine og_iloadN X2 hx (hb hby d13_23) rfl ?_
  refine own_ldB X2 hx hZ e2 Ab ⟨by decide, by decide⟩ rfl (hb hby d13_24) ?_
  show own_Go p e below _ T2 (mkF m 25 #[rv b, iv 47, iv 0, iv 0] [(.int c0.toInt8.toInt32)])
  refine og_iloadN X2 hx (hb hby d13_25) rfl ?_
  refine own_go (fun t k => XS.i2b X2.here hx rfl (hb hby d13_26) rfl k) ?_
  show own_Go p e below _ T2 (mkF m 27 #[rv b, iv 47, iv 0, iv 0] [(.int 47), (.int c0.toInt8.toInt32)])
  refine og_icY X2 hx 32 (hb hby d13_27) (feq (fun q => m0 (own_b47 _ hc0 q))).2 (by decide) (by decide) ?_
  refine own_go (fun t k => XS.iinc X2.here hx rfl (hb hby d13_32) rfl (l' := #[rv b, iv 47, iv 0, iv (-1)]) rfl k) ?_
  show own_Go p e below _ T2 (mkF m 35 #[rv b, iv 47, iv 0, iv (-1)] [])
  refine og_goto X2 hx 18 (hb hby d13_35) (by decide) (by decide) ?_
  refine og_iloadN X2 hx (hb hby d13_18) rfl ?_
  refine og_ifY X2 hx 38 (hb hby d13_19) (tlt (by decide)).1 (by decide) (by decide) ?_
  refine og_iconst X2 hx (hb hby d13_38) ?_
  exact own_retI X2 hx hret hlk (hb hby d13_39) rfl (by simp) (by decide) (by decide) (⟨rfl, N2, e2⟩)
def own_r_own_lib_1 : Room := { frames := 2, cells := 0, slots := 0, locals := 28 }
theorem own_lib_1 (l : Launch) (Z : State) (a0 : Array Value) (hw : own_W a0 Z) (z : Int32) (sf : Value) (t b : Addr) (kb : ClassId) (dv : Value) (c0 : Int32) (r : Int32) (h0 : Heap) (n0 : Nat) (hO : Old Z n0 h0) (hG : own_Gs Z z sf) (inn : own_Met l Z (⟨"java/lang/StringLatin1", "lastIndexOf", "([BII)I"⟩ : MethodName) jdk_43_method_27_code 4 (some .int) own_r_lia #[.ref b, .int 47, .int 0] h0 (own_Qv (some (.int r)) h0 n0)) (Et : own_E Z h0 t) (Fv : own_V Z h0 t b) (Fc : own_C Z h0 t) (Ab : Arv Z h0 b kb .byte 1 [(.int c0.toInt8.toInt32)] dv) :
    own_Met l Z (⟨"java/lang/String", "lastIndexOf", "(II)I"⟩ : MethodName) jdk_42_method_83_code 3 (some .int) own_r_own_lib_1 #[(.ref t), (.int 47), (.int 0)] h0 (own_Qv (some (.int r)) h0 n0) := by
  refine own_body (by decide +kernel) ?_
  intro p e s m below meth c T0 X0 hx hZ hby hml hown hnm hret hlk e0
  have N0 := Fr.nil n0
  refine own_cast (own_frame (L := [rv t, iv 47, iv 0]) (ls := #[rv t, iv 47, iv 0]) rfl rfl) ?_
  obtain ⟨SC, hz, SF, rf⟩ := id hG
  refine og_aloadN X0 hx (hb hby d11_0) rfl rfl ?_
  refine own_callV X0 hx hZ hown (own_hw hw 57 rfl) (own_hw hw 58 rfl) (notFace_of_selects (args := #[]) (mvT hZ (own_hw hw 60 rfl))) (own_hw hw 60 rfl) (own_hw hw 59 rfl) (own_hw hw 61 rfl) (own_hw hw 9 rfl) (by decide) (b := t) (argsL := []) (rest := []) (own_isl1 l Z a0 hw z sf t h0 n0 hO hG Fc) e0 Et (by rw [hml]; rfl) (lenOf own_pd61835 rfl) rfl (hb hby d11_1) (W := 0) (Nat.le_of_eq rfl) (by decide) ?_
  intro v1 T1 L1 X1 q1
  obtain ⟨rfl, N1q, e1⟩ := q1
  have N1 := Fr.app N0 N1q
  show own_Go p e below _ T1 (mkF m 4 #[rv t, iv 47, iv 0] [(.int (1 : Int32))])
  refine og_ifN X1 hx (hb hby d11_4) (feq (by decide)).1 ?_
  refine og_aloadN X1 hx (hb hby d11_7) rfl rfl ?_
  refine og_getF X1 hx hZ hown (own_hw hw 27 rfl) Via.refl e1 Fv (hb hby d11_8) ?_
  intro T2 X2 e2
  refine og_iloadN X2 hx (hb hby d11_11) rfl ?_
  refine og_iloadN X2 hx (hb hby d11_12) rfl ?_
  refine own_callS X2 hx hZ hown (own_hw hw 62 rfl) (own_hw hw 63 rfl) (own_hw hw 64 rfl) (own_hw hw 65 rfl) (by decide) (argsL := [(.ref b), (.int 47), (.int 0)]) (rest := []) inn e2 (by rw [hml]; rfl) (lenOf own_pd83039 rfl) rfl (hb hby d11_13) (W := 0) (Nat.le_of_eq rfl) (by decide) ?_
  intro v3 T3 L3 X3 q3
  obtain ⟨rfl, N3q, e3⟩ := q3
  have N3 := Fr.app N1 N3q
  show own_Go p e below _ T3 (mkF m 16 #[rv t, iv 47, iv 0] [(.int r)])
  refine og_goto X3 hx 28 (hb hby d11_16) (by decide) (by decide) ?_
  exact own_retI X3 hx hret hlk (hb hby d11_28) rfl (by simp) (by decide) (by decide) (⟨rfl, N3, e3⟩)
def own_r_own_lic_1 : Room := { frames := 3, cells := 0, slots := 0, locals := 42 }
theorem own_lic_1 (l : Launch) (Z : State) (a0 : Array Value) (hw : own_W a0 Z) (z : Int32) (sf : Value) (t b : Addr) (kb : ClassId) (dv : Value) (c0 : Int32) (r : Int32) (h0 : Heap) (n0 : Nat) (hO : Old Z n0 h0) (hG : own_Gs Z z sf) (inn : own_Met l Z (⟨"java/lang/StringLatin1", "lastIndexOf", "([BII)I"⟩ : MethodName) jdk_43_method_27_code 4 (some .int) own_r_lia #[.ref b, .int 47, .int 0] h0 (own_Qv (some (.int r)) h0 n0)) (Et : own_E Z h0 t) (Fv : own_V Z h0 t b) (Fc : own_C Z h0 t) (Ab : Arv Z h0 b kb .byte 1 [(.int c0.toInt8.toInt32)] dv) :
    own_Met l Z (⟨"java/lang/String", "lastIndexOf", "(I)I"⟩ : MethodName) jdk_42_method_82_code 2 (some .int) own_r_own_lic_1 #[(.ref t), (.int 47)] h0 (own_Qv (some (.int r)) h0 n0) := by
  refine own_body (by decide +kernel) ?_
  intro p e s m below meth c T0 X0 hx hZ hby hml hown hnm hret hlk e0
  have N0 := Fr.nil n0
  refine own_cast (own_frame (L := [rv t, iv 47]) (ls := #[rv t, iv 47]) rfl rfl) ?_
  obtain ⟨SC, hz, SF, rf⟩ := id hG
  refine og_aloadN X0 hx (hb hby d8_0) rfl rfl ?_
  refine og_iloadN X0 hx (hb hby d8_1) rfl ?_
  refine og_aloadN X0 hx (hb hby d8_2) rfl rfl ?_
  refine own_callV X0 hx hZ hown (own_hw hw 41 rfl) (own_hw hw 42 rfl) (notFace_of_selects (args := #[]) (mvT hZ (own_hw hw 44 rfl))) (own_hw hw 44 rfl) (own_hw hw 43 rfl) (own_hw hw 45 rfl) (own_hw hw 9 rfl) (by decide) (b := t) (argsL := []) (rest := [(.int 47), (.ref t)]) (own_slen l Z a0 hw z sf t b _ _ _ _ h0 n0 hO hG Et Fv Fc Ab) e0 Et (by rw [hml]; rfl) (lenOf own_pd13941 rfl) rfl (hb hby d8_3) (W := 2) (Nat.le_of_eq rfl) (by decide) ?_
  intro v1 T1 L1 X1 q1
  obtain ⟨rfl, N1q, e1⟩ := q1
  have N1 := Fr.app N0 N1q
  show own_Go p e below _ T1 (mkF m 6 #[rv t, iv 47] [(.int 1), (.int 47), (.ref t)])
  refine og_iconst X1 hx (hb hby d8_6) ?_
  refine og_isub X1 hx (hb hby d8_7) ?_
  show own_Go p e below _ T1 (mkF m 8 #[rv t, iv 47] [(.int 0), (.int 47), (.ref t)])
  refine own_callV X1 hx hZ hown (own_hw hw 52 rfl) (own_hw hw 53 rfl) (notFace_of_selects (args := #[]) (mvT hZ (own_hw hw 55 rfl))) (own_hw hw 55 rfl) (own_hw hw 54 rfl) (own_hw hw 56 rfl) (own_hw hw 9 rfl) (by decide) (b := t) (argsL := [(.int 47), (.int 0)]) (rest := []) (own_lib_1 l Z a0 hw z sf t b _ _ c0 r h0 n0 hO hG inn Et Fv Fc Ab) e1 Et (by rw [hml]; rfl) (lenOf own_pd23903 rfl) rfl (hb hby d8_8) (W := 0) (Nat.le_of_eq rfl) (by decide) ?_
  intro v2 T2 L2 X2 q2
  obtain ⟨rfl, N2q, e2⟩ := q2
  have N2 := Fr.app N1 N2q
  show own_Go p e below _ T2 (mkF m 11 #[rv t, iv 47] [(.int r)])
  exact own_retI X2 hx hret hlk (hb hby d8_11) rfl (by simp) (by decide) (by decide) (⟨rfl, N2, e2⟩)
def own_r_own_po_1_m1 : Room := { frames := 4, cells := 2, slots := 4, locals := 55 }
theorem own_po_1_m1 (l : Launch) (Z : State) (a0 : Array Value) (hw : own_W a0 Z) (z : Int32) (sf : Value) (t b : Addr) (kb : ClassId) (dv : Value) (c0 : Int32) (h0 : Heap) (n0 : Nat) (hO : Old Z n0 h0) (hG : own_Gs Z z sf) (hc0 : ¬ c0 < 0 ∧ ¬ (255 : Int32) < c0) (m0 : ¬ c0 = 47) (Et : own_E Z h0 t) (Fv : own_V Z h0 t b) (Fc : own_C Z h0 t) (Ab : Arv Z h0 b kb .byte 1 [(.int c0.toInt8.toInt32)] dv) :
    own_MetH l Z own_EL (⟨"com/example/svazek/svazek/PackageFolder", "placeOf", "(Ljava/lang/String;)Ljava/lang/String;"⟩ : MethodName) prog_41_method_7_code 2 (some (.object "java/lang/String")) own_r_own_po_1_m1 #[(.ref t)] h0 (own_Qe Z h0 n0) := by
  refine own_bodyH (by decide +kernel) ?_
  intro p e s m below meth c T0 X0 hx hZ hby hml hown hnm hret hlk e0 hS hk C0
  have hwS : ∀ a ∈ Bundle.stringAtoms, a.before a0 Z = true := fun d hd => hw d ((by decide +kernel : ∀ d ∈ Bundle.stringAtoms, d ∈ tables_1) d hd)
  have N0 := Fr.nil n0
  refine own_cast (own_frame (L := [rv t]) (ls := #[rv t, .unset]) rfl rfl) ?_
  obtain ⟨SC, hz, SF, rf⟩ := id hG
  refine og_aloadN X0 hx (hb hby d7_0) rfl rfl ?_
  refine og_bipush X0 hx (hb hby d7_1) ?_
  refine own_callV X0 hx hZ hown (own_hw hw 36 rfl) (own_hw hw 37 rfl) (notFace_of_selects (args := #[]) (mvT hZ (own_hw hw 39 rfl))) (own_hw hw 39 rfl) (own_hw hw 38 rfl) (own_hw hw 40 rfl) (own_hw hw 9 rfl) (by decide) (b := t) (argsL := [(.int 47)]) (rest := []) (own_lic_1 l Z a0 hw z sf t b _ _ c0 (-1) h0 n0 hO hG (own_lia_1_m1 l Z a0 hw b _ _ c0 h0 n0 hc0 m0 Ab) Et Fv Fc Ab) e0 Et (by rw [hml]; rfl) (lenOf own_pd49053 rfl) rfl (hb hby d7_3) (W := 0) (Nat.le_of_eq rfl) (by decide) ?_
  intro v1 T1 L1 X1 q1
  obtain ⟨rfl, N1q, e1⟩ := q1
  have N1 := Fr.app N0 N1q
  show own_Go p e below _ T1 (mkF m 6 #[rv t, .unset] [(.int (-1))])
  refine og_istoreN X1 hx #[rv t, iv (-1)] (hb hby d7_6) rfl ?_
  refine og_iloadN X1 hx (hb hby d7_7) rfl ?_
  refine og_ifN X1 hx (hb hby d7_8) (tlt (by decide)).2.1 ?_
  show own_Go p e below _ T1 (mkF m 11 #[rv t, iv (-1)] [])
  refine own_ldcH X1 hx hZ hown (own_hw hw 73 rfl) hwS e1 hS hk (own_EW hw) (List.mem_of_getElem? (i := 1) rfl) C0.1 (z := 0) ⟨by decide, rfl⟩ (by decide) rfl (hb hby d7_11) 0 (by decide) (by decide) (by decide) (by decide) ?_
  intro s2 T2 h2 k2 d2 kb2 X2 e2 E2 hS2 hk2 hZ2 hown2 Es2 Fc2 Fv2 As2 C2q Lt2 ns2
  have E_t_2 := Et.ext E2
  have F_t_value_2 := Fv.ext E2
  have F_t_coder_2 := Fc.ext E2
  have A_b_2 := Ab.ext E2
  have C2 := C0.trans C2q
  have O2 := hO.ext E2
  have K2 := (Keep.refl h0 []).ext E2
  have E_s2_2 : Exa Z h2 s2 "java/lang/String" := Es2
  have F_s2_coder_2 : Fld Z h2 s2 "java/lang/String" "coder" "B" (.int (0 : Int32)) := Fc2
  have F_s2_value_2 : Fld Z h2 s2 "java/lang/String" "value" "[B" (.ref d2) := Fv2
  have A_d2_2 : Arv Z h2 d2 kb2 .byte 0 [] (.int 0) := As2
  show own_Go p e below _ T2 (mkF m 13 #[rv t, iv (-1)] [(.ref s2)])
  refine og_goto X2 hx 22 (hb hby d7_13) (by decide) (by decide) ?_
  exact own_retAH X2 hx hret hlk (hb hby d7_22) rfl rfl hZ2 (own_EW hw) C2 e2 hS2 hk2 (by decide) (by decide) (by rw [e2]; exact ⟨s2, d2, _, rfl, N1, K2, E_s2_2, F_s2_value_2, F_s2_coder_2, A_d2_2⟩)
theorem d6_50 : decode method_5_code 50 = .ok (.iconst 0, 1) := by decide +kernel
theorem d6_51 : decode method_5_code 51 = .ok (.ireturn, 1) := by decide +kernel
def own_r_own_ls_1_0 : Room := { frames := 0, cells := 0, slots := 0, locals := 0 }
theorem own_ls_1_0 (l : Launch) (Z : State) (a0 : Array Value) (hw : own_W a0 Z) (c0 c1 c2 c3 : Int32) (h0 : Heap) (n0 : Nat)  (hsl : c0 = 47) :
    own_Met l Z (⟨"com/example/svazek/svazek/PackageFolderPlaceOfPinLaw", "lastSlash", "(ICCCC)I"⟩ : MethodName) method_5_code 5 (some .int) own_r_own_ls_1_0 #[(.int 1), (.int c0), (.int c1), (.int c2), (.int c3)] h0 (own_Qv (some (.int (0))) h0 n0) := by
  refine own_body (by decide +kernel) ?_
  intro p e s m below meth c T0 X0 hx hZ hby hml hown hnm hret hlk e0
  have N0 := Fr.nil n0
  refine own_cast (own_frame (L := [iv 1, iv c0, iv c1, iv c2, iv c3]) (ls := #[iv 1, iv c0, iv c1, iv c2, iv c3]) rfl rfl) ?_
  refine og_iloadN X0 hx (hb hby d6_0) rfl ?_
  refine og_iconst X0 hx (hb hby d6_1) ?_
  refine og_icY X0 hx 14 (hb hby d6_2) (flt (by decide)).2.2.2 (by decide) (by decide) ?_
  refine og_iloadN X0 hx (hb hby d6_14) rfl ?_
  refine og_iconst X0 hx (hb hby d6_15) ?_
  refine og_icY X0 hx 27 (hb hby d6_16) (flt (by decide)).2.2.2 (by decide) (by decide) ?_
  refine og_iloadN X0 hx (hb hby d6_27) rfl ?_
  refine og_iconst X0 hx (hb hby d6_28) ?_
  refine og_icY X0 hx 40 (hb hby d6_29) (flt (by decide)).2.2.2 (by decide) (by decide) ?_
  refine og_iloadN X0 hx (hb hby d6_40) rfl ?_
  refine og_ifN X0 hx (hb hby d6_41) (tlt (by decide)).2.2.2 ?_
  refine og_iloadN X0 hx (hb hby d6_44) rfl ?_
  refine og_bipush X0 hx (hb hby d6_45) ?_
  refine og_icN X0 hx (hb hby d6_47) (teq hsl).2 ?_
  refine og_iconst X0 hx (hb hby d6_50) ?_
  exact own_retI X0 hx hret hlk (hb hby d6_51) rfl (by simp) (by decide) (by decide) (⟨rfl, N0, e0⟩)
theorem d13_30 : decode jdk_43_method_27_code 30 = .ok (.iload_n 3, 1) := by decide +kernel
theorem d13_31 : decode jdk_43_method_27_code 31 = .ok (.ireturn, 1) := by decide +kernel
theorem own_lia_1_0 (l : Launch) (Z : State) (a0 : Array Value) (hw : own_W a0 Z) (b : Addr) (kb : ClassId) (dv : Value) (c0 : Int32) (h0 : Heap) (n0 : Nat)  (hsl : c0 = 47) (Ab : Arv Z h0 b kb .byte 1 [(.int c0.toInt8.toInt32)] dv) :
    own_Met l Z (⟨"java/lang/StringLatin1", "lastIndexOf", "([BII)I"⟩ : MethodName) jdk_43_method_27_code 4 (some .int) own_r_lia #[(.ref b), (.int 47), (.int 0)] h0 (own_Qv (some (.int (0))) h0 n0) := by
  refine own_body (by decide +kernel) ?_
  intro p e s m below meth c T0 X0 hx hZ hby hml hown hnm hret hlk e0
  have N0 := Fr.nil n0
  refine own_cast (own_frame (L := [rv b, iv 47, iv 0]) (ls := #[rv b, iv 47, iv 0, .unset]) rfl rfl) ?_
  refine og_iloadN X0 hx (hb hby d13_0) rfl ?_
  refine own_callS X0 hx hZ hown (own_hw hw 66 rfl) (own_hw hw 67 rfl) (own_hw hw 64 rfl) (own_hw hw 68 rfl) (by decide) (argsL := [(.int 47)]) (rest := []) (own_ce47 l Z a0 hw h0 n0) e0 (by rw [hml]; rfl) (lenOf own_pd97859 rfl) rfl (hb hby d13_1) (W := 0) (Nat.le_of_eq rfl) (by decide) ?_
  intro v1 T1 L1 X1 q1
  obtain ⟨rfl, N1q, e1⟩ := q1
  have N1 := Fr.app N0 N1q
  show own_Go p e below _ T1 (mkF m 4 #[rv b, iv 47, iv 0, .unset] [(.int 1)])
  refine og_ifY X1 hx 9 (hb hby d13_4) (feq (by decide)).2 (by decide) (by decide) ?_
  refine og_iloadN X1 hx (hb hby d13_9) rfl ?_
  refine og_aloadN X1 hx (hb hby d13_10) rfl rfl ?_
  refine own_len X1 hx hZ e1 Ab (hb hby d13_11) ?_
  show own_Go p e below _ T1 (mkF m 12 #[rv b, iv 47, iv 0, .unset] [(.int 1), (.int 0)])
  refine og_iconst X1 hx (hb hby d13_12) ?_
  refine og_isub X1 hx (hb hby d13_13) ?_
  show own_Go p e below _ T1 (mkF m 14 #[rv b, iv 47, iv 0, .unset] [(.int 0), (.int 0)])
  refine own_callS X1 hx hZ hown (own_hw hw 69 rfl) (own_hw hw 70 rfl) (own_hw hw 71 rfl) (own_hw hw 72 rfl) (by decide) (argsL := [(.int 0), (.int 0)]) (rest := []) (own_min_0_0 l Z a0 hw h0 n0) e1 (by rw [hml]; rfl) (lenOf own_pd23903 rfl) rfl (hb hby d13_14) (W := 0) (Nat.le_of_eq rfl) (by decide) ?_
  intro v2 T2 L2 X2 q2
  obtain ⟨rfl, N2q, e2⟩ := q2
  have N2 := Fr.app N1 N2q
  show own_Go p e below _ T2 (mkF m 17 #[rv b, iv 47, iv 0, .unset] [(.int 0)])
  refine og_istoreN X2 hx #[rv b, iv 47, iv 0, iv 0] (hb hby d13_17) rfl ?_
  refine og_iloadN X2 hx (hb hby d13_18) rfl ?_
  refine og_ifN X2 hx (hb hby d13_19) (flt (by decide)).1 ?_
  refine og_aloadN X2 hx (hb hby d13_22) rfl rfl ?_
  refine og_iloadN X2 hx (hb hby d13_23) rfl ?_
  refine own_ldB X2 hx hZ e2 Ab ⟨by decide, by decide⟩ rfl (hb hby d13_24) ?_
  show own_Go p e below _ T2 (mkF m 25 #[rv b, iv 47, iv 0, iv 0] [(.int c0.toInt8.toInt32)])
  refine og_iloadN X2 hx (hb hby d13_25) rfl ?_
  refine own_go (fun t k => XS.i2b X2.here hx rfl (hb hby d13_26) rfl k) ?_
  show own_Go p e below _ T2 (mkF m 27 #[rv b, iv 47, iv 0, iv 0] [(.int 47), (.int c0.toInt8.toInt32)])
  refine og_icN X2 hx (hb hby d13_27) (teq (by rw [hsl]; rfl)).2 ?_
  refine og_iloadN X2 hx (hb hby d13_30) rfl ?_
  exact own_retI X2 hx hret hlk (hb hby d13_31) rfl (by simp) (by decide) (by decide) (⟨rfl, N2, e2⟩)
theorem d22_0 : decode jdk_41_method_12_code 0 = .ok (.iload_n 0, 1) := by decide +kernel
theorem d22_1 : decode jdk_41_method_12_code 1 = .ok (.ifCond .lt 13, 3) := by decide +kernel
theorem d22_4 : decode jdk_41_method_12_code 4 = .ok (.iload_n 0, 1) := by decide +kernel
theorem d22_5 : decode jdk_41_method_12_code 5 = .ok (.iload_n 1, 1) := by decide +kernel
theorem d22_6 : decode jdk_41_method_12_code 6 = .ok (.if_icmp .gt 8, 3) := by decide +kernel
theorem d22_9 : decode jdk_41_method_12_code 9 = .ok (.iload_n 1, 1) := by decide +kernel
theorem d22_10 : decode jdk_41_method_12_code 10 = .ok (.iload_n 2, 1) := by decide +kernel
theorem d22_11 : decode jdk_41_method_12_code 11 = .ok (.if_icmp .le 11, 3) := by decide +kernel
theorem d22_22 : decode jdk_41_method_12_code 22 = .ok (.iload_n 0, 1) := by decide +kernel
theorem d22_23 : decode jdk_41_method_12_code 23 = .ok (.ireturn, 1) := by decide +kernel
def own_r_own_cft : Room := { frames := 0, cells := 0, slots := 0, locals := 0 }
theorem own_cft (l : Launch) (Z : State) (a0 : Array Value) (hw : own_W a0 Z) (lo hi n : Int32) (sf : Value) (h0 : Heap) (n0 : Nat) (rf : sf.isRef = true) (h1 : ¬ lo < 0) (h2 : ¬ hi < lo) (h3 : ¬ n < hi) :
    own_Met l Z (⟨"jdk/internal/util/Preconditions", "checkFromToIndex", "(IIILjava/util/function/BiFunction;)I"⟩ : MethodName) jdk_41_method_12_code 4 (some .int) own_r_own_cft #[(.int lo), (.int hi), (.int n), sf] h0 (own_Qv (some (.int lo)) h0 n0) := by
  refine own_body (by decide +kernel) ?_
  intro p e s m below meth c T0 X0 hx hZ hby hml hown hnm hret hlk e0
  have N0 := Fr.nil n0
  refine own_cast (own_frame (L := [iv lo, iv hi, iv n, .val sf]) (ls := #[iv lo, iv hi, iv n, .val sf]) (congrArg (fun q => iv lo :: iv hi :: iv n :: q) (own_laid1 rf)) rfl) ?_
  refine og_iloadN X0 hx (hb hby d22_0) rfl ?_
  refine og_ifN X0 hx (hb hby d22_1) (flt h1).1 ?_
  refine og_iloadN X0 hx (hb hby d22_4) rfl ?_
  refine og_iloadN X0 hx (hb hby d22_5) rfl ?_
  refine og_icN X0 hx (hb hby d22_6) (flt h2).2.2.1 ?_
  refine og_iloadN X0 hx (hb hby d22_9) rfl ?_
  refine og_iloadN X0 hx (hb hby d22_10) rfl ?_
  refine og_icY X0 hx 22 (hb hby d22_11) (flt h3).2.2.2 (by decide) (by decide) ?_
  refine og_iloadN X0 hx (hb hby d22_22) rfl ?_
  exact own_retI X0 hx hret hlk (hb hby d22_23) rfl (by simp) (by decide) (by decide) (⟨rfl, N0, e0⟩)
theorem d21_0 : decode jdk_42_method_158_code 0 = .ok (.iload_n 0, 1) := by decide +kernel
theorem d21_1 : decode jdk_42_method_158_code 1 = .ok (.iload_n 1, 1) := by decide +kernel
theorem d21_2 : decode jdk_42_method_158_code 2 = .ok (.iload_n 2, 1) := by decide +kernel
theorem d21_3 : decode jdk_42_method_158_code 3 = .ok (.getstatic 1053, 3) := by decide +kernel
theorem d21_6 : decode jdk_42_method_158_code 6 = .ok (.invokestatic 1062, 3) := by decide +kernel
theorem d21_9 : decode jdk_42_method_158_code 9 = .ok (.pop, 1) := by decide +kernel
theorem d21_10 : decode jdk_42_method_158_code 10 = .ok (.return_, 1) := by decide +kernel
theorem own_pd49920 : parseMethodDescriptor "(IIILjava/util/function/BiFunction;)I" = some ⟨[.int, .int, .int, (.object "java/util/function/BiFunction")], some .int⟩ := by decide +kernel
def own_r_own_cbb : Room := { frames := 1, cells := 0, slots := 0, locals := 15 }
theorem own_cbb (l : Launch) (Z : State) (a0 : Array Value) (hw : own_W a0 Z) (z : Int32) (sf : Value) (lo hi n : Int32) (h0 : Heap) (n0 : Nat) (hO : Old Z n0 h0) (hG : own_Gs Z z sf) (h1 : ¬ lo < 0) (h2 : ¬ hi < lo) (h3 : ¬ n < hi) :
    own_Met l Z (⟨"java/lang/String", "checkBoundsBeginEnd", "(III)V"⟩ : MethodName) jdk_42_method_158_code 3 none own_r_own_cbb #[(.int lo), (.int hi), (.int n)] h0 (own_Qv none h0 n0) := by
  refine own_body (by decide +kernel) ?_
  intro p e s m below meth c T0 X0 hx hZ hby hml hown hnm hret hlk e0
  have N0 := Fr.nil n0
  refine own_cast (own_frame (L := [iv lo, iv hi, iv n]) (ls := #[iv lo, iv hi, iv n]) rfl rfl) ?_
  obtain ⟨SC, hz, SF, rf⟩ := id hG
  refine og_iloadN X0 hx (hb hby d21_0) rfl ?_
  refine og_iloadN X0 hx (hb hby d21_1) rfl ?_
  refine og_iloadN X0 hx (hb hby d21_2) rfl ?_
  refine og_getS X0 hx hZ hown (own_hw hw 97 rfl) Via.refl e0 (SF.ext hO.2) (hb hby d21_3) ?_
  intro T1 X1 e1
  show own_Go p e below _ T1 (mkF m 6 #[iv lo, iv hi, iv n] [sf, (.int n), (.int hi), (.int lo)])
  refine own_callS X1 hx hZ hown (own_hw hw 99 rfl) (own_hw hw 100 rfl) (own_hw hw 98 rfl) (own_hw hw 101 rfl) (by decide) (argsL := [(.int lo), (.int hi), (.int n), sf]) (rest := []) (own_cft l Z a0 hw lo hi n sf h0 n0 rf h1 h2 h3) e1 (by rw [hml]; rfl) (lenOf own_pd49920 rfl) rfl (hb hby d21_6) (W := 0) (Nat.le_of_eq rfl) (by decide) ?_
  intro v2 T2 L2 X2 q2
  obtain ⟨rfl, N2q, e2⟩ := q2
  have N2 := Fr.app N0 N2q
  show own_Go p e below _ T2 (mkF m 9 #[iv lo, iv hi, iv n] [(.int lo)])
  refine og_pop X2 hx (hb hby d21_9) rfl ?_
  exact own_retV X2 hx hret hlk (hb hby d21_10) (by decide) (by decide) (⟨rfl, N2, e2⟩)
theorem d23_0 : decode jdk_43_method_47_code 0 = .ok (.iload_n 2, 1) := by decide +kernel
theorem d23_1 : decode jdk_43_method_47_code 1 = .ok (.ifCond .ne 6, 3) := by decide +kernel
theorem d23_4 : decode jdk_43_method_47_code 4 = .ok (.ldc 151, 2) := by decide +kernel
theorem d23_6 : decode jdk_43_method_47_code 6 = .ok (.areturn, 1) := by decide +kernel
def own_r_own_nse : Room := { frames := 0, cells := 2, slots := 4, locals := 0 }
theorem own_nse (l : Launch) (Z : State) (a0 : Array Value) (hw : own_W a0 Z) (b : Addr) (p1 : Int32) (h0 : Heap) (n0 : Nat) (hO : Old Z n0 h0) :
    own_MetH l Z own_EL (⟨"java/lang/StringLatin1", "newString", "([BII)Ljava/lang/String;"⟩ : MethodName) jdk_43_method_47_code 3 (some (.object "java/lang/String")) own_r_own_nse #[(.ref b), (.int p1), (.int (0 : Int32))] h0 (own_Qe Z h0 n0) := by
  refine own_bodyH (by decide +kernel) ?_
  intro p e s m below meth c T0 X0 hx hZ hby hml hown hnm hret hlk e0 hS hk C0
  have hwS : ∀ a ∈ Bundle.stringAtoms, a.before a0 Z = true := fun d hd => hw d ((by decide +kernel : ∀ d ∈ Bundle.stringAtoms, d ∈ tables_1) d hd)
  have N0 := Fr.nil n0
  refine own_cast (own_frame (L := [rv b, iv p1, iv (0 : Int32)]) (ls := #[rv b, iv p1, iv (0 : Int32)]) rfl rfl) ?_
  refine og_iloadN X0 hx (hb hby d23_0) rfl ?_
  refine og_ifN X0 hx (hb hby d23_1) (teq (by decide)).2 ?_
  show own_Go p e below _ T0 (mkF m 4 #[rv b, iv p1, iv (0 : Int32)] [])
  refine own_ldcH X0 hx hZ hown (own_hw hw 139 rfl) hwS e0 hS hk (own_EW hw) (List.mem_of_getElem? (i := 2) rfl) C0.1 (z := 0) ⟨by decide, rfl⟩ (by decide) rfl (hb hby d23_4) 0 (by decide) (by decide) (by decide) (by decide) ?_
  intro s1 T1 h1 k1 d1 kb1 X1 e1 E1 hS1 hk1 hZ1 hown1 Es1 Fc1 Fv1 As1 C1q Lt1 ns1
  have C1 := C0.trans C1q
  have O1 := hO.ext E1
  have K1 := (Keep.refl h0 []).ext E1
  have E_s1_1 : Exa Z h1 s1 "java/lang/String" := Es1
  have F_s1_coder_1 : Fld Z h1 s1 "java/lang/String" "coder" "B" (.int (0 : Int32)) := Fc1
  have F_s1_value_1 : Fld Z h1 s1 "java/lang/String" "value" "[B" (.ref d1) := Fv1
  have A_d1_1 : Arv Z h1 d1 kb1 .byte 0 [] (.int 0) := As1
  show own_Go p e below _ T1 (mkF m 6 #[rv b, iv p1, iv (0 : Int32)] [(.ref s1)])
  exact own_retAH X1 hx hret hlk (hb hby d23_6) rfl rfl hZ1 (own_EW hw) C1 e1 hS1 hk1 (by decide) (by decide) (by rw [e1]; exact ⟨s1, d1, _, rfl, N0, K1, E_s1_1, F_s1_value_1, F_s1_coder_1, A_d1_1⟩)
theorem own_subself (x : Int32) : x - x = 0 := Int32.sub_self x
theorem d20_0 : decode jdk_42_method_92_code 0 = .ok (.aload_n 0, 1) := by decide +kernel
theorem d20_1 : decode jdk_42_method_92_code 1 = .ok (.invokevirtual 505, 3) := by decide +kernel
theorem d20_4 : decode jdk_42_method_92_code 4 = .ok (.istore_n 3, 1) := by decide +kernel
theorem d20_5 : decode jdk_42_method_92_code 5 = .ok (.iload_n 1, 1) := by decide +kernel
theorem d20_6 : decode jdk_42_method_92_code 6 = .ok (.iload_n 2, 1) := by decide +kernel
theorem d20_7 : decode jdk_42_method_92_code 7 = .ok (.iload_n 3, 1) := by decide +kernel
theorem d20_8 : decode jdk_42_method_92_code 8 = .ok (.invokestatic 521, 3) := by decide +kernel
theorem d20_11 : decode jdk_42_method_92_code 11 = .ok (.iload_n 1, 1) := by decide +kernel
theorem d20_12 : decode jdk_42_method_92_code 12 = .ok (.ifCond .ne 10, 3) := by decide +kernel
theorem d20_15 : decode jdk_42_method_92_code 15 = .ok (.iload_n 2, 1) := by decide +kernel
theorem d20_16 : decode jdk_42_method_92_code 16 = .ok (.iload_n 3, 1) := by decide +kernel
theorem d20_17 : decode jdk_42_method_92_code 17 = .ok (.if_icmp .ne 5, 3) := by decide +kernel
theorem d20_22 : decode jdk_42_method_92_code 22 = .ok (.iload_n 2, 1) := by decide +kernel
theorem d20_23 : decode jdk_42_method_92_code 23 = .ok (.iload_n 1, 1) := by decide +kernel
theorem d20_24 : decode jdk_42_method_92_code 24 = .ok (.isub, 1) := by decide +kernel
theorem d20_25 : decode jdk_42_method_92_code 25 = .ok (.istore 4, 2) := by decide +kernel
theorem d20_27 : decode jdk_42_method_92_code 27 = .ok (.aload_n 0, 1) := by decide +kernel
theorem d20_28 : decode jdk_42_method_92_code 28 = .ok (.invokevirtual 492, 3) := by decide +kernel
theorem d20_31 : decode jdk_42_method_92_code 31 = .ok (.ifCond .eq 16, 3) := by decide +kernel
theorem d20_34 : decode jdk_42_method_92_code 34 = .ok (.aload_n 0, 1) := by decide +kernel
theorem d20_35 : decode jdk_42_method_92_code 35 = .ok (.getfield 9, 3) := by decide +kernel
theorem d20_38 : decode jdk_42_method_92_code 38 = .ok (.iload_n 1, 1) := by decide +kernel
theorem d20_39 : decode jdk_42_method_92_code 39 = .ok (.iload 4, 2) := by decide +kernel
theorem d20_41 : decode jdk_42_method_92_code 41 = .ok (.invokestatic 685, 3) := by decide +kernel
theorem d20_44 : decode jdk_42_method_92_code 44 = .ok (.goto 13, 3) := by decide +kernel
theorem d20_57 : decode jdk_42_method_92_code 57 = .ok (.areturn, 1) := by decide +kernel
theorem own_pd73746 : parseMethodDescriptor "(III)V" = some ⟨[.int, .int, .int], none⟩ := by decide +kernel
theorem own_pd78060 : parseMethodDescriptor "([BII)Ljava/lang/String;" = some ⟨[(.array .byte), .int, .int], some (.object "java/lang/String")⟩ := by decide +kernel
def own_r_own_subEz : Room := { frames := 2, cells := 2, slots := 4, locals := 29 }
theorem own_subEz (l : Launch) (Z : State) (a0 : Array Value) (hw : own_W a0 Z) (z : Int32) (sf : Value) (t b : Addr) (kb : ClassId) (dv : Value) (n : Int32) (vs : List Value) (h0 : Heap) (n0 : Nat) (hO : Old Z n0 h0) (hG : own_Gs Z z sf) (h3 : ¬ n < 0) (hx0 : ¬ 0 = n) (Et : own_E Z h0 t) (Fv : own_V Z h0 t b) (Fc : own_C Z h0 t) (Ab : Arv Z h0 b kb .byte n vs dv) :
    own_MetH l Z own_EL (⟨"java/lang/String", "substring", "(II)Ljava/lang/String;"⟩ : MethodName) jdk_42_method_92_code 5 (some (.object "java/lang/String")) own_r_own_subEz #[(.ref t), (.int 0), (.int 0)] h0 (own_Qe Z h0 n0) := by
  refine own_bodyH (by decide +kernel) ?_
  intro p e s m below meth c T0 X0 hx hZ hby hml hown hnm hret hlk e0 hS hk C0
  have hwS : ∀ a ∈ Bundle.stringAtoms, a.before a0 Z = true := fun d hd => hw d ((by decide +kernel : ∀ d ∈ Bundle.stringAtoms, d ∈ tables_1) d hd)
  have N0 := Fr.nil n0
  refine own_cast (own_frame (L := [rv t, iv 0, iv 0]) (ls := #[rv t, iv 0, iv 0, .unset, .unset]) rfl rfl) ?_
  obtain ⟨SC, hz, SF, rf⟩ := id hG
  refine og_aloadN X0 hx (hb hby d20_0) rfl rfl ?_
  refine own_callV X0 hx hZ hown (own_hw hw 41 rfl) (own_hw hw 42 rfl) (notFace_of_selects (args := #[]) (mvT hZ (own_hw hw 44 rfl))) (own_hw hw 44 rfl) (own_hw hw 43 rfl) (own_hw hw 45 rfl) (own_hw hw 9 rfl) (by decide) (b := t) (argsL := []) (rest := []) (own_slen l Z a0 hw z sf t b _ _ _ _ h0 n0 hO hG Et Fv Fc Ab) e0 Et (by rw [hml]; rfl) (lenOf own_pd13941 rfl) rfl (hb hby d20_1) (W := 0) (Nat.le_of_eq rfl) (by decide) ?_
  intro v1 T1 L1 X1 q1
  obtain ⟨rfl, N1q, e1⟩ := q1
  have N1 := Fr.app N0 N1q
  show own_Go p e below _ T1 (mkF m 4 #[rv t, iv 0, iv 0, .unset, .unset] [(.int n)])
  refine og_istoreN X1 hx #[rv t, iv 0, iv 0, iv n, .unset] (hb hby d20_4) rfl ?_
  refine og_iloadN X1 hx (hb hby d20_5) rfl ?_
  refine og_iloadN X1 hx (hb hby d20_6) rfl ?_
  refine og_iloadN X1 hx (hb hby d20_7) rfl ?_
  refine own_callS X1 hx hZ hown (own_hw hw 94 rfl) (own_hw hw 95 rfl) (own_hw hw 9 rfl) (own_hw hw 96 rfl) (by decide) (argsL := [(.int 0), (.int 0), (.int n)]) (rest := []) (own_cbb l Z a0 hw z sf 0 0 n h0 n0 hO hG (by decide) Int32.lt_irrefl h3) e1 (by rw [hml]; rfl) (lenOf own_pd73746 rfl) rfl (hb hby d20_8) (W := 0) (Nat.le_of_eq rfl) (by decide) ?_
  intro v2 T2 L2 X2 q2
  obtain ⟨rfl, N2q, e2⟩ := q2
  have N2 := Fr.app N1 N2q
  show own_Go p e below _ T2 (mkF m 11 #[rv t, iv 0, iv 0, iv n, .unset] [])
  refine og_iloadN X2 hx (hb hby d20_11) rfl ?_
  refine og_ifN X2 hx (hb hby d20_12) (teq rfl).2 ?_
  refine og_iloadN X2 hx (hb hby d20_15) rfl ?_
  refine og_iloadN X2 hx (hb hby d20_16) rfl ?_
  refine og_icY X2 hx 22 (hb hby d20_17) (feq hx0).2 (by decide) (by decide) ?_
  refine og_iloadN X2 hx (hb hby d20_22) rfl ?_
  refine og_iloadN X2 hx (hb hby d20_23) rfl ?_
  refine og_isub X2 hx (hb hby d20_24) ?_
  refine og_istore X2 hx #[rv t, iv 0, iv 0, iv n, iv 0] (hb hby d20_25) rfl ?_
  refine og_aloadN X2 hx (hb hby d20_27) rfl rfl ?_
  refine own_callV X2 hx hZ hown (own_hw hw 57 rfl) (own_hw hw 58 rfl) (notFace_of_selects (args := #[]) (mvT hZ (own_hw hw 60 rfl))) (own_hw hw 60 rfl) (own_hw hw 59 rfl) (own_hw hw 61 rfl) (own_hw hw 9 rfl) (by decide) (b := t) (argsL := []) (rest := []) (own_isl1 l Z a0 hw z sf t h0 n0 hO hG Fc) e2 Et (by rw [hml]; rfl) (lenOf own_pd61835 rfl) rfl (hb hby d20_28) (W := 0) (Nat.le_of_eq rfl) (by decide) ?_
  intro v3 T3 L3 X3 q3
  obtain ⟨rfl, N3q, e3⟩ := q3
  have N3 := Fr.app N2 N3q
  show own_Go p e below _ T3 (mkF m 31 #[rv t, iv 0, iv 0, iv n, iv 0] [(.int (1 : Int32))])
  refine og_ifN X3 hx (hb hby d20_31) (feq (by decide)).1 ?_
  refine og_aloadN X3 hx (hb hby d20_34) rfl rfl ?_
  refine og_getF X3 hx hZ hown (own_hw hw 27 rfl) Via.refl e3 Fv (hb hby d20_35) ?_
  intro T4 X4 e4
  refine og_iloadN X4 hx (hb hby d20_38) rfl ?_
  refine og_iload X4 hx (hb hby d20_39) rfl ?_
  refine own_callSH X4 hx hZ hown (own_hw hw 102 rfl) (own_hw hw 103 rfl) (own_hw hw 64 rfl) (own_hw hw 104 rfl) (by decide) (argsL := [(.ref b), (.int 0), (.int 0)]) (rest := []) (own_nse l Z a0 hw b 0 h0 n0 hO) (own_EW hw) C0.1 hS hk e4 (by rw [hml]; rfl) (lenOf own_pd78060 rfl) rfl (hb hby d20_41) (W := 0) (Nat.le_of_eq rfl) (by decide) ?_
  intro v5 T5 L5 X5 hS5 hZ5 hown5 C5q q5
  obtain ⟨t5, vb5, k5, rfl, N5q, K5q, Et5, Ft5, Ct5, At5⟩ := q5
  have N5 := Fr.app N3 N5q
  have C5 := C0.trans C5q
  have E_t_5 := Et.keep K5q
  have F_t_value_5 := Fv.keep K5q nin0
  have F_t_coder_5 := Fc.keep K5q nin0
  have A_b_5 := Ab.keep K5q nin0
  have O5 := hO.keep K5q all0
  have K5 := (Keep.refl h0 []).trans K5q all0
  show own_Go p e below _ T5 (mkF m 44 #[rv t, iv 0, iv 0, iv n, iv 0] [(.ref t5)])
  refine og_goto X5 hx 57 (hb hby d20_44) (by decide) (by decide) ?_
  exact own_retAH X5 hx hret hlk (hb hby d20_57) rfl rfl hZ5 (own_EW hw) C5 rfl hS5 (Nat.le_refl _) (by decide) (by decide) (⟨t5, vb5, _, rfl, N5, K5, Et5, Ft5, Ct5, At5⟩)
theorem d7_16 : decode prog_41_method_7_code 16 = .ok (.aload_n 0, 1) := by decide +kernel
theorem d7_17 : decode prog_41_method_7_code 17 = .ok (.iconst 0, 1) := by decide +kernel
theorem d7_18 : decode prog_41_method_7_code 18 = .ok (.iload_n 1, 1) := by decide +kernel
theorem d7_19 : decode prog_41_method_7_code 19 = .ok (.invokevirtual 163, 3) := by decide +kernel
theorem own_pd41291 : parseMethodDescriptor "(II)Ljava/lang/String;" = some ⟨[.int, .int], some (.object "java/lang/String")⟩ := by decide +kernel
def own_r_own_po_1_0 : Room := { frames := 4, cells := 2, slots := 4, locals := 55 }
theorem own_po_1_0 (l : Launch) (Z : State) (a0 : Array Value) (hw : own_W a0 Z) (z : Int32) (sf : Value) (t b : Addr) (kb : ClassId) (dv : Value) (c0 : Int32) (h0 : Heap) (n0 : Nat) (hO : Old Z n0 h0) (hG : own_Gs Z z sf)  (hsl : c0 = 47) (Et : own_E Z h0 t) (Fv : own_V Z h0 t b) (Fc : own_C Z h0 t) (Ab : Arv Z h0 b kb .byte 1 [(.int c0.toInt8.toInt32)] dv) :
    own_MetH l Z own_EL (⟨"com/example/svazek/svazek/PackageFolder", "placeOf", "(Ljava/lang/String;)Ljava/lang/String;"⟩ : MethodName) prog_41_method_7_code 2 (some (.object "java/lang/String")) own_r_own_po_1_0 #[(.ref t)] h0 (own_Qe Z h0 n0) := by
  refine own_bodyH (by decide +kernel) ?_
  intro p e s m below meth c T0 X0 hx hZ hby hml hown hnm hret hlk e0 hS hk C0
  have hwS : ∀ a ∈ Bundle.stringAtoms, a.before a0 Z = true := fun d hd => hw d ((by decide +kernel : ∀ d ∈ Bundle.stringAtoms, d ∈ tables_1) d hd)
  have N0 := Fr.nil n0
  refine own_cast (own_frame (L := [rv t]) (ls := #[rv t, .unset]) rfl rfl) ?_
  obtain ⟨SC, hz, SF, rf⟩ := id hG
  refine og_aloadN X0 hx (hb hby d7_0) rfl rfl ?_
  refine og_bipush X0 hx (hb hby d7_1) ?_
  refine own_callV X0 hx hZ hown (own_hw hw 36 rfl) (own_hw hw 37 rfl) (notFace_of_selects (args := #[]) (mvT hZ (own_hw hw 39 rfl))) (own_hw hw 39 rfl) (own_hw hw 38 rfl) (own_hw hw 40 rfl) (own_hw hw 9 rfl) (by decide) (b := t) (argsL := [(.int 47)]) (rest := []) (own_lic_1 l Z a0 hw z sf t b _ _ c0 (0) h0 n0 hO hG (own_lia_1_0 l Z a0 hw b _ _ c0 h0 n0 hsl Ab) Et Fv Fc Ab) e0 Et (by rw [hml]; rfl) (lenOf own_pd49053 rfl) rfl (hb hby d7_3) (W := 0) (Nat.le_of_eq rfl) (by decide) ?_
  intro v1 T1 L1 X1 q1
  obtain ⟨rfl, N1q, e1⟩ := q1
  have N1 := Fr.app N0 N1q
  show own_Go p e below _ T1 (mkF m 6 #[rv t, .unset] [(.int 0)])
  refine og_istoreN X1 hx #[rv t, iv 0] (hb hby d7_6) rfl ?_
  refine og_iloadN X1 hx (hb hby d7_7) rfl ?_
  refine og_ifY X1 hx 16 (hb hby d7_8) (flt (by decide)).2.1 (by decide) (by decide) ?_
  refine og_aloadN X1 hx (hb hby d7_16) rfl rfl ?_
  refine og_iconst X1 hx (hb hby d7_17) ?_
  refine og_iloadN X1 hx (hb hby d7_18) rfl ?_
  refine own_callVH X1 hx hZ hown (own_hw hw 89 rfl) (own_hw hw 90 rfl) (notFace_of_selects (args := #[]) (mvT hZ (own_hw hw 92 rfl))) (own_hw hw 92 rfl) (own_hw hw 91 rfl) (own_hw hw 93 rfl) (own_hw hw 9 rfl) (by decide) (b := t) (argsL := [(.int 0), (.int 0)]) (rest := []) (own_subEz l Z a0 hw z sf t b _ _ _ _ h0 n0 hO hG (by decide) (by decide) Et Fv Fc Ab) (own_EW hw) C0.1 hS hk e1 Et (by rw [hml]; rfl) (lenOf own_pd41291 rfl) rfl (hb hby d7_19) (W := 0) (Nat.le_of_eq rfl) (by decide) ?_
  intro v2 T2 L2 X2 hS2 hZ2 hown2 C2q q2
  obtain ⟨t2, vb2, k2, rfl, N2q, K2q, Et2, Ft2, Ct2, At2⟩ := q2
  have N2 := Fr.app N1 N2q
  have C2 := C0.trans C2q
  have E_t_2 := Et.keep K2q
  have F_t_value_2 := Fv.keep K2q nin0
  have F_t_coder_2 := Fc.keep K2q nin0
  have A_b_2 := Ab.keep K2q nin0
  have O2 := hO.keep K2q all0
  have K2 := (Keep.refl h0 []).trans K2q all0
  show own_Go p e below _ T2 (mkF m 22 #[rv t, iv 0] [(.ref t2)])
  exact own_retAH X2 hx hret hlk (hb hby d7_22) rfl rfl hZ2 (own_EW hw) C2 rfl hS2 (Nat.le_refl _) (by decide) (by decide) (⟨t2, vb2, _, rfl, N2, K2, Et2, Ft2, Ct2, At2⟩)
theorem d6_32 : decode method_5_code 32 = .ok (.iload_n 2, 1) := by decide +kernel
theorem d6_33 : decode method_5_code 33 = .ok (.bipush 47, 2) := by decide +kernel
theorem d6_35 : decode method_5_code 35 = .ok (.if_icmp .ne 5, 3) := by decide +kernel
def own_r_own_ls_2_m1 : Room := { frames := 0, cells := 0, slots := 0, locals := 0 }
theorem own_ls_2_m1 (l : Launch) (Z : State) (a0 : Array Value) (hw : own_W a0 Z) (c0 c1 c2 c3 : Int32) (h0 : Heap) (n0 : Nat) (m0 : ¬ c0 = 47) (m1 : ¬ c1 = 47) :
    own_Met l Z (⟨"com/example/svazek/svazek/PackageFolderPlaceOfPinLaw", "lastSlash", "(ICCCC)I"⟩ : MethodName) method_5_code 5 (some .int) own_r_own_ls_2_m1 #[(.int 2), (.int c0), (.int c1), (.int c2), (.int c3)] h0 (own_Qv (some (.int (-1))) h0 n0) := by
  refine own_body (by decide +kernel) ?_
  intro p e s m below meth c T0 X0 hx hZ hby hml hown hnm hret hlk e0
  have N0 := Fr.nil n0
  refine own_cast (own_frame (L := [iv 2, iv c0, iv c1, iv c2, iv c3]) (ls := #[iv 2, iv c0, iv c1, iv c2, iv c3]) rfl rfl) ?_
  refine og_iloadN X0 hx (hb hby d6_0) rfl ?_
  refine og_iconst X0 hx (hb hby d6_1) ?_
  refine og_icY X0 hx 14 (hb hby d6_2) (flt (by decide)).2.2.2 (by decide) (by decide) ?_
  refine og_iloadN X0 hx (hb hby d6_14) rfl ?_
  refine og_iconst X0 hx (hb hby d6_15) ?_
  refine og_icY X0 hx 27 (hb hby d6_16) (flt (by decide)).2.2.2 (by decide) (by decide) ?_
  refine og_iloadN X0 hx (hb hby d6_27) rfl ?_
  refine og_iconst X0 hx (hb hby d6_28) ?_
  refine og_icN X0 hx (hb hby d6_29) (tlt (by decide)).2.2.2 ?_
  refine og_iloadN X0 hx (hb hby d6_32) rfl ?_
  refine og_bipush X0 hx (hb hby d6_33) ?_
  refine og_icY X0 hx 40 (hb hby d6_35) (feq m1).2 (by decide) (by decide) ?_
  refine og_iloadN X0 hx (hb hby d6_40) rfl ?_
  refine og_ifN X0 hx (hb hby d6_41) (tlt (by decide)).2.2.2 ?_
  refine og_iloadN X0 hx (hb hby d6_44) rfl ?_
  refine og_bipush X0 hx (hb hby d6_45) ?_
  refine og_icY X0 hx 52 (hb hby d6_47) (feq m0).2 (by decide) (by decide) ?_
  refine og_iconst X0 hx (hb hby d6_52) ?_
  exact own_retI X0 hx hret hlk (hb hby d6_53) rfl (by simp) (by decide) (by decide) (⟨rfl, N0, e0⟩)
def own_r_own_min_1_1 : Room := { frames := 0, cells := 0, slots := 0, locals := 0 }
theorem own_min_1_1 (l : Launch) (Z : State) (a0 : Array Value) (hw : own_W a0 Z)  (h0 : Heap) (n0 : Nat)  :
    own_Met l Z (⟨"java/lang/Math", "min", "(II)I"⟩ : MethodName) jdk_29_method_69_code 2 (some .int) own_r_own_min_1_1 #[(.int 1), (.int 1)] h0 (own_Qv (some (.int (1))) h0 n0) := by
  refine own_body (by decide +kernel) ?_
  intro p e s m below meth c T0 X0 hx hZ hby hml hown hnm hret hlk e0
  have N0 := Fr.nil n0
  refine own_cast (own_frame (L := [iv 1, iv 1]) (ls := #[iv 1, iv 1]) rfl rfl) ?_
  refine og_iloadN X0 hx (hb hby d15_0) rfl ?_
  refine og_iloadN X0 hx (hb hby d15_1) rfl ?_
  refine og_icN X0 hx (hb hby d15_2) (flt (by decide)).2.2.1 ?_
  refine og_iloadN X0 hx (hb hby d15_5) rfl ?_
  refine og_goto X0 hx 10 (hb hby d15_6) (by decide) (by decide) ?_
  exact own_retI X0 hx hret hlk (hb hby d15_10) rfl (by simp) (by decide) (by decide) (⟨rfl, N0, e0⟩)
theorem own_lia_2_m1 (l : Launch) (Z : State) (a0 : Array Value) (hw : own_W a0 Z) (b : Addr) (kb : ClassId) (dv : Value) (c0 c1 : Int32) (h0 : Heap) (n0 : Nat) (hc0 : ¬ c0 < 0 ∧ ¬ (255 : Int32) < c0) (m0 : ¬ c0 = 47) (hc1 : ¬ c1 < 0 ∧ ¬ (255 : Int32) < c1) (m1 : ¬ c1 = 47) (Ab : Arv Z h0 b kb .byte 2 [(.int c0.toInt8.toInt32), (.int c1.toInt8.toInt32)] dv) :
    own_Met l Z (⟨"java/lang/StringLatin1", "lastIndexOf", "([BII)I"⟩ : MethodName) jdk_43_method_27_code 4 (some .int) own_r_lia #[(.ref b), (.int 47), (.int 1)] h0 (own_Qv (some (.int (-1))) h0 n0) := by
  refine own_body (by decide +kernel) ?_
  intro p e s m below meth c T0 X0 hx hZ hby hml hown hnm hret hlk e0
  have N0 := Fr.nil n0
  refine own_cast (own_frame (L := [rv b, iv 47, iv 1]) (ls := #[rv b, iv 47, iv 1, .unset]) rfl rfl) ?_
  refine og_iloadN X0 hx (hb hby d13_0) rfl ?_
  refine own_callS X0 hx hZ hown (own_hw hw 66 rfl) (own_hw hw 67 rfl) (own_hw hw 64 rfl) (own_hw hw 68 rfl) (by decide) (argsL := [(.int 47)]) (rest := []) (own_ce47 l Z a0 hw h0 n0) e0 (by rw [hml]; rfl) (lenOf own_pd97859 rfl) rfl (hb hby d13_1) (W := 0) (Nat.le_of_eq rfl) (by decide) ?_
  intro v1 T1 L1 X1 q1
  obtain ⟨rfl, N1q, e1⟩ := q1
  have N1 := Fr.app N0 N1q
  show own_Go p e below _ T1 (mkF m 4 #[rv b, iv 47, iv 1, .unset] [(.int 1)])
  refine og_ifY X1 hx 9 (hb hby d13_4) (feq (by decide)).2 (by decide) (by decide) ?_
  refine og_iloadN X1 hx (hb hby d13_9) rfl ?_
  refine og_aloadN X1 hx (hb hby d13_10) rfl rfl ?_
  refine own_len X1 hx hZ e1 Ab (hb hby d13_11) ?_
  show own_Go p e below _ T1 (mkF m 12 #[rv b, iv 47, iv 1, .unset] [(.int 2), (.int 1)])
  refine og_iconst X1 hx (hb hby d13_12) ?_
  refine og_isub X1 hx (hb hby d13_13) ?_
  show own_Go p e below _ T1 (mkF m 14 #[rv b, iv 47, iv 1, .unset] [(.int 1), (.int 1)])
  refine own_callS X1 hx hZ hown (own_hw hw 69 rfl) (own_hw hw 70 rfl) (own_hw hw 71 rfl) (own_hw hw 72 rfl) (by decide) (argsL := [(.int 1), (.int 1)]) (rest := []) (own_min_1_1 l Z a0 hw h0 n0) e1 (by rw [hml]; rfl) (lenOf own_pd23903 rfl) rfl (hb hby d13_14) (W := 0) (Nat.le_of_eq rfl) (by decide) ?_
  intro v2 T2 L2 X2 q2
  obtain ⟨rfl, N2q, e2⟩ := q2
  have N2 := Fr.app N1 N2q
  show own_Go p e below _ T2 (mkF m 17 #[rv b, iv 47, iv 1, .unset] [(.int 1)])
  refine og_istoreN X2 hx #[rv b, iv 47, iv 1, iv 1] (hb hby d13_17) rfl ?_
  refine og_iloadN X2 hx (hb hby d13_18) rfl ?_
  refine og_ifN X2 hx (hb hby d13_19) (flt (by decide)).1 ?_
  refine og_aloadN X2 hx (hb hby d13_22) rfl rfl ?_
  refine og_iloadN X2 hx (hb hby d13_23) rfl ?_
  refine own_ldB X2 hx hZ e2 Ab ⟨by decide, by decide⟩ rfl (hb hby d13_24) ?_
  show own_Go p e below _ T2 (mkF m 25 #[rv b, iv 47, iv 1, iv 1] [(.int c1.toInt8.toInt32)])
  refine og_iloadN X2 hx (hb hby d13_25) rfl ?_
  refine own_go (fun t k => XS.i2b X2.here hx rfl (hb hby d13_26) rfl k) ?_
  show own_Go p e below _ T2 (mkF m 27 #[rv b, iv 47, iv 1, iv 1] [(.int 47), (.int c1.toInt8.toInt32)])
  refine og_icY X2 hx 32 (hb hby d13_27) (feq (fun q => m1 (own_b47 _ hc1 q))).2 (by decide) (by decide) ?_
  refine own_go (fun t k => XS.iinc X2.here hx rfl (hb hby d13_32) rfl (l' := #[rv b, iv 47, iv 1, iv 0]) rfl k) ?_
  show own_Go p e below _ T2 (mkF m 35 #[rv b, iv 47, iv 1, iv 0] [])
  refine og_goto X2 hx 18 (hb hby d13_35) (by decide) (by decide) ?_
  refine og_iloadN X2 hx (hb hby d13_18) rfl ?_
  refine og_ifN X2 hx (hb hby d13_19) (flt (by decide)).1 ?_
  refine og_aloadN X2 hx (hb hby d13_22) rfl rfl ?_
  refine og_iloadN X2 hx (hb hby d13_23) rfl ?_
  refine own_ldB X2 hx hZ e2 Ab ⟨by decide, by decide⟩ rfl (hb hby d13_24) ?_
  show own_Go p e below _ T2 (mkF m 25 #[rv b, iv 47, iv 1, iv 0] [(.int c0.toInt8.toInt32)])
  refine og_iloadN X2 hx (hb hby d13_25) rfl ?_
  refine own_go (fun t k => XS.i2b X2.here hx rfl (hb hby d13_26) rfl k) ?_
  show own_Go p e below _ T2 (mkF m 27 #[rv b, iv 47, iv 1, iv 0] [(.int 47), (.int c0.toInt8.toInt32)])
  refine og_icY X2 hx 32 (hb hby d13_27) (feq (fun q => m0 (own_b47 _ hc0 q))).2 (by decide) (by decide) ?_
  refine own_go (fun t k => XS.iinc X2.here hx rfl (hb hby d13_32) rfl (l' := #[rv b, iv 47, iv 1, iv (-1)]) rfl k) ?_
  show own_Go p e below _ T2 (mkF m 35 #[rv b, iv 47, iv 1, iv (-1)] [])
  refine og_goto X2 hx 18 (hb hby d13_35) (by decide) (by decide) ?_
  refine og_iloadN X2 hx (hb hby d13_18) rfl ?_
  refine og_ifY X2 hx 38 (hb hby d13_19) (tlt (by decide)).1 (by decide) (by decide) ?_
  refine og_iconst X2 hx (hb hby d13_38) ?_
  exact own_retI X2 hx hret hlk (hb hby d13_39) rfl (by simp) (by decide) (by decide) (⟨rfl, N2, e2⟩)
def own_r_own_lib_2 : Room := { frames := 2, cells := 0, slots := 0, locals := 28 }
theorem own_lib_2 (l : Launch) (Z : State) (a0 : Array Value) (hw : own_W a0 Z) (z : Int32) (sf : Value) (t b : Addr) (kb : ClassId) (dv : Value) (c0 c1 : Int32) (r : Int32) (h0 : Heap) (n0 : Nat) (hO : Old Z n0 h0) (hG : own_Gs Z z sf) (inn : own_Met l Z (⟨"java/lang/StringLatin1", "lastIndexOf", "([BII)I"⟩ : MethodName) jdk_43_method_27_code 4 (some .int) own_r_lia #[.ref b, .int 47, .int 1] h0 (own_Qv (some (.int r)) h0 n0)) (Et : own_E Z h0 t) (Fv : own_V Z h0 t b) (Fc : own_C Z h0 t) (Ab : Arv Z h0 b kb .byte 2 [(.int c0.toInt8.toInt32), (.int c1.toInt8.toInt32)] dv) :
    own_Met l Z (⟨"java/lang/String", "lastIndexOf", "(II)I"⟩ : MethodName) jdk_42_method_83_code 3 (some .int) own_r_own_lib_2 #[(.ref t), (.int 47), (.int 1)] h0 (own_Qv (some (.int r)) h0 n0) := by
  refine own_body (by decide +kernel) ?_
  intro p e s m below meth c T0 X0 hx hZ hby hml hown hnm hret hlk e0
  have N0 := Fr.nil n0
  refine own_cast (own_frame (L := [rv t, iv 47, iv 1]) (ls := #[rv t, iv 47, iv 1]) rfl rfl) ?_
  obtain ⟨SC, hz, SF, rf⟩ := id hG
  refine og_aloadN X0 hx (hb hby d11_0) rfl rfl ?_
  refine own_callV X0 hx hZ hown (own_hw hw 57 rfl) (own_hw hw 58 rfl) (notFace_of_selects (args := #[]) (mvT hZ (own_hw hw 60 rfl))) (own_hw hw 60 rfl) (own_hw hw 59 rfl) (own_hw hw 61 rfl) (own_hw hw 9 rfl) (by decide) (b := t) (argsL := []) (rest := []) (own_isl1 l Z a0 hw z sf t h0 n0 hO hG Fc) e0 Et (by rw [hml]; rfl) (lenOf own_pd61835 rfl) rfl (hb hby d11_1) (W := 0) (Nat.le_of_eq rfl) (by decide) ?_
  intro v1 T1 L1 X1 q1
  obtain ⟨rfl, N1q, e1⟩ := q1
  have N1 := Fr.app N0 N1q
  show own_Go p e below _ T1 (mkF m 4 #[rv t, iv 47, iv 1] [(.int (1 : Int32))])
  refine og_ifN X1 hx (hb hby d11_4) (feq (by decide)).1 ?_
  refine og_aloadN X1 hx (hb hby d11_7) rfl rfl ?_
  refine og_getF X1 hx hZ hown (own_hw hw 27 rfl) Via.refl e1 Fv (hb hby d11_8) ?_
  intro T2 X2 e2
  refine og_iloadN X2 hx (hb hby d11_11) rfl ?_
  refine og_iloadN X2 hx (hb hby d11_12) rfl ?_
  refine own_callS X2 hx hZ hown (own_hw hw 62 rfl) (own_hw hw 63 rfl) (own_hw hw 64 rfl) (own_hw hw 65 rfl) (by decide) (argsL := [(.ref b), (.int 47), (.int 1)]) (rest := []) inn e2 (by rw [hml]; rfl) (lenOf own_pd83039 rfl) rfl (hb hby d11_13) (W := 0) (Nat.le_of_eq rfl) (by decide) ?_
  intro v3 T3 L3 X3 q3
  obtain ⟨rfl, N3q, e3⟩ := q3
  have N3 := Fr.app N1 N3q
  show own_Go p e below _ T3 (mkF m 16 #[rv t, iv 47, iv 1] [(.int r)])
  refine og_goto X3 hx 28 (hb hby d11_16) (by decide) (by decide) ?_
  exact own_retI X3 hx hret hlk (hb hby d11_28) rfl (by simp) (by decide) (by decide) (⟨rfl, N3, e3⟩)
def own_r_own_lic_2 : Room := { frames := 3, cells := 0, slots := 0, locals := 42 }
theorem own_lic_2 (l : Launch) (Z : State) (a0 : Array Value) (hw : own_W a0 Z) (z : Int32) (sf : Value) (t b : Addr) (kb : ClassId) (dv : Value) (c0 c1 : Int32) (r : Int32) (h0 : Heap) (n0 : Nat) (hO : Old Z n0 h0) (hG : own_Gs Z z sf) (inn : own_Met l Z (⟨"java/lang/StringLatin1", "lastIndexOf", "([BII)I"⟩ : MethodName) jdk_43_method_27_code 4 (some .int) own_r_lia #[.ref b, .int 47, .int 1] h0 (own_Qv (some (.int r)) h0 n0)) (Et : own_E Z h0 t) (Fv : own_V Z h0 t b) (Fc : own_C Z h0 t) (Ab : Arv Z h0 b kb .byte 2 [(.int c0.toInt8.toInt32), (.int c1.toInt8.toInt32)] dv) :
    own_Met l Z (⟨"java/lang/String", "lastIndexOf", "(I)I"⟩ : MethodName) jdk_42_method_82_code 2 (some .int) own_r_own_lic_2 #[(.ref t), (.int 47)] h0 (own_Qv (some (.int r)) h0 n0) := by
  refine own_body (by decide +kernel) ?_
  intro p e s m below meth c T0 X0 hx hZ hby hml hown hnm hret hlk e0
  have N0 := Fr.nil n0
  refine own_cast (own_frame (L := [rv t, iv 47]) (ls := #[rv t, iv 47]) rfl rfl) ?_
  obtain ⟨SC, hz, SF, rf⟩ := id hG
  refine og_aloadN X0 hx (hb hby d8_0) rfl rfl ?_
  refine og_iloadN X0 hx (hb hby d8_1) rfl ?_
  refine og_aloadN X0 hx (hb hby d8_2) rfl rfl ?_
  refine own_callV X0 hx hZ hown (own_hw hw 41 rfl) (own_hw hw 42 rfl) (notFace_of_selects (args := #[]) (mvT hZ (own_hw hw 44 rfl))) (own_hw hw 44 rfl) (own_hw hw 43 rfl) (own_hw hw 45 rfl) (own_hw hw 9 rfl) (by decide) (b := t) (argsL := []) (rest := [(.int 47), (.ref t)]) (own_slen l Z a0 hw z sf t b _ _ _ _ h0 n0 hO hG Et Fv Fc Ab) e0 Et (by rw [hml]; rfl) (lenOf own_pd13941 rfl) rfl (hb hby d8_3) (W := 2) (Nat.le_of_eq rfl) (by decide) ?_
  intro v1 T1 L1 X1 q1
  obtain ⟨rfl, N1q, e1⟩ := q1
  have N1 := Fr.app N0 N1q
  show own_Go p e below _ T1 (mkF m 6 #[rv t, iv 47] [(.int 2), (.int 47), (.ref t)])
  refine og_iconst X1 hx (hb hby d8_6) ?_
  refine og_isub X1 hx (hb hby d8_7) ?_
  show own_Go p e below _ T1 (mkF m 8 #[rv t, iv 47] [(.int 1), (.int 47), (.ref t)])
  refine own_callV X1 hx hZ hown (own_hw hw 52 rfl) (own_hw hw 53 rfl) (notFace_of_selects (args := #[]) (mvT hZ (own_hw hw 55 rfl))) (own_hw hw 55 rfl) (own_hw hw 54 rfl) (own_hw hw 56 rfl) (own_hw hw 9 rfl) (by decide) (b := t) (argsL := [(.int 47), (.int 1)]) (rest := []) (own_lib_2 l Z a0 hw z sf t b _ _ c0 c1 r h0 n0 hO hG inn Et Fv Fc Ab) e1 Et (by rw [hml]; rfl) (lenOf own_pd23903 rfl) rfl (hb hby d8_8) (W := 0) (Nat.le_of_eq rfl) (by decide) ?_
  intro v2 T2 L2 X2 q2
  obtain ⟨rfl, N2q, e2⟩ := q2
  have N2 := Fr.app N1 N2q
  show own_Go p e below _ T2 (mkF m 11 #[rv t, iv 47] [(.int r)])
  exact own_retI X2 hx hret hlk (hb hby d8_11) rfl (by simp) (by decide) (by decide) (⟨rfl, N2, e2⟩)
def own_r_own_po_2_m1 : Room := { frames := 4, cells := 2, slots := 4, locals := 55 }
theorem own_po_2_m1 (l : Launch) (Z : State) (a0 : Array Value) (hw : own_W a0 Z) (z : Int32) (sf : Value) (t b : Addr) (kb : ClassId) (dv : Value) (c0 c1 : Int32) (h0 : Heap) (n0 : Nat) (hO : Old Z n0 h0) (hG : own_Gs Z z sf) (hc0 : ¬ c0 < 0 ∧ ¬ (255 : Int32) < c0) (m0 : ¬ c0 = 47) (hc1 : ¬ c1 < 0 ∧ ¬ (255 : Int32) < c1) (m1 : ¬ c1 = 47) (Et : own_E Z h0 t) (Fv : own_V Z h0 t b) (Fc : own_C Z h0 t) (Ab : Arv Z h0 b kb .byte 2 [(.int c0.toInt8.toInt32), (.int c1.toInt8.toInt32)] dv) :
    own_MetH l Z own_EL (⟨"com/example/svazek/svazek/PackageFolder", "placeOf", "(Ljava/lang/String;)Ljava/lang/String;"⟩ : MethodName) prog_41_method_7_code 2 (some (.object "java/lang/String")) own_r_own_po_2_m1 #[(.ref t)] h0 (own_Qe Z h0 n0) := by
  refine own_bodyH (by decide +kernel) ?_
  intro p e s m below meth c T0 X0 hx hZ hby hml hown hnm hret hlk e0 hS hk C0
  have hwS : ∀ a ∈ Bundle.stringAtoms, a.before a0 Z = true := fun d hd => hw d ((by decide +kernel : ∀ d ∈ Bundle.stringAtoms, d ∈ tables_1) d hd)
  have N0 := Fr.nil n0
  refine own_cast (own_frame (L := [rv t]) (ls := #[rv t, .unset]) rfl rfl) ?_
  obtain ⟨SC, hz, SF, rf⟩ := id hG
  refine og_aloadN X0 hx (hb hby d7_0) rfl rfl ?_
  refine og_bipush X0 hx (hb hby d7_1) ?_
  refine own_callV X0 hx hZ hown (own_hw hw 36 rfl) (own_hw hw 37 rfl) (notFace_of_selects (args := #[]) (mvT hZ (own_hw hw 39 rfl))) (own_hw hw 39 rfl) (own_hw hw 38 rfl) (own_hw hw 40 rfl) (own_hw hw 9 rfl) (by decide) (b := t) (argsL := [(.int 47)]) (rest := []) (own_lic_2 l Z a0 hw z sf t b _ _ c0 c1 (-1) h0 n0 hO hG (own_lia_2_m1 l Z a0 hw b _ _ c0 c1 h0 n0 hc0 m0 hc1 m1 Ab) Et Fv Fc Ab) e0 Et (by rw [hml]; rfl) (lenOf own_pd49053 rfl) rfl (hb hby d7_3) (W := 0) (Nat.le_of_eq rfl) (by decide) ?_
  intro v1 T1 L1 X1 q1
  obtain ⟨rfl, N1q, e1⟩ := q1
  have N1 := Fr.app N0 N1q
  show own_Go p e below _ T1 (mkF m 6 #[rv t, .unset] [(.int (-1))])
  refine og_istoreN X1 hx #[rv t, iv (-1)] (hb hby d7_6) rfl ?_
  refine og_iloadN X1 hx (hb hby d7_7) rfl ?_
  refine og_ifN X1 hx (hb hby d7_8) (tlt (by decide)).2.1 ?_
  show own_Go p e below _ T1 (mkF m 11 #[rv t, iv (-1)] [])
  refine own_ldcH X1 hx hZ hown (own_hw hw 73 rfl) hwS e1 hS hk (own_EW hw) (List.mem_of_getElem? (i := 1) rfl) C0.1 (z := 0) ⟨by decide, rfl⟩ (by decide) rfl (hb hby d7_11) 0 (by decide) (by decide) (by decide) (by decide) ?_
  intro s2 T2 h2 k2 d2 kb2 X2 e2 E2 hS2 hk2 hZ2 hown2 Es2 Fc2 Fv2 As2 C2q Lt2 ns2
  have E_t_2 := Et.ext E2
  have F_t_value_2 := Fv.ext E2
  have F_t_coder_2 := Fc.ext E2
  have A_b_2 := Ab.ext E2
  have C2 := C0.trans C2q
  have O2 := hO.ext E2
  have K2 := (Keep.refl h0 []).ext E2
  have E_s2_2 : Exa Z h2 s2 "java/lang/String" := Es2
  have F_s2_coder_2 : Fld Z h2 s2 "java/lang/String" "coder" "B" (.int (0 : Int32)) := Fc2
  have F_s2_value_2 : Fld Z h2 s2 "java/lang/String" "value" "[B" (.ref d2) := Fv2
  have A_d2_2 : Arv Z h2 d2 kb2 .byte 0 [] (.int 0) := As2
  show own_Go p e below _ T2 (mkF m 13 #[rv t, iv (-1)] [(.ref s2)])
  refine og_goto X2 hx 22 (hb hby d7_13) (by decide) (by decide) ?_
  exact own_retAH X2 hx hret hlk (hb hby d7_22) rfl rfl hZ2 (own_EW hw) C2 e2 hS2 hk2 (by decide) (by decide) (by rw [e2]; exact ⟨s2, d2, _, rfl, N1, K2, E_s2_2, F_s2_value_2, F_s2_coder_2, A_d2_2⟩)
def own_r_own_ls_2_0 : Room := { frames := 0, cells := 0, slots := 0, locals := 0 }
theorem own_ls_2_0 (l : Launch) (Z : State) (a0 : Array Value) (hw : own_W a0 Z) (c0 c1 c2 c3 : Int32) (h0 : Heap) (n0 : Nat) (m1 : ¬ c1 = 47) (hsl : c0 = 47) :
    own_Met l Z (⟨"com/example/svazek/svazek/PackageFolderPlaceOfPinLaw", "lastSlash", "(ICCCC)I"⟩ : MethodName) method_5_code 5 (some .int) own_r_own_ls_2_0 #[(.int 2), (.int c0), (.int c1), (.int c2), (.int c3)] h0 (own_Qv (some (.int (0))) h0 n0) := by
  refine own_body (by decide +kernel) ?_
  intro p e s m below meth c T0 X0 hx hZ hby hml hown hnm hret hlk e0
  have N0 := Fr.nil n0
  refine own_cast (own_frame (L := [iv 2, iv c0, iv c1, iv c2, iv c3]) (ls := #[iv 2, iv c0, iv c1, iv c2, iv c3]) rfl rfl) ?_
  refine og_iloadN X0 hx (hb hby d6_0) rfl ?_
  refine og_iconst X0 hx (hb hby d6_1) ?_
  refine og_icY X0 hx 14 (hb hby d6_2) (flt (by decide)).2.2.2 (by decide) (by decide) ?_
  refine og_iloadN X0 hx (hb hby d6_14) rfl ?_
  refine og_iconst X0 hx (hb hby d6_15) ?_
  refine og_icY X0 hx 27 (hb hby d6_16) (flt (by decide)).2.2.2 (by decide) (by decide) ?_
  refine og_iloadN X0 hx (hb hby d6_27) rfl ?_
  refine og_iconst X0 hx (hb hby d6_28) ?_
  refine og_icN X0 hx (hb hby d6_29) (tlt (by decide)).2.2.2 ?_
  refine og_iloadN X0 hx (hb hby d6_32) rfl ?_
  refine og_bipush X0 hx (hb hby d6_33) ?_
  refine og_icY X0 hx 40 (hb hby d6_35) (feq m1).2 (by decide) (by decide) ?_
  refine og_iloadN X0 hx (hb hby d6_40) rfl ?_
  refine og_ifN X0 hx (hb hby d6_41) (tlt (by decide)).2.2.2 ?_
  refine og_iloadN X0 hx (hb hby d6_44) rfl ?_
  refine og_bipush X0 hx (hb hby d6_45) ?_
  refine og_icN X0 hx (hb hby d6_47) (teq hsl).2 ?_
  refine og_iconst X0 hx (hb hby d6_50) ?_
  exact own_retI X0 hx hret hlk (hb hby d6_51) rfl (by simp) (by decide) (by decide) (⟨rfl, N0, e0⟩)
theorem own_lia_2_0 (l : Launch) (Z : State) (a0 : Array Value) (hw : own_W a0 Z) (b : Addr) (kb : ClassId) (dv : Value) (c0 c1 : Int32) (h0 : Heap) (n0 : Nat) (hc1 : ¬ c1 < 0 ∧ ¬ (255 : Int32) < c1) (m1 : ¬ c1 = 47) (hsl : c0 = 47) (Ab : Arv Z h0 b kb .byte 2 [(.int c0.toInt8.toInt32), (.int c1.toInt8.toInt32)] dv) :
    own_Met l Z (⟨"java/lang/StringLatin1", "lastIndexOf", "([BII)I"⟩ : MethodName) jdk_43_method_27_code 4 (some .int) own_r_lia #[(.ref b), (.int 47), (.int 1)] h0 (own_Qv (some (.int (0))) h0 n0) := by
  refine own_body (by decide +kernel) ?_
  intro p e s m below meth c T0 X0 hx hZ hby hml hown hnm hret hlk e0
  have N0 := Fr.nil n0
  refine own_cast (own_frame (L := [rv b, iv 47, iv 1]) (ls := #[rv b, iv 47, iv 1, .unset]) rfl rfl) ?_
  refine og_iloadN X0 hx (hb hby d13_0) rfl ?_
  refine own_callS X0 hx hZ hown (own_hw hw 66 rfl) (own_hw hw 67 rfl) (own_hw hw 64 rfl) (own_hw hw 68 rfl) (by decide) (argsL := [(.int 47)]) (rest := []) (own_ce47 l Z a0 hw h0 n0) e0 (by rw [hml]; rfl) (lenOf own_pd97859 rfl) rfl (hb hby d13_1) (W := 0) (Nat.le_of_eq rfl) (by decide) ?_
  intro v1 T1 L1 X1 q1
  obtain ⟨rfl, N1q, e1⟩ := q1
  have N1 := Fr.app N0 N1q
  show own_Go p e below _ T1 (mkF m 4 #[rv b, iv 47, iv 1, .unset] [(.int 1)])
  refine og_ifY X1 hx 9 (hb hby d13_4) (feq (by decide)).2 (by decide) (by decide) ?_
  refine og_iloadN X1 hx (hb hby d13_9) rfl ?_
  refine og_aloadN X1 hx (hb hby d13_10) rfl rfl ?_
  refine own_len X1 hx hZ e1 Ab (hb hby d13_11) ?_
  show own_Go p e below _ T1 (mkF m 12 #[rv b, iv 47, iv 1, .unset] [(.int 2), (.int 1)])
  refine og_iconst X1 hx (hb hby d13_12) ?_
  refine og_isub X1 hx (hb hby d13_13) ?_
  show own_Go p e below _ T1 (mkF m 14 #[rv b, iv 47, iv 1, .unset] [(.int 1), (.int 1)])
  refine own_callS X1 hx hZ hown (own_hw hw 69 rfl) (own_hw hw 70 rfl) (own_hw hw 71 rfl) (own_hw hw 72 rfl) (by decide) (argsL := [(.int 1), (.int 1)]) (rest := []) (own_min_1_1 l Z a0 hw h0 n0) e1 (by rw [hml]; rfl) (lenOf own_pd23903 rfl) rfl (hb hby d13_14) (W := 0) (Nat.le_of_eq rfl) (by decide) ?_
  intro v2 T2 L2 X2 q2
  obtain ⟨rfl, N2q, e2⟩ := q2
  have N2 := Fr.app N1 N2q
  show own_Go p e below _ T2 (mkF m 17 #[rv b, iv 47, iv 1, .unset] [(.int 1)])
  refine og_istoreN X2 hx #[rv b, iv 47, iv 1, iv 1] (hb hby d13_17) rfl ?_
  refine og_iloadN X2 hx (hb hby d13_18) rfl ?_
  refine og_ifN X2 hx (hb hby d13_19) (flt (by decide)).1 ?_
  refine og_aloadN X2 hx (hb hby d13_22) rfl rfl ?_
  refine og_iloadN X2 hx (hb hby d13_23) rfl ?_
  refine own_ldB X2 hx hZ e2 Ab ⟨by decide, by decide⟩ rfl (hb hby d13_24) ?_
  show own_Go p e below _ T2 (mkF m 25 #[rv b, iv 47, iv 1, iv 1] [(.int c1.toInt8.toInt32)])
  refine og_iloadN X2 hx (hb hby d13_25) rfl ?_
  refine own_go (fun t k => XS.i2b X2.here hx rfl (hb hby d13_26) rfl k) ?_
  show own_Go p e below _ T2 (mkF m 27 #[rv b, iv 47, iv 1, iv 1] [(.int 47), (.int c1.toInt8.toInt32)])
  refine og_icY X2 hx 32 (hb hby d13_27) (feq (fun q => m1 (own_b47 _ hc1 q))).2 (by decide) (by decide) ?_
  refine own_go (fun t k => XS.iinc X2.here hx rfl (hb hby d13_32) rfl (l' := #[rv b, iv 47, iv 1, iv 0]) rfl k) ?_
  show own_Go p e below _ T2 (mkF m 35 #[rv b, iv 47, iv 1, iv 0] [])
  refine og_goto X2 hx 18 (hb hby d13_35) (by decide) (by decide) ?_
  refine og_iloadN X2 hx (hb hby d13_18) rfl ?_
  refine og_ifN X2 hx (hb hby d13_19) (flt (by decide)).1 ?_
  refine og_aloadN X2 hx (hb hby d13_22) rfl rfl ?_
  refine og_iloadN X2 hx (hb hby d13_23) rfl ?_
  refine own_ldB X2 hx hZ e2 Ab ⟨by decide, by decide⟩ rfl (hb hby d13_24) ?_
  show own_Go p e below _ T2 (mkF m 25 #[rv b, iv 47, iv 1, iv 0] [(.int c0.toInt8.toInt32)])
  refine og_iloadN X2 hx (hb hby d13_25) rfl ?_
  refine own_go (fun t k => XS.i2b X2.here hx rfl (hb hby d13_26) rfl k) ?_
  show own_Go p e below _ T2 (mkF m 27 #[rv b, iv 47, iv 1, iv 0] [(.int 47), (.int c0.toInt8.toInt32)])
  refine og_icN X2 hx (hb hby d13_27) (teq (by rw [hsl]; rfl)).2 ?_
  refine og_iloadN X2 hx (hb hby d13_30) rfl ?_
  exact own_retI X2 hx hret hlk (hb hby d13_31) rfl (by simp) (by decide) (by decide) (⟨rfl, N2, e2⟩)
def own_r_own_po_2_0 : Room := { frames := 4, cells := 2, slots := 4, locals := 55 }
theorem own_po_2_0 (l : Launch) (Z : State) (a0 : Array Value) (hw : own_W a0 Z) (z : Int32) (sf : Value) (t b : Addr) (kb : ClassId) (dv : Value) (c0 c1 : Int32) (h0 : Heap) (n0 : Nat) (hO : Old Z n0 h0) (hG : own_Gs Z z sf) (hc1 : ¬ c1 < 0 ∧ ¬ (255 : Int32) < c1) (m1 : ¬ c1 = 47) (hsl : c0 = 47) (Et : own_E Z h0 t) (Fv : own_V Z h0 t b) (Fc : own_C Z h0 t) (Ab : Arv Z h0 b kb .byte 2 [(.int c0.toInt8.toInt32), (.int c1.toInt8.toInt32)] dv) :
    own_MetH l Z own_EL (⟨"com/example/svazek/svazek/PackageFolder", "placeOf", "(Ljava/lang/String;)Ljava/lang/String;"⟩ : MethodName) prog_41_method_7_code 2 (some (.object "java/lang/String")) own_r_own_po_2_0 #[(.ref t)] h0 (own_Qe Z h0 n0) := by
  refine own_bodyH (by decide +kernel) ?_
  intro p e s m below meth c T0 X0 hx hZ hby hml hown hnm hret hlk e0 hS hk C0
  have hwS : ∀ a ∈ Bundle.stringAtoms, a.before a0 Z = true := fun d hd => hw d ((by decide +kernel : ∀ d ∈ Bundle.stringAtoms, d ∈ tables_1) d hd)
  have N0 := Fr.nil n0
  refine own_cast (own_frame (L := [rv t]) (ls := #[rv t, .unset]) rfl rfl) ?_
  obtain ⟨SC, hz, SF, rf⟩ := id hG
  refine og_aloadN X0 hx (hb hby d7_0) rfl rfl ?_
  refine og_bipush X0 hx (hb hby d7_1) ?_
  refine own_callV X0 hx hZ hown (own_hw hw 36 rfl) (own_hw hw 37 rfl) (notFace_of_selects (args := #[]) (mvT hZ (own_hw hw 39 rfl))) (own_hw hw 39 rfl) (own_hw hw 38 rfl) (own_hw hw 40 rfl) (own_hw hw 9 rfl) (by decide) (b := t) (argsL := [(.int 47)]) (rest := []) (own_lic_2 l Z a0 hw z sf t b _ _ c0 c1 (0) h0 n0 hO hG (own_lia_2_0 l Z a0 hw b _ _ c0 c1 h0 n0 hc1 m1 hsl Ab) Et Fv Fc Ab) e0 Et (by rw [hml]; rfl) (lenOf own_pd49053 rfl) rfl (hb hby d7_3) (W := 0) (Nat.le_of_eq rfl) (by decide) ?_
  intro v1 T1 L1 X1 q1
  obtain ⟨rfl, N1q, e1⟩ := q1
  have N1 := Fr.app N0 N1q
  show own_Go p e below _ T1 (mkF m 6 #[rv t, .unset] [(.int 0)])
  refine og_istoreN X1 hx #[rv t, iv 0] (hb hby d7_6) rfl ?_
  refine og_iloadN X1 hx (hb hby d7_7) rfl ?_
  refine og_ifY X1 hx 16 (hb hby d7_8) (flt (by decide)).2.1 (by decide) (by decide) ?_
  refine og_aloadN X1 hx (hb hby d7_16) rfl rfl ?_
  refine og_iconst X1 hx (hb hby d7_17) ?_
  refine og_iloadN X1 hx (hb hby d7_18) rfl ?_
  refine own_callVH X1 hx hZ hown (own_hw hw 89 rfl) (own_hw hw 90 rfl) (notFace_of_selects (args := #[]) (mvT hZ (own_hw hw 92 rfl))) (own_hw hw 92 rfl) (own_hw hw 91 rfl) (own_hw hw 93 rfl) (own_hw hw 9 rfl) (by decide) (b := t) (argsL := [(.int 0), (.int 0)]) (rest := []) (own_subEz l Z a0 hw z sf t b _ _ _ _ h0 n0 hO hG (by decide) (by decide) Et Fv Fc Ab) (own_EW hw) C0.1 hS hk e1 Et (by rw [hml]; rfl) (lenOf own_pd41291 rfl) rfl (hb hby d7_19) (W := 0) (Nat.le_of_eq rfl) (by decide) ?_
  intro v2 T2 L2 X2 hS2 hZ2 hown2 C2q q2
  obtain ⟨t2, vb2, k2, rfl, N2q, K2q, Et2, Ft2, Ct2, At2⟩ := q2
  have N2 := Fr.app N1 N2q
  have C2 := C0.trans C2q
  have E_t_2 := Et.keep K2q
  have F_t_value_2 := Fv.keep K2q nin0
  have F_t_coder_2 := Fc.keep K2q nin0
  have A_b_2 := Ab.keep K2q nin0
  have O2 := hO.keep K2q all0
  have K2 := (Keep.refl h0 []).trans K2q all0
  show own_Go p e below _ T2 (mkF m 22 #[rv t, iv 0] [(.ref t2)])
  exact own_retAH X2 hx hret hlk (hb hby d7_22) rfl rfl hZ2 (own_EW hw) C2 rfl hS2 (Nat.le_refl _) (by decide) (by decide) (⟨t2, vb2, _, rfl, N2, K2, Et2, Ft2, Ct2, At2⟩)
theorem d6_38 : decode method_5_code 38 = .ok (.iconst 1, 1) := by decide +kernel
theorem d6_39 : decode method_5_code 39 = .ok (.ireturn, 1) := by decide +kernel
def own_r_own_ls_2_1 : Room := { frames := 0, cells := 0, slots := 0, locals := 0 }
theorem own_ls_2_1 (l : Launch) (Z : State) (a0 : Array Value) (hw : own_W a0 Z) (c0 c1 c2 c3 : Int32) (h0 : Heap) (n0 : Nat)  (hsl : c1 = 47) :
    own_Met l Z (⟨"com/example/svazek/svazek/PackageFolderPlaceOfPinLaw", "lastSlash", "(ICCCC)I"⟩ : MethodName) method_5_code 5 (some .int) own_r_own_ls_2_1 #[(.int 2), (.int c0), (.int c1), (.int c2), (.int c3)] h0 (own_Qv (some (.int (1))) h0 n0) := by
  refine own_body (by decide +kernel) ?_
  intro p e s m below meth c T0 X0 hx hZ hby hml hown hnm hret hlk e0
  have N0 := Fr.nil n0
  refine own_cast (own_frame (L := [iv 2, iv c0, iv c1, iv c2, iv c3]) (ls := #[iv 2, iv c0, iv c1, iv c2, iv c3]) rfl rfl) ?_
  refine og_iloadN X0 hx (hb hby d6_0) rfl ?_
  refine og_iconst X0 hx (hb hby d6_1) ?_
  refine og_icY X0 hx 14 (hb hby d6_2) (flt (by decide)).2.2.2 (by decide) (by decide) ?_
  refine og_iloadN X0 hx (hb hby d6_14) rfl ?_
  refine og_iconst X0 hx (hb hby d6_15) ?_
  refine og_icY X0 hx 27 (hb hby d6_16) (flt (by decide)).2.2.2 (by decide) (by decide) ?_
  refine og_iloadN X0 hx (hb hby d6_27) rfl ?_
  refine og_iconst X0 hx (hb hby d6_28) ?_
  refine og_icN X0 hx (hb hby d6_29) (tlt (by decide)).2.2.2 ?_
  refine og_iloadN X0 hx (hb hby d6_32) rfl ?_
  refine og_bipush X0 hx (hb hby d6_33) ?_
  refine og_icN X0 hx (hb hby d6_35) (teq hsl).2 ?_
  refine og_iconst X0 hx (hb hby d6_38) ?_
  exact own_retI X0 hx hret hlk (hb hby d6_39) rfl (by simp) (by decide) (by decide) (⟨rfl, N0, e0⟩)
theorem own_lia_2_1 (l : Launch) (Z : State) (a0 : Array Value) (hw : own_W a0 Z) (b : Addr) (kb : ClassId) (dv : Value) (c0 c1 : Int32) (h0 : Heap) (n0 : Nat)  (hsl : c1 = 47) (Ab : Arv Z h0 b kb .byte 2 [(.int c0.toInt8.toInt32), (.int c1.toInt8.toInt32)] dv) :
    own_Met l Z (⟨"java/lang/StringLatin1", "lastIndexOf", "([BII)I"⟩ : MethodName) jdk_43_method_27_code 4 (some .int) own_r_lia #[(.ref b), (.int 47), (.int 1)] h0 (own_Qv (some (.int (1))) h0 n0) := by
  refine own_body (by decide +kernel) ?_
  intro p e s m below meth c T0 X0 hx hZ hby hml hown hnm hret hlk e0
  have N0 := Fr.nil n0
  refine own_cast (own_frame (L := [rv b, iv 47, iv 1]) (ls := #[rv b, iv 47, iv 1, .unset]) rfl rfl) ?_
  refine og_iloadN X0 hx (hb hby d13_0) rfl ?_
  refine own_callS X0 hx hZ hown (own_hw hw 66 rfl) (own_hw hw 67 rfl) (own_hw hw 64 rfl) (own_hw hw 68 rfl) (by decide) (argsL := [(.int 47)]) (rest := []) (own_ce47 l Z a0 hw h0 n0) e0 (by rw [hml]; rfl) (lenOf own_pd97859 rfl) rfl (hb hby d13_1) (W := 0) (Nat.le_of_eq rfl) (by decide) ?_
  intro v1 T1 L1 X1 q1
  obtain ⟨rfl, N1q, e1⟩ := q1
  have N1 := Fr.app N0 N1q
  show own_Go p e below _ T1 (mkF m 4 #[rv b, iv 47, iv 1, .unset] [(.int 1)])
  refine og_ifY X1 hx 9 (hb hby d13_4) (feq (by decide)).2 (by decide) (by decide) ?_
  refine og_iloadN X1 hx (hb hby d13_9) rfl ?_
  refine og_aloadN X1 hx (hb hby d13_10) rfl rfl ?_
  refine own_len X1 hx hZ e1 Ab (hb hby d13_11) ?_
  show own_Go p e below _ T1 (mkF m 12 #[rv b, iv 47, iv 1, .unset] [(.int 2), (.int 1)])
  refine og_iconst X1 hx (hb hby d13_12) ?_
  refine og_isub X1 hx (hb hby d13_13) ?_
  show own_Go p e below _ T1 (mkF m 14 #[rv b, iv 47, iv 1, .unset] [(.int 1), (.int 1)])
  refine own_callS X1 hx hZ hown (own_hw hw 69 rfl) (own_hw hw 70 rfl) (own_hw hw 71 rfl) (own_hw hw 72 rfl) (by decide) (argsL := [(.int 1), (.int 1)]) (rest := []) (own_min_1_1 l Z a0 hw h0 n0) e1 (by rw [hml]; rfl) (lenOf own_pd23903 rfl) rfl (hb hby d13_14) (W := 0) (Nat.le_of_eq rfl) (by decide) ?_
  intro v2 T2 L2 X2 q2
  obtain ⟨rfl, N2q, e2⟩ := q2
  have N2 := Fr.app N1 N2q
  show own_Go p e below _ T2 (mkF m 17 #[rv b, iv 47, iv 1, .unset] [(.int 1)])
  refine og_istoreN X2 hx #[rv b, iv 47, iv 1, iv 1] (hb hby d13_17) rfl ?_
  refine og_iloadN X2 hx (hb hby d13_18) rfl ?_
  refine og_ifN X2 hx (hb hby d13_19) (flt (by decide)).1 ?_
  refine og_aloadN X2 hx (hb hby d13_22) rfl rfl ?_
  refine og_iloadN X2 hx (hb hby d13_23) rfl ?_
  refine own_ldB X2 hx hZ e2 Ab ⟨by decide, by decide⟩ rfl (hb hby d13_24) ?_
  show own_Go p e below _ T2 (mkF m 25 #[rv b, iv 47, iv 1, iv 1] [(.int c1.toInt8.toInt32)])
  refine og_iloadN X2 hx (hb hby d13_25) rfl ?_
  refine own_go (fun t k => XS.i2b X2.here hx rfl (hb hby d13_26) rfl k) ?_
  show own_Go p e below _ T2 (mkF m 27 #[rv b, iv 47, iv 1, iv 1] [(.int 47), (.int c1.toInt8.toInt32)])
  refine og_icN X2 hx (hb hby d13_27) (teq (by rw [hsl]; rfl)).2 ?_
  refine og_iloadN X2 hx (hb hby d13_30) rfl ?_
  exact own_retI X2 hx hret hlk (hb hby d13_31) rfl (by simp) (by decide) (by decide) (⟨rfl, N2, e2⟩)
theorem d26_0 : decode jdk_65_method_131_code 0 = .ok (.iload_n 1, 1) := by decide +kernel
theorem d26_1 : decode jdk_65_method_131_code 1 = .ok (.iload_n 0, 1) := by decide +kernel
theorem d26_2 : decode jdk_65_method_131_code 2 = .ok (.if_icmp .ge 35, 3) := by decide +kernel
theorem d26_37 : decode jdk_65_method_131_code 37 = .ok (.return_, 1) := by decide +kernel
def own_r_own_ckl_0_1 : Room := { frames := 0, cells := 0, slots := 0, locals := 0 }
theorem own_ckl_0_1 (l : Launch) (Z : State) (a0 : Array Value) (hw : own_W a0 Z)  (h0 : Heap) (n0 : Nat)  :
    own_Met l Z (⟨"java/util/Arrays", "checkLength", "(II)V"⟩ : MethodName) jdk_65_method_131_code 2 none own_r_own_ckl_0_1 #[(.int 0), (.int 1)] h0 (own_Qv none h0 n0) := by
  refine own_body (by decide +kernel) ?_
  intro p e s m below meth c T0 X0 hx hZ hby hml hown hnm hret hlk e0
  have N0 := Fr.nil n0
  refine own_cast (own_frame (L := [iv 0, iv 1]) (ls := #[iv 0, iv 1]) rfl rfl) ?_
  refine og_iloadN X0 hx (hb hby d26_0) rfl ?_
  refine og_iloadN X0 hx (hb hby d26_1) rfl ?_
  refine og_icY X0 hx 37 (hb hby d26_2) (flt (by decide)).2.1 (by decide) (by decide) ?_
  exact own_retV X0 hx hret hlk (hb hby d26_37) (by decide) (by decide) (⟨rfl, N0, e0⟩)
theorem d15_9 : decode jdk_29_method_69_code 9 = .ok (.iload_n 1, 1) := by decide +kernel
def own_r_own_min_2_1 : Room := { frames := 0, cells := 0, slots := 0, locals := 0 }
theorem own_min_2_1 (l : Launch) (Z : State) (a0 : Array Value) (hw : own_W a0 Z)  (h0 : Heap) (n0 : Nat)  :
    own_Met l Z (⟨"java/lang/Math", "min", "(II)I"⟩ : MethodName) jdk_29_method_69_code 2 (some .int) own_r_own_min_2_1 #[(.int 2), (.int 1)] h0 (own_Qv (some (.int (1))) h0 n0) := by
  refine own_body (by decide +kernel) ?_
  intro p e s m below meth c T0 X0 hx hZ hby hml hown hnm hret hlk e0
  have N0 := Fr.nil n0
  refine own_cast (own_frame (L := [iv 2, iv 1]) (ls := #[iv 2, iv 1]) rfl rfl) ?_
  refine og_iloadN X0 hx (hb hby d15_0) rfl ?_
  refine og_iloadN X0 hx (hb hby d15_1) rfl ?_
  refine og_icY X0 hx 9 (hb hby d15_2) (tlt (by decide)).2.2.1 (by decide) (by decide) ?_
  refine og_iloadN X0 hx (hb hby d15_9) rfl ?_
  exact own_retI X0 hx hret hlk (hb hby d15_10) rfl (by simp) (by decide) (by decide) (⟨rfl, N0, e0⟩)
def own_Qr_0_1_2 (Z : State) (h0 : Heap) (n0 : Nat) (v0 v1 : Value) (v : Option Value) (h : Heap) (L : List Loc) : Prop := ∃ (b : Addr) (k : ClassId), v = some (.ref b) ∧ Fr n0 L ∧ Keep h0 h [] ∧ h0.size ≤ b ∧ n0 ≤ b ∧ Arv Z h b k .byte 1 [v0] (.int (0 : Int32))
theorem d25_0 : decode jdk_65_method_133_code 0 = .ok (.iload_n 1, 1) := by decide +kernel
theorem d25_1 : decode jdk_65_method_133_code 1 = .ok (.iload_n 2, 1) := by decide +kernel
theorem d25_2 : decode jdk_65_method_133_code 2 = .ok (.invokestatic 343, 3) := by decide +kernel
theorem d25_5 : decode jdk_65_method_133_code 5 = .ok (.iload_n 2, 1) := by decide +kernel
theorem d25_6 : decode jdk_65_method_133_code 6 = .ok (.iload_n 1, 1) := by decide +kernel
theorem d25_7 : decode jdk_65_method_133_code 7 = .ok (.isub, 1) := by decide +kernel
theorem d25_8 : decode jdk_65_method_133_code 8 = .ok (.istore_n 3, 1) := by decide +kernel
theorem d25_9 : decode jdk_65_method_133_code 9 = .ok (.iload_n 3, 1) := by decide +kernel
theorem d25_10 : decode jdk_65_method_133_code 10 = .ok (.newarray .byte, 2) := by decide +kernel
theorem d25_12 : decode jdk_65_method_133_code 12 = .ok (.astore 4, 2) := by decide +kernel
theorem d25_14 : decode jdk_65_method_133_code 14 = .ok (.aload_n 0, 1) := by decide +kernel
theorem d25_15 : decode jdk_65_method_133_code 15 = .ok (.iload_n 1, 1) := by decide +kernel
theorem d25_16 : decode jdk_65_method_133_code 16 = .ok (.aload 4, 2) := by decide +kernel
theorem d25_18 : decode jdk_65_method_133_code 18 = .ok (.iconst 0, 1) := by decide +kernel
theorem d25_19 : decode jdk_65_method_133_code 19 = .ok (.aload_n 0, 1) := by decide +kernel
theorem d25_20 : decode jdk_65_method_133_code 20 = .ok (.arraylength, 1) := by decide +kernel
theorem d25_21 : decode jdk_65_method_133_code 21 = .ok (.iload_n 1, 1) := by decide +kernel
theorem d25_22 : decode jdk_65_method_133_code 22 = .ok (.isub, 1) := by decide +kernel
theorem d25_23 : decode jdk_65_method_133_code 23 = .ok (.iload_n 3, 1) := by decide +kernel
theorem d25_24 : decode jdk_65_method_133_code 24 = .ok (.invokestatic 304, 3) := by decide +kernel
theorem d25_27 : decode jdk_65_method_133_code 27 = .ok (.invokestatic 150, 3) := by decide +kernel
theorem d25_30 : decode jdk_65_method_133_code 30 = .ok (.aload 4, 2) := by decide +kernel
theorem d25_32 : decode jdk_65_method_133_code 32 = .ok (.areturn, 1) := by decide +kernel
theorem own_pd97226 : parseMethodDescriptor "(II)V" = some ⟨[.int, .int], none⟩ := by decide +kernel
def own_r_own_crb_0_1_2 : Room := { frames := 1, cells := 1, slots := 1, locals := 18 }
theorem own_crb_0_1_2 (l : Launch) (Z : State) (a0 : Array Value) (hw : own_W a0 Z) (b : Addr) (kb : ClassId) (dv : Value) (v0 v1 : Value) (h0 : Heap) (n0 : Nat) (hO : Old Z n0 h0) (Ab : Arv Z h0 b kb .byte 2 [v0, v1] dv) :
    own_Met l Z (⟨"java/util/Arrays", "copyOfRangeByte", "([BII)[B"⟩ : MethodName) jdk_65_method_133_code 5 (some (.array .byte)) own_r_own_crb_0_1_2 #[(.ref b), (.int 0), (.int 1)] h0 (own_Qr_0_1_2 Z h0 n0 v0 v1) := by
  refine own_body (by decide +kernel) ?_
  intro p e s m below meth c T0 X0 hx hZ hby hml hown hnm hret hlk e0
  have N0 := Fr.nil n0
  refine own_cast (own_frame (L := [rv b, iv 0, iv 1]) (ls := #[rv b, iv 0, iv 1, .unset, .unset]) rfl rfl) ?_
  refine og_iloadN X0 hx (hb hby d25_0) rfl ?_
  refine og_iloadN X0 hx (hb hby d25_1) rfl ?_
  refine own_callS X0 hx hZ hown (own_hw hw 113 rfl) (own_hw hw 114 rfl) (own_hw hw 108 rfl) (own_hw hw 115 rfl) (by decide) (argsL := [(.int 0), (.int 1)]) (rest := []) (own_ckl_0_1 l Z a0 hw h0 n0) e0 (by rw [hml]; rfl) (lenOf own_pd97226 rfl) rfl (hb hby d25_2) (W := 0) (Nat.le_of_eq rfl) (by decide) ?_
  intro v1 T1 L1 X1 q1
  obtain ⟨rfl, N1q, e1⟩ := q1
  have N1 := Fr.app N0 N1q
  show own_Go p e below _ T1 (mkF m 5 #[rv b, iv 0, iv 1, .unset, .unset] [])
  refine og_iloadN X1 hx (hb hby d25_5) rfl ?_
  refine og_iloadN X1 hx (hb hby d25_6) rfl ?_
  refine og_isub X1 hx (hb hby d25_7) ?_
  refine og_istoreN X1 hx #[rv b, iv 0, iv 1, iv 1, .unset] (hb hby d25_8) rfl ?_
  refine og_iloadN X1 hx (hb hby d25_9) rfl ?_
  refine own_newP X1 hx hZ (own_hw hw 22 rfl) e1 (hb hby d25_10) (by decide) 1 (by decide) (by decide) (by decide) (by decide) ?_
  intro T2 h2 k2 b2 g2 X2 e2 E2 A2
  have ne_b_b2 : b ≠ b2 := Nat.ne_of_lt (Nat.lt_of_lt_of_eq Ab.lt g2.symm)
  have ge_b2 : n0 ≤ b2 := Nat.le_trans (own_oldle hO) (Nat.le_of_eq g2.symm)
  have sz_b2 : h0.size ≤ b2 := Nat.le_trans (Keep.refl h0 []).1 (Nat.le_of_eq g2.symm)
  have A_b_2 := Ab.ext E2
  have O2 := hO.ext E2
  have K2 := (Keep.refl h0 []).ext E2
  have A_b2_2 : Arv Z h2 b2 k2 .byte 1 [(.int (0 : Int32))] (.int (0 : Int32)) := A2
  show own_Go p e below _ T2 (mkF m 12 #[rv b, iv 0, iv 1, iv 1, .unset] [(.ref b2)])
  refine og_astore X2 hx #[rv b, iv 0, iv 1, iv 1, rv b2] (hb hby d25_12) rfl rfl ?_
  refine og_aloadN X2 hx (hb hby d25_14) rfl rfl ?_
  refine og_iloadN X2 hx (hb hby d25_15) rfl ?_
  refine og_aload X2 hx (hb hby d25_16) rfl rfl ?_
  refine og_iconst X2 hx (hb hby d25_18) ?_
  refine og_aloadN X2 hx (hb hby d25_19) rfl rfl ?_
  refine own_len X2 hx hZ e2 A_b_2 (hb hby d25_20) ?_
  show own_Go p e below _ T2 (mkF m 21 #[rv b, iv 0, iv 1, iv 1, rv b2] [(.int 2), (.int 0), (.ref b2), (.int 0), (.ref b)])
  refine og_iloadN X2 hx (hb hby d25_21) rfl ?_
  refine og_isub X2 hx (hb hby d25_22) ?_
  refine og_iloadN X2 hx (hb hby d25_23) rfl ?_
  refine own_callS X2 hx hZ hown (own_hw hw 116 rfl) (own_hw hw 70 rfl) (own_hw hw 71 rfl) (own_hw hw 72 rfl) (by decide) (argsL := [(.int 2), (.int 1)]) (rest := [(.int 0), (.ref b2), (.int 0), (.ref b)]) (own_min_2_1 l Z a0 hw h2 n0) e2 (by rw [hml]; rfl) (lenOf own_pd23903 rfl) rfl (hb hby d25_24) (W := 4) (Nat.le_of_eq rfl) (by decide) ?_
  intro v3 T3 L3 X3 q3
  obtain ⟨rfl, N3q, e3⟩ := q3
  have N3 := Fr.app N1 N3q
  show own_Go p e below _ T3 (mkF m 27 #[rv b, iv 0, iv 1, iv 1, rv b2] [(.int 1), (.int 0), (.ref b2), (.int 0), (.ref b)])
  obtain ⟨T4, h4, L4, X4, e4, N4, K4q, A4, st4⟩ := cpA X3 hx hZ hown (own_hw hw 117 rfl) (own_hw hw 120 rfl) (own_hw hw 118 rfl) (own_hw hw 119 rfl) e3 A_b_2 A_b2_2 (us := [v0]) (Or.inl ⟨rfl, rfl⟩) (by decide) (by decide) (by decide) (by decide) (by decide) rfl (by decide) N3 ge_b2 (g := (mkF m 27 #[rv b, iv 0, iv 1, iv 1, rv b2] [(.int 1), (.int 0), (.ref b2), (.int 0), (.ref b)])) rfl (by rw [hml]; rfl) rfl (hb hby d25_27) (by decide) (W := 0) (by show 2 * 0 + _ ≤ _; exact Nat.le_of_eq rfl) (by decide)
  refine own_go st4 ?_
  have A_b_4 := A_b_2.keep K4q (ninS ne_b_b2 nin0)
  have O4 := O2.keep K4q (allS ge_b2 all0)
  have K4 := K2.trans K4q (allS (Or.inr sz_b2) all0)
  have A_b2_4 : Arv Z h4 b2 k2 .byte 1 [v0] (.int (0 : Int32)) := A4
  show own_Go p e below _ T4 (mkF m 30 #[rv b, iv 0, iv 1, iv 1, rv b2] [])
  refine og_aload X4 hx (hb hby d25_30) rfl rfl ?_
  exact own_retA X4 hx hret hlk (hb hby d25_32) rfl rfl (by decide) (by decide) (by rw [e4]; exact ⟨b2, _, rfl, N4, K4, sz_b2, ge_b2, A_b2_4⟩)
theorem d24_0 : decode jdk_65_method_132_code 0 = .ok (.iload_n 1, 1) := by decide +kernel
theorem d24_1 : decode jdk_65_method_132_code 1 = .ok (.ifCond .ne 9, 3) := by decide +kernel
theorem d24_4 : decode jdk_65_method_132_code 4 = .ok (.iload_n 2, 1) := by decide +kernel
theorem d24_5 : decode jdk_65_method_132_code 5 = .ok (.aload_n 0, 1) := by decide +kernel
theorem d24_6 : decode jdk_65_method_132_code 6 = .ok (.arraylength, 1) := by decide +kernel
theorem d24_7 : decode jdk_65_method_132_code 7 = .ok (.if_icmp .eq 10, 3) := by decide +kernel
theorem d24_10 : decode jdk_65_method_132_code 10 = .ok (.aload_n 0, 1) := by decide +kernel
theorem d24_11 : decode jdk_65_method_132_code 11 = .ok (.iload_n 1, 1) := by decide +kernel
theorem d24_12 : decode jdk_65_method_132_code 12 = .ok (.iload_n 2, 1) := by decide +kernel
theorem d24_13 : decode jdk_65_method_132_code 13 = .ok (.invokestatic 339, 3) := by decide +kernel
theorem d24_16 : decode jdk_65_method_132_code 16 = .ok (.areturn, 1) := by decide +kernel
theorem own_pd77155 : parseMethodDescriptor "([BII)[B" = some ⟨[(.array .byte), .int, .int], some (.array .byte)⟩ := by decide +kernel
def own_r_own_cr_0_1_2 : Room := { frames := 2, cells := 1, slots := 1, locals := 34 }
theorem own_cr_0_1_2 (l : Launch) (Z : State) (a0 : Array Value) (hw : own_W a0 Z) (b : Addr) (kb : ClassId) (dv : Value) (v0 v1 : Value) (h0 : Heap) (n0 : Nat) (hO : Old Z n0 h0) (Ab : Arv Z h0 b kb .byte 2 [v0, v1] dv) :
    own_Met l Z (⟨"java/util/Arrays", "copyOfRange", "([BII)[B"⟩ : MethodName) jdk_65_method_132_code 3 (some (.array .byte)) own_r_own_cr_0_1_2 #[(.ref b), (.int 0), (.int 1)] h0 (own_Qr_0_1_2 Z h0 n0 v0 v1) := by
  refine own_body (by decide +kernel) ?_
  intro p e s m below meth c T0 X0 hx hZ hby hml hown hnm hret hlk e0
  have N0 := Fr.nil n0
  refine own_cast (own_frame (L := [rv b, iv 0, iv 1]) (ls := #[rv b, iv 0, iv 1]) rfl rfl) ?_
  refine og_iloadN X0 hx (hb hby d24_0) rfl ?_
  refine og_ifN X0 hx (hb hby d24_1) (teq rfl).2 ?_
  refine og_iloadN X0 hx (hb hby d24_4) rfl ?_
  refine og_aloadN X0 hx (hb hby d24_5) rfl rfl ?_
  refine own_len X0 hx hZ e0 Ab (hb hby d24_6) ?_
  show own_Go p e below _ T0 (mkF m 7 #[rv b, iv 0, iv 1] [(.int 2), (.int 1)])
  refine og_icN X0 hx (hb hby d24_7) (feq (by decide)).1 ?_
  refine og_aloadN X0 hx (hb hby d24_10) rfl rfl ?_
  refine og_iloadN X0 hx (hb hby d24_11) rfl ?_
  refine og_iloadN X0 hx (hb hby d24_12) rfl ?_
  refine own_callS X0 hx hZ hown (own_hw hw 110 rfl) (own_hw hw 111 rfl) (own_hw hw 108 rfl) (own_hw hw 112 rfl) (by decide) (argsL := [(.ref b), (.int 0), (.int 1)]) (rest := []) (own_crb_0_1_2 l Z a0 hw b _ _ v0 v1 h0 n0 hO Ab) e0 (by rw [hml]; rfl) (lenOf own_pd77155 rfl) rfl (hb hby d24_13) (W := 0) (Nat.le_of_eq rfl) (by decide) ?_
  intro v1 T1 L1 X1 q1
  obtain ⟨b1, k1, rfl, N1q, K1q, z1q, g1q, A1q⟩ := q1
  have N1 := Fr.app N0 N1q
  have ne_b_b1 : b ≠ b1 := Nat.ne_of_lt (Nat.lt_of_lt_of_le Ab.lt z1q)
  have sz_b1 : h0.size ≤ b1 := Nat.le_trans (Keep.refl h0 []).1 z1q
  have A_b_1 := Ab.keep K1q nin0
  have O1 := hO.keep K1q all0
  have K1 := (Keep.refl h0 []).trans K1q all0
  show own_Go p e below _ T1 (mkF m 16 #[rv b, iv 0, iv 1] [(.ref b1)])
  exact own_retA X1 hx hret hlk (hb hby d24_16) rfl rfl (by decide) (by decide) (⟨b1, _, rfl, N1, K1, sz_b1, g1q, A1q⟩)
def own_Qi (Z : State) (a1 a2 : Addr) (h0 : Heap) (n0 : Nat) (v : Option Value) (h : Heap) (L : List Loc) : Prop := v = none ∧ Fr n0 L ∧ Keep h0 h [a1] ∧ Fld Z h a1 "java/lang/String" "value" "[B" (.ref a2) ∧ Fld Z h a1 "java/lang/String" "coder" "B" (.int (0 : Int32))
theorem d27_0 : decode jdk_42_method_151_code 0 = .ok (.aload_n 0, 1) := by decide +kernel
theorem d27_1 : decode jdk_42_method_151_code 1 = .ok (.invokespecial 1, 3) := by decide +kernel
theorem d27_4 : decode jdk_42_method_151_code 4 = .ok (.aload_n 0, 1) := by decide +kernel
theorem d27_5 : decode jdk_42_method_151_code 5 = .ok (.aload_n 1, 1) := by decide +kernel
theorem d27_6 : decode jdk_42_method_151_code 6 = .ok (.putfield 9, 3) := by decide +kernel
theorem d27_9 : decode jdk_42_method_151_code 9 = .ok (.aload_n 0, 1) := by decide +kernel
theorem d27_10 : decode jdk_42_method_151_code 10 = .ok (.iload_n 2, 1) := by decide +kernel
theorem d27_11 : decode jdk_42_method_151_code 11 = .ok (.putfield 15, 3) := by decide +kernel
theorem d27_14 : decode jdk_42_method_151_code 14 = .ok (.return_, 1) := by decide +kernel
def own_r_own_si : Room := { frames := 1, cells := 0, slots := 0, locals := 12 }
theorem own_si (l : Launch) (Z : State) (a0 : Array Value) (hw : own_W a0 Z) (a1 a2 : Addr) (u1 u2 : Value) (h0 : Heap) (n0 : Nat) (hO : Old Z n0 h0) (g1 : n0 ≤ a1) (E1 : Exa Z h0 a1 "java/lang/String") (F1 : Fld Z h0 a1 "java/lang/String" "value" "[B" u1) (F2 : Fld Z h0 a1 "java/lang/String" "coder" "B" u2) :
    own_Met l Z (⟨"java/lang/String", "<init>", "([BB)V"⟩ : MethodName) jdk_42_method_151_code 3 none own_r_own_si #[(.ref a1), (.ref a2), (.int (0 : Int32))] h0 (own_Qi Z a1 a2 h0 n0) := by
  refine own_body (by decide +kernel) ?_
  intro p e s m below meth c T0 X0 hx hZ hby hml hown hnm hret hlk e0
  have N0 := Fr.nil n0
  refine own_cast (own_frame (L := [rv a1, rv a2, iv (0 : Int32)]) (ls := #[rv a1, rv a2, iv (0 : Int32)]) rfl rfl) ?_
  refine og_aloadN X0 hx (hb hby d27_0) rfl rfl ?_
  obtain ⟨T1, X1, e1, st1⟩ := initO X0 hx hZ hown (own_hw hw 18 rfl) (own_hw hw 19 rfl) (own_hw hw 20 rfl) e0 (g := (mkF m 1 #[rv a1, rv a2, iv (0 : Int32)] [(.ref a1)])) rfl (by rw [hml]; rfl) rfl (hb hby d27_1) (by decide) (W := 0) (by show 2 * 0 + _ ≤ _; exact Nat.le_of_eq rfl) (by decide)
  refine own_go st1 ?_
  show own_Go p e below _ T1 (mkF m 4 #[rv a1, rv a2, iv (0 : Int32)] [])
  refine og_aloadN X1 hx (hb hby d27_4) rfl rfl ?_
  refine og_aloadN X1 hx (hb hby d27_5) rfl rfl ?_
  obtain ⟨T2, h2, X2, e2, W2, st2⟩ := putF X1 hx hZ hown (host := "") (Or.inl (own_hw hw 27 rfl)) Via.refl e1 F1 E1 (Or.inr ⟨(own_hw hw 23 rfl), rfl, hnm⟩) (own_hw hw 8 rfl) (ty := (.array .byte)) (by decide) rfl rfl (g := (mkF m 6 #[rv a1, rv a2, iv (0 : Int32)] [(.ref a2), (.ref a1)])) rfl rfl (hb hby d27_6)
  refine own_go st2 ?_
  have E_a1_2 := E1.wr W2
  have F_a1_coder_2 := F2.other W2 (Or.inr (slot_ne (Or.inr (own_hw hw 24 rfl)) (Or.inr (own_hw hw 23 rfl)) (by decide) (t := .byte) (t' := (.array .byte)) (by decide) (by decide)))
  have O2 := hO.wr W2 g1
  have K2 := (Keep.refl h0 [a1]).wr W2 (Or.inl (by simp))
  have N2 := Fr.snoc X2 N0 g1
  have F_a1_value_2 : Fld Z h2 a1 "java/lang/String" "value" "[B" (.ref a2) := F1.same W2
  show own_Go p e below _ T2 (mkF m 9 #[rv a1, rv a2, iv (0 : Int32)] [])
  refine og_aloadN X2 hx (hb hby d27_9) rfl rfl ?_
  refine og_iloadN X2 hx (hb hby d27_10) rfl ?_
  obtain ⟨T3, h3, X3, e3, W3, st3⟩ := putFN X2 hx hZ hown (own_hw hw 28 rfl) Via.refl e2 F_a1_coder_2 E_a1_2 (Or.inr ⟨(own_hw hw 24 rfl), rfl, hnm⟩) (own_hw hw 8 rfl) (ty := .byte) (v' := (.int (0 : Int32))) (by decide) rfl (by decide) (g := (mkF m 11 #[rv a1, rv a2, iv (0 : Int32)] [(.int (0 : Int32)), (.ref a1)])) rfl rfl (hb hby d27_11)
  refine own_go st3 ?_
  have E_a1_3 := E_a1_2.wr W3
  have F_a1_value_3 := F_a1_value_2.other W3 (Or.inr (slot_ne (Or.inr (own_hw hw 23 rfl)) (Or.inr (own_hw hw 24 rfl)) (by decide) (t := (.array .byte)) (t' := .byte) (by decide) (by decide)))
  have O3 := O2.wr W3 g1
  have K3 := K2.wr W3 (Or.inl (by simp))
  have N3 := Fr.snoc X3 N2 g1
  have F_a1_coder_3 : Fld Z h3 a1 "java/lang/String" "coder" "B" (.int (0 : Int32)) := F_a1_coder_2.same W3
  show own_Go p e below _ T3 (mkF m 14 #[rv a1, rv a2, iv (0 : Int32)] [])
  exact own_retV X3 hx hret hlk (hb hby d27_14) (by decide) (by decide) (by rw [e3]; exact ⟨rfl, N3, K3, F_a1_value_3, F_a1_coder_3⟩)
theorem d23_7 : decode jdk_43_method_47_code 7 = .ok (.new 1, 3) := by decide +kernel
theorem d23_10 : decode jdk_43_method_47_code 10 = .ok (.dup, 1) := by decide +kernel
theorem d23_11 : decode jdk_43_method_47_code 11 = .ok (.aload_n 0, 1) := by decide +kernel
theorem d23_12 : decode jdk_43_method_47_code 12 = .ok (.iload_n 1, 1) := by decide +kernel
theorem d23_13 : decode jdk_43_method_47_code 13 = .ok (.iload_n 1, 1) := by decide +kernel
theorem d23_14 : decode jdk_43_method_47_code 14 = .ok (.iload_n 2, 1) := by decide +kernel
theorem d23_15 : decode jdk_43_method_47_code 15 = .ok (.iadd, 1) := by decide +kernel
theorem d23_16 : decode jdk_43_method_47_code 16 = .ok (.invokestatic 232, 3) := by decide +kernel
theorem d23_19 : decode jdk_43_method_47_code 19 = .ok (.iconst 0, 1) := by decide +kernel
theorem d23_20 : decode jdk_43_method_47_code 20 = .ok (.invokespecial 112, 3) := by decide +kernel
theorem d23_23 : decode jdk_43_method_47_code 23 = .ok (.areturn, 1) := by decide +kernel
theorem own_pd58512 : parseMethodDescriptor "([BB)V" = some ⟨[(.array .byte), .byte], none⟩ := by decide +kernel
def own_r_own_ns_0_1_2 : Room := { frames := 3, cells := 2, slots := 5, locals := 50 }
theorem own_ns_0_1_2 (l : Launch) (Z : State) (a0 : Array Value) (hw : own_W a0 Z) (b : Addr) (kb : ClassId) (dv : Value) (v0 v1 : Value) (h0 : Heap) (n0 : Nat) (hO : Old Z n0 h0) (Ab : Arv Z h0 b kb .byte 2 [v0, v1] dv) :
    own_Met l Z (⟨"java/lang/StringLatin1", "newString", "([BII)Ljava/lang/String;"⟩ : MethodName) jdk_43_method_47_code 3 (some (.object "java/lang/String")) own_r_own_ns_0_1_2 #[(.ref b), (.int 0), (.int 1)] h0 (own_Qs1 Z h0 n0 v0) := by
  refine own_body (by decide +kernel) ?_
  intro p e s m below meth c T0 X0 hx hZ hby hml hown hnm hret hlk e0
  have N0 := Fr.nil n0
  refine own_cast (own_frame (L := [rv b, iv 0, iv 1]) (ls := #[rv b, iv 0, iv 1]) rfl rfl) ?_
  refine og_iloadN X0 hx (hb hby d23_0) rfl ?_
  refine og_ifY X0 hx 7 (hb hby d23_1) (feq (by decide)).2 (by decide) (by decide) ?_
  refine own_newO X0 hx hZ hown (own_hw hw 105 rfl) (own_hw hw 8 rfl) (own_hw hw 9 rfl) e0 (hb hby d23_7) (by decide) (by decide) ?_
  intro T1 h1 b1 g1 X1 e1 E1 A1 D1
  have ne_b_b1 : b ≠ b1 := Nat.ne_of_lt (Nat.lt_of_lt_of_eq Ab.lt g1.symm)
  have ge_b1 : n0 ≤ b1 := Nat.le_trans (own_oldle hO) (Nat.le_of_eq g1.symm)
  have sz_b1 : h0.size ≤ b1 := Nat.le_trans (Keep.refl h0 []).1 (Nat.le_of_eq g1.symm)
  have A_b_1 := Ab.ext E1
  have O1 := hO.ext E1
  have K1 := (Keep.refl h0 []).ext E1
  have F_b1_value_1 : Fld Z h1 b1 "java/lang/String" "value" "[B" .null := D1 (Or.inr (own_hw hw 23 rfl)) (ty := (.array .byte)) (by decide)
  have F_b1_coder_1 : Fld Z h1 b1 "java/lang/String" "coder" "B" (.int 0) := D1 (Or.inr (own_hw hw 24 rfl)) (ty := .byte) (by decide)
  show own_Go p e below _ T1 (mkF m 10 #[rv b, iv 0, iv 1] [(.ref b1)])
  refine og_dup X1 hx (hb hby d23_10) rfl ?_
  refine og_aloadN X1 hx (hb hby d23_11) rfl rfl ?_
  refine og_iloadN X1 hx (hb hby d23_12) rfl ?_
  refine og_iloadN X1 hx (hb hby d23_13) rfl ?_
  refine og_iloadN X1 hx (hb hby d23_14) rfl ?_
  refine og_iadd X1 hx (hb hby d23_15) ?_
  show own_Go p e below _ T1 (mkF m 16 #[rv b, iv 0, iv 1] [(.int 1), (.int 0), (.ref b), (.ref b1), (.ref b1)])
  refine own_callS X1 hx hZ hown (own_hw hw 106 rfl) (own_hw hw 107 rfl) (own_hw hw 108 rfl) (own_hw hw 109 rfl) (by decide) (argsL := [(.ref b), (.int 0), (.int 1)]) (rest := [(.ref b1), (.ref b1)]) (own_cr_0_1_2 l Z a0 hw b _ _ v0 v1 h1 n0 O1 A_b_1) e1 (by rw [hml]; rfl) (lenOf own_pd77155 rfl) rfl (hb hby d23_16) (W := 2) (Nat.le_of_eq rfl) (by decide) ?_
  intro v2 T2 L2 X2 q2
  obtain ⟨b2, k2, rfl, N2q, K2q, z2q, g2q, A2q⟩ := q2
  have N2 := Fr.app N0 N2q
  have ne_b_b2 : b ≠ b2 := Nat.ne_of_lt (Nat.lt_of_lt_of_le A_b_1.lt z2q)
  have ne_b1_b2 : b1 ≠ b2 := Nat.ne_of_lt (Nat.lt_of_lt_of_le A1.lt z2q)
  have sz_b2 : h0.size ≤ b2 := Nat.le_trans K1.1 z2q
  have A_b_2 := A_b_1.keep K2q nin0
  have E_b1_2 := A1.keep K2q
  have F_b1_value_2 := F_b1_value_1.keep K2q nin0
  have F_b1_coder_2 := F_b1_coder_1.keep K2q nin0
  have O2 := O1.keep K2q all0
  have K2 := K1.trans K2q all0
  show own_Go p e below _ T2 (mkF m 19 #[rv b, iv 0, iv 1] [(.ref b2), (.ref b1), (.ref b1)])
  refine og_iconst X2 hx (hb hby d23_19) ?_
  refine own_callN X2 hx hZ hown (own_hw hw 121 rfl) (own_hw hw 122 rfl) (own_hw hw 123 rfl) (own_hw hw 9 rfl) (by decide) rfl (b := b1) (argsL := [(.ref b2), (.int 0)]) (rest := [(.ref b1)]) (own_si l Z a0 hw b1 b2 _ _ T2.heap n0 O2 ge_b1 E_b1_2 F_b1_value_2 F_b1_coder_2) rfl (by rw [hml]; rfl) (lenOf own_pd58512 rfl) rfl (hb hby d23_20) (W := 1) (Nat.le_of_eq rfl) (by decide) ?_
  intro v3 T3 L3 X3 q3
  obtain ⟨rfl, N3q, K3q, Fv3, Fc3⟩ := q3
  have N3 := Fr.app N2 N3q
  have A_b_3 := A_b_2.keep K3q (ninS ne_b_b1 nin0)
  have E_b1_3 := E_b1_2.keep K3q
  have A_b2_3 := A2q.keep K3q (ninS (Ne.symm ne_b1_b2) nin0)
  have O3 := O2.keep K3q (allS ge_b1 all0)
  have K3 := K2.trans K3q (allS (Or.inr sz_b1) all0)
  show own_Go p e below _ T3 (mkF m 23 #[rv b, iv 0, iv 1] [(.ref b1)])
  exact own_retA X3 hx hret hlk (hb hby d23_23) rfl rfl (by decide) (by decide) (⟨b1, b2, _, rfl, N3, K3, sz_b1, ge_b1, sz_b2, g2q, ne_b1_b2, E_b1_3, Fv3, Fc3, A_b2_3⟩)
def own_r_own_subNz1 : Room := { frames := 4, cells := 2, slots := 5, locals := 64 }
theorem own_subNz1 (l : Launch) (Z : State) (a0 : Array Value) (hw : own_W a0 Z) (z : Int32) (sf : Value) (t b : Addr) (kb : ClassId) (dv : Value) (n : Int32) (vs : List Value) (hi : Int32) (w0 : Value) (h0 : Heap) (n0 : Nat) (hO : Old Z n0 h0) (hG : own_Gs Z z sf) (h2 : ¬ hi < 0) (h3 : ¬ n < hi) (hx0 : ¬ hi = n) (inn : own_Met l Z (⟨"java/lang/StringLatin1", "newString", "([BII)Ljava/lang/String;"⟩ : MethodName) jdk_43_method_47_code 3 (some (.object "java/lang/String")) own_r_own_ns_0_1_2 #[.ref b, .int 0, .int (hi - 0)] h0 (own_Qs1 Z h0 n0 w0)) (Et : own_E Z h0 t) (Fv : own_V Z h0 t b) (Fc : own_C Z h0 t) (Ab : Arv Z h0 b kb .byte n vs dv) :
    own_Met l Z (⟨"java/lang/String", "substring", "(II)Ljava/lang/String;"⟩ : MethodName) jdk_42_method_92_code 5 (some (.object "java/lang/String")) own_r_own_subNz1 #[(.ref t), (.int 0), (.int hi)] h0 (own_Qs1 Z h0 n0 w0) := by
  refine own_body (by decide +kernel) ?_
  intro p e s m below meth c T0 X0 hx hZ hby hml hown hnm hret hlk e0
  have N0 := Fr.nil n0
  refine own_cast (own_frame (L := [rv t, iv 0, iv hi]) (ls := #[rv t, iv 0, iv hi, .unset, .unset]) rfl rfl) ?_
  obtain ⟨SC, hz, SF, rf⟩ := id hG
  refine og_aloadN X0 hx (hb hby d20_0) rfl rfl ?_
  refine own_callV X0 hx hZ hown (own_hw hw 41 rfl) (own_hw hw 42 rfl) (notFace_of_selects (args := #[]) (mvT hZ (own_hw hw 44 rfl))) (own_hw hw 44 rfl) (own_hw hw 43 rfl) (own_hw hw 45 rfl) (own_hw hw 9 rfl) (by decide) (b := t) (argsL := []) (rest := []) (own_slen l Z a0 hw z sf t b _ _ _ _ h0 n0 hO hG Et Fv Fc Ab) e0 Et (by rw [hml]; rfl) (lenOf own_pd13941 rfl) rfl (hb hby d20_1) (W := 0) (Nat.le_of_eq rfl) (by decide) ?_
  intro v1 T1 L1 X1 q1
  obtain ⟨rfl, N1q, e1⟩ := q1
  have N1 := Fr.app N0 N1q
  show own_Go p e below _ T1 (mkF m 4 #[rv t, iv 0, iv hi, .unset, .unset] [(.int n)])
  refine og_istoreN X1 hx #[rv t, iv 0, iv hi, iv n, .unset] (hb hby d20_4) rfl ?_
  refine og_iloadN X1 hx (hb hby d20_5) rfl ?_
  refine og_iloadN X1 hx (hb hby d20_6) rfl ?_
  refine og_iloadN X1 hx (hb hby d20_7) rfl ?_
  refine own_callS X1 hx hZ hown (own_hw hw 94 rfl) (own_hw hw 95 rfl) (own_hw hw 9 rfl) (own_hw hw 96 rfl) (by decide) (argsL := [(.int 0), (.int hi), (.int n)]) (rest := []) (own_cbb l Z a0 hw z sf 0 hi n h0 n0 hO hG (by decide) h2 h3) e1 (by rw [hml]; rfl) (lenOf own_pd73746 rfl) rfl (hb hby d20_8) (W := 0) (Nat.le_of_eq rfl) (by decide) ?_
  intro v2 T2 L2 X2 q2
  obtain ⟨rfl, N2q, e2⟩ := q2
  have N2 := Fr.app N1 N2q
  show own_Go p e below _ T2 (mkF m 11 #[rv t, iv 0, iv hi, iv n, .unset] [])
  refine og_iloadN X2 hx (hb hby d20_11) rfl ?_
  refine og_ifN X2 hx (hb hby d20_12) (teq rfl).2 ?_
  refine og_iloadN X2 hx (hb hby d20_15) rfl ?_
  refine og_iloadN X2 hx (hb hby d20_16) rfl ?_
  refine og_icY X2 hx 22 (hb hby d20_17) (feq hx0).2 (by decide) (by decide) ?_
  refine og_iloadN X2 hx (hb hby d20_22) rfl ?_
  refine og_iloadN X2 hx (hb hby d20_23) rfl ?_
  refine og_isub X2 hx (hb hby d20_24) ?_
  refine og_istore X2 hx #[rv t, iv 0, iv hi, iv n, iv (hi - 0)] (hb hby d20_25) rfl ?_
  refine og_aloadN X2 hx (hb hby d20_27) rfl rfl ?_
  refine own_callV X2 hx hZ hown (own_hw hw 57 rfl) (own_hw hw 58 rfl) (notFace_of_selects (args := #[]) (mvT hZ (own_hw hw 60 rfl))) (own_hw hw 60 rfl) (own_hw hw 59 rfl) (own_hw hw 61 rfl) (own_hw hw 9 rfl) (by decide) (b := t) (argsL := []) (rest := []) (own_isl1 l Z a0 hw z sf t h0 n0 hO hG Fc) e2 Et (by rw [hml]; rfl) (lenOf own_pd61835 rfl) rfl (hb hby d20_28) (W := 0) (Nat.le_of_eq rfl) (by decide) ?_
  intro v3 T3 L3 X3 q3
  obtain ⟨rfl, N3q, e3⟩ := q3
  have N3 := Fr.app N2 N3q
  show own_Go p e below _ T3 (mkF m 31 #[rv t, iv 0, iv hi, iv n, iv (hi - 0)] [(.int (1 : Int32))])
  refine og_ifN X3 hx (hb hby d20_31) (feq (by decide)).1 ?_
  refine og_aloadN X3 hx (hb hby d20_34) rfl rfl ?_
  refine og_getF X3 hx hZ hown (own_hw hw 27 rfl) Via.refl e3 Fv (hb hby d20_35) ?_
  intro T4 X4 e4
  refine og_iloadN X4 hx (hb hby d20_38) rfl ?_
  refine og_iload X4 hx (hb hby d20_39) rfl ?_
  refine own_callS X4 hx hZ hown (own_hw hw 102 rfl) (own_hw hw 103 rfl) (own_hw hw 64 rfl) (own_hw hw 104 rfl) (by decide) (argsL := [(.ref b), (.int 0), (.int (hi - 0))]) (rest := []) inn e4 (by rw [hml]; rfl) (lenOf own_pd78060 rfl) rfl (hb hby d20_41) (W := 0) (Nat.le_of_eq rfl) (by decide) ?_
  intro v5 T5 L5 X5 q5
  obtain ⟨t5, vb5, k5, rfl, N5q, K5q, zt5, gt5, zb5, gb5, ne_t5_vb5, Et5, Ft5, Ct5, At5⟩ := q5
  have N5 := Fr.app N3 N5q
  have ne_b_t5 : b ≠ t5 := Nat.ne_of_lt (Nat.lt_of_lt_of_le Ab.lt zt5)
  have ne_t_t5 : t ≠ t5 := Nat.ne_of_lt (Nat.lt_of_lt_of_le Et.lt zt5)
  have sz_t5 : h0.size ≤ t5 := Nat.le_trans (Keep.refl h0 []).1 zt5
  have ne_b_vb5 : b ≠ vb5 := Nat.ne_of_lt (Nat.lt_of_lt_of_le Ab.lt zb5)
  have ne_t_vb5 : t ≠ vb5 := Nat.ne_of_lt (Nat.lt_of_lt_of_le Et.lt zb5)
  have sz_vb5 : h0.size ≤ vb5 := Nat.le_trans (Keep.refl h0 []).1 zb5
  have E_t_5 := Et.keep K5q
  have F_t_value_5 := Fv.keep K5q nin0
  have F_t_coder_5 := Fc.keep K5q nin0
  have A_b_5 := Ab.keep K5q nin0
  have O5 := hO.keep K5q all0
  have K5 := (Keep.refl h0 []).trans K5q all0
  show own_Go p e below _ T5 (mkF m 44 #[rv t, iv 0, iv hi, iv n, iv (hi - 0)] [(.ref t5)])
  refine og_goto X5 hx 57 (hb hby d20_44) (by decide) (by decide) ?_
  exact own_retA X5 hx hret hlk (hb hby d20_57) rfl rfl (by decide) (by decide) (⟨t5, vb5, _, rfl, N5, K5, sz_t5, gt5, sz_vb5, gb5, ne_t5_vb5, Et5, Ft5, Ct5, At5⟩)
def own_r_own_po_2_1 : Room := { frames := 5, cells := 2, slots := 5, locals := 80 }
theorem own_po_2_1 (l : Launch) (Z : State) (a0 : Array Value) (hw : own_W a0 Z) (z : Int32) (sf : Value) (t b : Addr) (kb : ClassId) (dv : Value) (c0 c1 : Int32) (h0 : Heap) (n0 : Nat) (hO : Old Z n0 h0) (hG : own_Gs Z z sf)  (hsl : c1 = 47) (Et : own_E Z h0 t) (Fv : own_V Z h0 t b) (Fc : own_C Z h0 t) (Ab : Arv Z h0 b kb .byte 2 [(.int c0.toInt8.toInt32), (.int c1.toInt8.toInt32)] dv) :
    own_Met l Z (⟨"com/example/svazek/svazek/PackageFolder", "placeOf", "(Ljava/lang/String;)Ljava/lang/String;"⟩ : MethodName) prog_41_method_7_code 2 (some (.object "java/lang/String")) own_r_own_po_2_1 #[(.ref t)] h0 (own_Qs1 Z h0 n0 (.int c0.toInt8.toInt32)) := by
  refine own_body (by decide +kernel) ?_
  intro p e s m below meth c T0 X0 hx hZ hby hml hown hnm hret hlk e0
  have N0 := Fr.nil n0
  refine own_cast (own_frame (L := [rv t]) (ls := #[rv t, .unset]) rfl rfl) ?_
  obtain ⟨SC, hz, SF, rf⟩ := id hG
  refine og_aloadN X0 hx (hb hby d7_0) rfl rfl ?_
  refine og_bipush X0 hx (hb hby d7_1) ?_
  refine own_callV X0 hx hZ hown (own_hw hw 36 rfl) (own_hw hw 37 rfl) (notFace_of_selects (args := #[]) (mvT hZ (own_hw hw 39 rfl))) (own_hw hw 39 rfl) (own_hw hw 38 rfl) (own_hw hw 40 rfl) (own_hw hw 9 rfl) (by decide) (b := t) (argsL := [(.int 47)]) (rest := []) (own_lic_2 l Z a0 hw z sf t b _ _ c0 c1 (1) h0 n0 hO hG (own_lia_2_1 l Z a0 hw b _ _ c0 c1 h0 n0 hsl Ab) Et Fv Fc Ab) e0 Et (by rw [hml]; rfl) (lenOf own_pd49053 rfl) rfl (hb hby d7_3) (W := 0) (Nat.le_of_eq rfl) (by decide) ?_
  intro v1 T1 L1 X1 q1
  obtain ⟨rfl, N1q, e1⟩ := q1
  have N1 := Fr.app N0 N1q
  show own_Go p e below _ T1 (mkF m 6 #[rv t, .unset] [(.int 1)])
  refine og_istoreN X1 hx #[rv t, iv 1] (hb hby d7_6) rfl ?_
  refine og_iloadN X1 hx (hb hby d7_7) rfl ?_
  refine og_ifY X1 hx 16 (hb hby d7_8) (flt (by decide)).2.1 (by decide) (by decide) ?_
  refine og_aloadN X1 hx (hb hby d7_16) rfl rfl ?_
  refine og_iconst X1 hx (hb hby d7_17) ?_
  refine og_iloadN X1 hx (hb hby d7_18) rfl ?_
  refine own_callV X1 hx hZ hown (own_hw hw 89 rfl) (own_hw hw 90 rfl) (notFace_of_selects (args := #[]) (mvT hZ (own_hw hw 92 rfl))) (own_hw hw 92 rfl) (own_hw hw 91 rfl) (own_hw hw 93 rfl) (own_hw hw 9 rfl) (by decide) (b := t) (argsL := [(.int 0), (.int 1)]) (rest := []) (own_subNz1 l Z a0 hw z sf t b _ _ _ _ 1 (.int c0.toInt8.toInt32) h0 n0 hO hG (by decide) (by decide) (by decide) (own_ns_0_1_2 l Z a0 hw b _ _ (.int c0.toInt8.toInt32) (.int c1.toInt8.toInt32) h0 n0 hO Ab) Et Fv Fc Ab) e1 Et (by rw [hml]; rfl) (lenOf own_pd41291 rfl) rfl (hb hby d7_19) (W := 0) (Nat.le_of_eq rfl) (by decide) ?_
  intro v2 T2 L2 X2 q2
  obtain ⟨t2, vb2, k2, rfl, N2q, K2q, zt2, gt2, zb2, gb2, ne_t2_vb2, Et2, Ft2, Ct2, At2⟩ := q2
  have N2 := Fr.app N1 N2q
  have ne_b_t2 : b ≠ t2 := Nat.ne_of_lt (Nat.lt_of_lt_of_le Ab.lt zt2)
  have ne_t_t2 : t ≠ t2 := Nat.ne_of_lt (Nat.lt_of_lt_of_le Et.lt zt2)
  have sz_t2 : h0.size ≤ t2 := Nat.le_trans (Keep.refl h0 []).1 zt2
  have ne_b_vb2 : b ≠ vb2 := Nat.ne_of_lt (Nat.lt_of_lt_of_le Ab.lt zb2)
  have ne_t_vb2 : t ≠ vb2 := Nat.ne_of_lt (Nat.lt_of_lt_of_le Et.lt zb2)
  have sz_vb2 : h0.size ≤ vb2 := Nat.le_trans (Keep.refl h0 []).1 zb2
  have E_t_2 := Et.keep K2q
  have F_t_value_2 := Fv.keep K2q nin0
  have F_t_coder_2 := Fc.keep K2q nin0
  have A_b_2 := Ab.keep K2q nin0
  have O2 := hO.keep K2q all0
  have K2 := (Keep.refl h0 []).trans K2q all0
  show own_Go p e below _ T2 (mkF m 22 #[rv t, iv 1] [(.ref t2)])
  exact own_retA X2 hx hret hlk (hb hby d7_22) rfl rfl (by decide) (by decide) (⟨t2, vb2, _, rfl, N2, K2, sz_t2, gt2, sz_vb2, gb2, ne_t2_vb2, Et2, Ft2, Ct2, At2⟩)
theorem d6_19 : decode method_5_code 19 = .ok (.iload_n 3, 1) := by decide +kernel
theorem d6_20 : decode method_5_code 20 = .ok (.bipush 47, 2) := by decide +kernel
theorem d6_22 : decode method_5_code 22 = .ok (.if_icmp .ne 5, 3) := by decide +kernel
def own_r_own_ls_3_m1 : Room := { frames := 0, cells := 0, slots := 0, locals := 0 }
theorem own_ls_3_m1 (l : Launch) (Z : State) (a0 : Array Value) (hw : own_W a0 Z) (c0 c1 c2 c3 : Int32) (h0 : Heap) (n0 : Nat) (m0 : ¬ c0 = 47) (m1 : ¬ c1 = 47) (m2 : ¬ c2 = 47) :
    own_Met l Z (⟨"com/example/svazek/svazek/PackageFolderPlaceOfPinLaw", "lastSlash", "(ICCCC)I"⟩ : MethodName) method_5_code 5 (some .int) own_r_own_ls_3_m1 #[(.int 3), (.int c0), (.int c1), (.int c2), (.int c3)] h0 (own_Qv (some (.int (-1))) h0 n0) := by
  refine own_body (by decide +kernel) ?_
  intro p e s m below meth c T0 X0 hx hZ hby hml hown hnm hret hlk e0
  have N0 := Fr.nil n0
  refine own_cast (own_frame (L := [iv 3, iv c0, iv c1, iv c2, iv c3]) (ls := #[iv 3, iv c0, iv c1, iv c2, iv c3]) rfl rfl) ?_
  refine og_iloadN X0 hx (hb hby d6_0) rfl ?_
  refine og_iconst X0 hx (hb hby d6_1) ?_
  refine og_icY X0 hx 14 (hb hby d6_2) (flt (by decide)).2.2.2 (by decide) (by decide) ?_
  refine og_iloadN X0 hx (hb hby d6_14) rfl ?_
  refine og_iconst X0 hx (hb hby d6_15) ?_
  refine og_icN X0 hx (hb hby d6_16) (tlt (by decide)).2.2.2 ?_
  refine og_iloadN X0 hx (hb hby d6_19) rfl ?_
  refine og_bipush X0 hx (hb hby d6_20) ?_
  refine og_icY X0 hx 27 (hb hby d6_22) (feq m2).2 (by decide) (by decide) ?_
  refine og_iloadN X0 hx (hb hby d6_27) rfl ?_
  refine og_iconst X0 hx (hb hby d6_28) ?_
  refine og_icN X0 hx (hb hby d6_29) (tlt (by decide)).2.2.2 ?_
  refine og_iloadN X0 hx (hb hby d6_32) rfl ?_
  refine og_bipush X0 hx (hb hby d6_33) ?_
  refine og_icY X0 hx 40 (hb hby d6_35) (feq m1).2 (by decide) (by decide) ?_
  refine og_iloadN X0 hx (hb hby d6_40) rfl ?_
  refine og_ifN X0 hx (hb hby d6_41) (tlt (by decide)).2.2.2 ?_
  refine og_iloadN X0 hx (hb hby d6_44) rfl ?_
  refine og_bipush X0 hx (hb hby d6_45) ?_
  refine og_icY X0 hx 52 (hb hby d6_47) (feq m0).2 (by decide) (by decide) ?_
  refine og_iconst X0 hx (hb hby d6_52) ?_
  exact own_retI X0 hx hret hlk (hb hby d6_53) rfl (by simp) (by decide) (by decide) (⟨rfl, N0, e0⟩)
def own_r_own_min_2_2 : Room := { frames := 0, cells := 0, slots := 0, locals := 0 }
theorem own_min_2_2 (l : Launch) (Z : State) (a0 : Array Value) (hw : own_W a0 Z)  (h0 : Heap) (n0 : Nat)  :
    own_Met l Z (⟨"java/lang/Math", "min", "(II)I"⟩ : MethodName) jdk_29_method_69_code 2 (some .int) own_r_own_min_2_2 #[(.int 2), (.int 2)] h0 (own_Qv (some (.int (2))) h0 n0) := by
  refine own_body (by decide +kernel) ?_
  intro p e s m below meth c T0 X0 hx hZ hby hml hown hnm hret hlk e0
  have N0 := Fr.nil n0
  refine own_cast (own_frame (L := [iv 2, iv 2]) (ls := #[iv 2, iv 2]) rfl rfl) ?_
  refine og_iloadN X0 hx (hb hby d15_0) rfl ?_
  refine og_iloadN X0 hx (hb hby d15_1) rfl ?_
  refine og_icN X0 hx (hb hby d15_2) (flt (by decide)).2.2.1 ?_
  refine og_iloadN X0 hx (hb hby d15_5) rfl ?_
  refine og_goto X0 hx 10 (hb hby d15_6) (by decide) (by decide) ?_
  exact own_retI X0 hx hret hlk (hb hby d15_10) rfl (by simp) (by decide) (by decide) (⟨rfl, N0, e0⟩)
theorem own_lia_3_m1 (l : Launch) (Z : State) (a0 : Array Value) (hw : own_W a0 Z) (b : Addr) (kb : ClassId) (dv : Value) (c0 c1 c2 : Int32) (h0 : Heap) (n0 : Nat) (hc0 : ¬ c0 < 0 ∧ ¬ (255 : Int32) < c0) (m0 : ¬ c0 = 47) (hc1 : ¬ c1 < 0 ∧ ¬ (255 : Int32) < c1) (m1 : ¬ c1 = 47) (hc2 : ¬ c2 < 0 ∧ ¬ (255 : Int32) < c2) (m2 : ¬ c2 = 47) (Ab : Arv Z h0 b kb .byte 3 [(.int c0.toInt8.toInt32), (.int c1.toInt8.toInt32), (.int c2.toInt8.toInt32)] dv) :
    own_Met l Z (⟨"java/lang/StringLatin1", "lastIndexOf", "([BII)I"⟩ : MethodName) jdk_43_method_27_code 4 (some .int) own_r_lia #[(.ref b), (.int 47), (.int 2)] h0 (own_Qv (some (.int (-1))) h0 n0) := by
  refine own_body (by decide +kernel) ?_
  intro p e s m below meth c T0 X0 hx hZ hby hml hown hnm hret hlk e0
  have N0 := Fr.nil n0
  refine own_cast (own_frame (L := [rv b, iv 47, iv 2]) (ls := #[rv b, iv 47, iv 2, .unset]) rfl rfl) ?_
  refine og_iloadN X0 hx (hb hby d13_0) rfl ?_
  refine own_callS X0 hx hZ hown (own_hw hw 66 rfl) (own_hw hw 67 rfl) (own_hw hw 64 rfl) (own_hw hw 68 rfl) (by decide) (argsL := [(.int 47)]) (rest := []) (own_ce47 l Z a0 hw h0 n0) e0 (by rw [hml]; rfl) (lenOf own_pd97859 rfl) rfl (hb hby d13_1) (W := 0) (Nat.le_of_eq rfl) (by decide) ?_
  intro v1 T1 L1 X1 q1
  obtain ⟨rfl, N1q, e1⟩ := q1
  have N1 := Fr.app N0 N1q
  show own_Go p e below _ T1 (mkF m 4 #[rv b, iv 47, iv 2, .unset] [(.int 1)])
  refine og_ifY X1 hx 9 (hb hby d13_4) (feq (by decide)).2 (by decide) (by decide) ?_
  refine og_iloadN X1 hx (hb hby d13_9) rfl ?_
  refine og_aloadN X1 hx (hb hby d13_10) rfl rfl ?_
  refine own_len X1 hx hZ e1 Ab (hb hby d13_11) ?_
  show own_Go p e below _ T1 (mkF m 12 #[rv b, iv 47, iv 2, .unset] [(.int 3), (.int 2)])
  refine og_iconst X1 hx (hb hby d13_12) ?_
  refine og_isub X1 hx (hb hby d13_13) ?_
  show own_Go p e below _ T1 (mkF m 14 #[rv b, iv 47, iv 2, .unset] [(.int 2), (.int 2)])
  refine own_callS X1 hx hZ hown (own_hw hw 69 rfl) (own_hw hw 70 rfl) (own_hw hw 71 rfl) (own_hw hw 72 rfl) (by decide) (argsL := [(.int 2), (.int 2)]) (rest := []) (own_min_2_2 l Z a0 hw h0 n0) e1 (by rw [hml]; rfl) (lenOf own_pd23903 rfl) rfl (hb hby d13_14) (W := 0) (Nat.le_of_eq rfl) (by decide) ?_
  intro v2 T2 L2 X2 q2
  obtain ⟨rfl, N2q, e2⟩ := q2
  have N2 := Fr.app N1 N2q
  show own_Go p e below _ T2 (mkF m 17 #[rv b, iv 47, iv 2, .unset] [(.int 2)])
  refine og_istoreN X2 hx #[rv b, iv 47, iv 2, iv 2] (hb hby d13_17) rfl ?_
  refine og_iloadN X2 hx (hb hby d13_18) rfl ?_
  refine og_ifN X2 hx (hb hby d13_19) (flt (by decide)).1 ?_
  refine og_aloadN X2 hx (hb hby d13_22) rfl rfl ?_
  refine og_iloadN X2 hx (hb hby d13_23) rfl ?_
  refine own_ldB X2 hx hZ e2 Ab ⟨by decide, by decide⟩ rfl (hb hby d13_24) ?_
  show own_Go p e below _ T2 (mkF m 25 #[rv b, iv 47, iv 2, iv 2] [(.int c2.toInt8.toInt32)])
  refine og_iloadN X2 hx (hb hby d13_25) rfl ?_
  refine own_go (fun t k => XS.i2b X2.here hx rfl (hb hby d13_26) rfl k) ?_
  show own_Go p e below _ T2 (mkF m 27 #[rv b, iv 47, iv 2, iv 2] [(.int 47), (.int c2.toInt8.toInt32)])
  refine og_icY X2 hx 32 (hb hby d13_27) (feq (fun q => m2 (own_b47 _ hc2 q))).2 (by decide) (by decide) ?_
  refine own_go (fun t k => XS.iinc X2.here hx rfl (hb hby d13_32) rfl (l' := #[rv b, iv 47, iv 2, iv 1]) rfl k) ?_
  show own_Go p e below _ T2 (mkF m 35 #[rv b, iv 47, iv 2, iv 1] [])
  refine og_goto X2 hx 18 (hb hby d13_35) (by decide) (by decide) ?_
  refine og_iloadN X2 hx (hb hby d13_18) rfl ?_
  refine og_ifN X2 hx (hb hby d13_19) (flt (by decide)).1 ?_
  refine og_aloadN X2 hx (hb hby d13_22) rfl rfl ?_
  refine og_iloadN X2 hx (hb hby d13_23) rfl ?_
  refine own_ldB X2 hx hZ e2 Ab ⟨by decide, by decide⟩ rfl (hb hby d13_24) ?_
  show own_Go p e below _ T2 (mkF m 25 #[rv b, iv 47, iv 2, iv 1] [(.int c1.toInt8.toInt32)])
  refine og_iloadN X2 hx (hb hby d13_25) rfl ?_
  refine own_go (fun t k => XS.i2b X2.here hx rfl (hb hby d13_26) rfl k) ?_
  show own_Go p e below _ T2 (mkF m 27 #[rv b, iv 47, iv 2, iv 1] [(.int 47), (.int c1.toInt8.toInt32)])
  refine og_icY X2 hx 32 (hb hby d13_27) (feq (fun q => m1 (own_b47 _ hc1 q))).2 (by decide) (by decide) ?_
  refine own_go (fun t k => XS.iinc X2.here hx rfl (hb hby d13_32) rfl (l' := #[rv b, iv 47, iv 2, iv 0]) rfl k) ?_
  show own_Go p e below _ T2 (mkF m 35 #[rv b, iv 47, iv 2, iv 0] [])
  refine og_goto X2 hx 18 (hb hby d13_35) (by decide) (by decide) ?_
  refine og_iloadN X2 hx (hb hby d13_18) rfl ?_
  refine og_ifN X2 hx (hb hby d13_19) (flt (by decide)).1 ?_
  refine og_aloadN X2 hx (hb hby d13_22) rfl rfl ?_
  refine og_iloadN X2 hx (hb hby d13_23) rfl ?_
  refine own_ldB X2 hx hZ e2 Ab ⟨by decide, by decide⟩ rfl (hb hby d13_24) ?_
  show own_Go p e below _ T2 (mkF m 25 #[rv b, iv 47, iv 2, iv 0] [(.int c0.toInt8.toInt32)])
  refine og_iloadN X2 hx (hb hby d13_25) rfl ?_
  refine own_go (fun t k => XS.i2b X2.here hx rfl (hb hby d13_26) rfl k) ?_
  show own_Go p e below _ T2 (mkF m 27 #[rv b, iv 47, iv 2, iv 0] [(.int 47), (.int c0.toInt8.toInt32)])
  refine og_icY X2 hx 32 (hb hby d13_27) (feq (fun q => m0 (own_b47 _ hc0 q))).2 (by decide) (by decide) ?_
  refine own_go (fun t k => XS.iinc X2.here hx rfl (hb hby d13_32) rfl (l' := #[rv b, iv 47, iv 2, iv (-1)]) rfl k) ?_
  show own_Go p e below _ T2 (mkF m 35 #[rv b, iv 47, iv 2, iv (-1)] [])
  refine og_goto X2 hx 18 (hb hby d13_35) (by decide) (by decide) ?_
  refine og_iloadN X2 hx (hb hby d13_18) rfl ?_
  refine og_ifY X2 hx 38 (hb hby d13_19) (tlt (by decide)).1 (by decide) (by decide) ?_
  refine og_iconst X2 hx (hb hby d13_38) ?_
  exact own_retI X2 hx hret hlk (hb hby d13_39) rfl (by simp) (by decide) (by decide) (⟨rfl, N2, e2⟩)
def own_r_own_lib_3 : Room := { frames := 2, cells := 0, slots := 0, locals := 28 }
theorem own_lib_3 (l : Launch) (Z : State) (a0 : Array Value) (hw : own_W a0 Z) (z : Int32) (sf : Value) (t b : Addr) (kb : ClassId) (dv : Value) (c0 c1 c2 : Int32) (r : Int32) (h0 : Heap) (n0 : Nat) (hO : Old Z n0 h0) (hG : own_Gs Z z sf) (inn : own_Met l Z (⟨"java/lang/StringLatin1", "lastIndexOf", "([BII)I"⟩ : MethodName) jdk_43_method_27_code 4 (some .int) own_r_lia #[.ref b, .int 47, .int 2] h0 (own_Qv (some (.int r)) h0 n0)) (Et : own_E Z h0 t) (Fv : own_V Z h0 t b) (Fc : own_C Z h0 t) (Ab : Arv Z h0 b kb .byte 3 [(.int c0.toInt8.toInt32), (.int c1.toInt8.toInt32), (.int c2.toInt8.toInt32)] dv) :
    own_Met l Z (⟨"java/lang/String", "lastIndexOf", "(II)I"⟩ : MethodName) jdk_42_method_83_code 3 (some .int) own_r_own_lib_3 #[(.ref t), (.int 47), (.int 2)] h0 (own_Qv (some (.int r)) h0 n0) := by
  refine own_body (by decide +kernel) ?_
  intro p e s m below meth c T0 X0 hx hZ hby hml hown hnm hret hlk e0
  have N0 := Fr.nil n0
  refine own_cast (own_frame (L := [rv t, iv 47, iv 2]) (ls := #[rv t, iv 47, iv 2]) rfl rfl) ?_
  obtain ⟨SC, hz, SF, rf⟩ := id hG
  refine og_aloadN X0 hx (hb hby d11_0) rfl rfl ?_
  refine own_callV X0 hx hZ hown (own_hw hw 57 rfl) (own_hw hw 58 rfl) (notFace_of_selects (args := #[]) (mvT hZ (own_hw hw 60 rfl))) (own_hw hw 60 rfl) (own_hw hw 59 rfl) (own_hw hw 61 rfl) (own_hw hw 9 rfl) (by decide) (b := t) (argsL := []) (rest := []) (own_isl1 l Z a0 hw z sf t h0 n0 hO hG Fc) e0 Et (by rw [hml]; rfl) (lenOf own_pd61835 rfl) rfl (hb hby d11_1) (W := 0) (Nat.le_of_eq rfl) (by decide) ?_
  intro v1 T1 L1 X1 q1
  obtain ⟨rfl, N1q, e1⟩ := q1
  have N1 := Fr.app N0 N1q
  show own_Go p e below _ T1 (mkF m 4 #[rv t, iv 47, iv 2] [(.int (1 : Int32))])
  refine og_ifN X1 hx (hb hby d11_4) (feq (by decide)).1 ?_
  refine og_aloadN X1 hx (hb hby d11_7) rfl rfl ?_
  refine og_getF X1 hx hZ hown (own_hw hw 27 rfl) Via.refl e1 Fv (hb hby d11_8) ?_
  intro T2 X2 e2
  refine og_iloadN X2 hx (hb hby d11_11) rfl ?_
  refine og_iloadN X2 hx (hb hby d11_12) rfl ?_
  refine own_callS X2 hx hZ hown (own_hw hw 62 rfl) (own_hw hw 63 rfl) (own_hw hw 64 rfl) (own_hw hw 65 rfl) (by decide) (argsL := [(.ref b), (.int 47), (.int 2)]) (rest := []) inn e2 (by rw [hml]; rfl) (lenOf own_pd83039 rfl) rfl (hb hby d11_13) (W := 0) (Nat.le_of_eq rfl) (by decide) ?_
  intro v3 T3 L3 X3 q3
  obtain ⟨rfl, N3q, e3⟩ := q3
  have N3 := Fr.app N1 N3q
  show own_Go p e below _ T3 (mkF m 16 #[rv t, iv 47, iv 2] [(.int r)])
  refine og_goto X3 hx 28 (hb hby d11_16) (by decide) (by decide) ?_
  exact own_retI X3 hx hret hlk (hb hby d11_28) rfl (by simp) (by decide) (by decide) (⟨rfl, N3, e3⟩)
def own_r_own_lic_3 : Room := { frames := 3, cells := 0, slots := 0, locals := 42 }
theorem own_lic_3 (l : Launch) (Z : State) (a0 : Array Value) (hw : own_W a0 Z) (z : Int32) (sf : Value) (t b : Addr) (kb : ClassId) (dv : Value) (c0 c1 c2 : Int32) (r : Int32) (h0 : Heap) (n0 : Nat) (hO : Old Z n0 h0) (hG : own_Gs Z z sf) (inn : own_Met l Z (⟨"java/lang/StringLatin1", "lastIndexOf", "([BII)I"⟩ : MethodName) jdk_43_method_27_code 4 (some .int) own_r_lia #[.ref b, .int 47, .int 2] h0 (own_Qv (some (.int r)) h0 n0)) (Et : own_E Z h0 t) (Fv : own_V Z h0 t b) (Fc : own_C Z h0 t) (Ab : Arv Z h0 b kb .byte 3 [(.int c0.toInt8.toInt32), (.int c1.toInt8.toInt32), (.int c2.toInt8.toInt32)] dv) :
    own_Met l Z (⟨"java/lang/String", "lastIndexOf", "(I)I"⟩ : MethodName) jdk_42_method_82_code 2 (some .int) own_r_own_lic_3 #[(.ref t), (.int 47)] h0 (own_Qv (some (.int r)) h0 n0) := by
  refine own_body (by decide +kernel) ?_
  intro p e s m below meth c T0 X0 hx hZ hby hml hown hnm hret hlk e0
  have N0 := Fr.nil n0
  refine own_cast (own_frame (L := [rv t, iv 47]) (ls := #[rv t, iv 47]) rfl rfl) ?_
  obtain ⟨SC, hz, SF, rf⟩ := id hG
  refine og_aloadN X0 hx (hb hby d8_0) rfl rfl ?_
  refine og_iloadN X0 hx (hb hby d8_1) rfl ?_
  refine og_aloadN X0 hx (hb hby d8_2) rfl rfl ?_
  refine own_callV X0 hx hZ hown (own_hw hw 41 rfl) (own_hw hw 42 rfl) (notFace_of_selects (args := #[]) (mvT hZ (own_hw hw 44 rfl))) (own_hw hw 44 rfl) (own_hw hw 43 rfl) (own_hw hw 45 rfl) (own_hw hw 9 rfl) (by decide) (b := t) (argsL := []) (rest := [(.int 47), (.ref t)]) (own_slen l Z a0 hw z sf t b _ _ _ _ h0 n0 hO hG Et Fv Fc Ab) e0 Et (by rw [hml]; rfl) (lenOf own_pd13941 rfl) rfl (hb hby d8_3) (W := 2) (Nat.le_of_eq rfl) (by decide) ?_
  intro v1 T1 L1 X1 q1
  obtain ⟨rfl, N1q, e1⟩ := q1
  have N1 := Fr.app N0 N1q
  show own_Go p e below _ T1 (mkF m 6 #[rv t, iv 47] [(.int 3), (.int 47), (.ref t)])
  refine og_iconst X1 hx (hb hby d8_6) ?_
  refine og_isub X1 hx (hb hby d8_7) ?_
  show own_Go p e below _ T1 (mkF m 8 #[rv t, iv 47] [(.int 2), (.int 47), (.ref t)])
  refine own_callV X1 hx hZ hown (own_hw hw 52 rfl) (own_hw hw 53 rfl) (notFace_of_selects (args := #[]) (mvT hZ (own_hw hw 55 rfl))) (own_hw hw 55 rfl) (own_hw hw 54 rfl) (own_hw hw 56 rfl) (own_hw hw 9 rfl) (by decide) (b := t) (argsL := [(.int 47), (.int 2)]) (rest := []) (own_lib_3 l Z a0 hw z sf t b _ _ c0 c1 c2 r h0 n0 hO hG inn Et Fv Fc Ab) e1 Et (by rw [hml]; rfl) (lenOf own_pd23903 rfl) rfl (hb hby d8_8) (W := 0) (Nat.le_of_eq rfl) (by decide) ?_
  intro v2 T2 L2 X2 q2
  obtain ⟨rfl, N2q, e2⟩ := q2
  have N2 := Fr.app N1 N2q
  show own_Go p e below _ T2 (mkF m 11 #[rv t, iv 47] [(.int r)])
  exact own_retI X2 hx hret hlk (hb hby d8_11) rfl (by simp) (by decide) (by decide) (⟨rfl, N2, e2⟩)
def own_r_own_po_3_m1 : Room := { frames := 4, cells := 2, slots := 4, locals := 55 }
theorem own_po_3_m1 (l : Launch) (Z : State) (a0 : Array Value) (hw : own_W a0 Z) (z : Int32) (sf : Value) (t b : Addr) (kb : ClassId) (dv : Value) (c0 c1 c2 : Int32) (h0 : Heap) (n0 : Nat) (hO : Old Z n0 h0) (hG : own_Gs Z z sf) (hc0 : ¬ c0 < 0 ∧ ¬ (255 : Int32) < c0) (m0 : ¬ c0 = 47) (hc1 : ¬ c1 < 0 ∧ ¬ (255 : Int32) < c1) (m1 : ¬ c1 = 47) (hc2 : ¬ c2 < 0 ∧ ¬ (255 : Int32) < c2) (m2 : ¬ c2 = 47) (Et : own_E Z h0 t) (Fv : own_V Z h0 t b) (Fc : own_C Z h0 t) (Ab : Arv Z h0 b kb .byte 3 [(.int c0.toInt8.toInt32), (.int c1.toInt8.toInt32), (.int c2.toInt8.toInt32)] dv) :
    own_MetH l Z own_EL (⟨"com/example/svazek/svazek/PackageFolder", "placeOf", "(Ljava/lang/String;)Ljava/lang/String;"⟩ : MethodName) prog_41_method_7_code 2 (some (.object "java/lang/String")) own_r_own_po_3_m1 #[(.ref t)] h0 (own_Qe Z h0 n0) := by
  refine own_bodyH (by decide +kernel) ?_
  intro p e s m below meth c T0 X0 hx hZ hby hml hown hnm hret hlk e0 hS hk C0
  have hwS : ∀ a ∈ Bundle.stringAtoms, a.before a0 Z = true := fun d hd => hw d ((by decide +kernel : ∀ d ∈ Bundle.stringAtoms, d ∈ tables_1) d hd)
  have N0 := Fr.nil n0
  refine own_cast (own_frame (L := [rv t]) (ls := #[rv t, .unset]) rfl rfl) ?_
  obtain ⟨SC, hz, SF, rf⟩ := id hG
  refine og_aloadN X0 hx (hb hby d7_0) rfl rfl ?_
  refine og_bipush X0 hx (hb hby d7_1) ?_
  refine own_callV X0 hx hZ hown (own_hw hw 36 rfl) (own_hw hw 37 rfl) (notFace_of_selects (args := #[]) (mvT hZ (own_hw hw 39 rfl))) (own_hw hw 39 rfl) (own_hw hw 38 rfl) (own_hw hw 40 rfl) (own_hw hw 9 rfl) (by decide) (b := t) (argsL := [(.int 47)]) (rest := []) (own_lic_3 l Z a0 hw z sf t b _ _ c0 c1 c2 (-1) h0 n0 hO hG (own_lia_3_m1 l Z a0 hw b _ _ c0 c1 c2 h0 n0 hc0 m0 hc1 m1 hc2 m2 Ab) Et Fv Fc Ab) e0 Et (by rw [hml]; rfl) (lenOf own_pd49053 rfl) rfl (hb hby d7_3) (W := 0) (Nat.le_of_eq rfl) (by decide) ?_
  intro v1 T1 L1 X1 q1
  obtain ⟨rfl, N1q, e1⟩ := q1
  have N1 := Fr.app N0 N1q
  show own_Go p e below _ T1 (mkF m 6 #[rv t, .unset] [(.int (-1))])
  refine og_istoreN X1 hx #[rv t, iv (-1)] (hb hby d7_6) rfl ?_
  refine og_iloadN X1 hx (hb hby d7_7) rfl ?_
  refine og_ifN X1 hx (hb hby d7_8) (tlt (by decide)).2.1 ?_
  show own_Go p e below _ T1 (mkF m 11 #[rv t, iv (-1)] [])
  refine own_ldcH X1 hx hZ hown (own_hw hw 73 rfl) hwS e1 hS hk (own_EW hw) (List.mem_of_getElem? (i := 1) rfl) C0.1 (z := 0) ⟨by decide, rfl⟩ (by decide) rfl (hb hby d7_11) 0 (by decide) (by decide) (by decide) (by decide) ?_
  intro s2 T2 h2 k2 d2 kb2 X2 e2 E2 hS2 hk2 hZ2 hown2 Es2 Fc2 Fv2 As2 C2q Lt2 ns2
  have E_t_2 := Et.ext E2
  have F_t_value_2 := Fv.ext E2
  have F_t_coder_2 := Fc.ext E2
  have A_b_2 := Ab.ext E2
  have C2 := C0.trans C2q
  have O2 := hO.ext E2
  have K2 := (Keep.refl h0 []).ext E2
  have E_s2_2 : Exa Z h2 s2 "java/lang/String" := Es2
  have F_s2_coder_2 : Fld Z h2 s2 "java/lang/String" "coder" "B" (.int (0 : Int32)) := Fc2
  have F_s2_value_2 : Fld Z h2 s2 "java/lang/String" "value" "[B" (.ref d2) := Fv2
  have A_d2_2 : Arv Z h2 d2 kb2 .byte 0 [] (.int 0) := As2
  show own_Go p e below _ T2 (mkF m 13 #[rv t, iv (-1)] [(.ref s2)])
  refine og_goto X2 hx 22 (hb hby d7_13) (by decide) (by decide) ?_
  exact own_retAH X2 hx hret hlk (hb hby d7_22) rfl rfl hZ2 (own_EW hw) C2 e2 hS2 hk2 (by decide) (by decide) (by rw [e2]; exact ⟨s2, d2, _, rfl, N1, K2, E_s2_2, F_s2_value_2, F_s2_coder_2, A_d2_2⟩)
def own_r_own_ls_3_0 : Room := { frames := 0, cells := 0, slots := 0, locals := 0 }
theorem own_ls_3_0 (l : Launch) (Z : State) (a0 : Array Value) (hw : own_W a0 Z) (c0 c1 c2 c3 : Int32) (h0 : Heap) (n0 : Nat) (m1 : ¬ c1 = 47) (m2 : ¬ c2 = 47) (hsl : c0 = 47) :
    own_Met l Z (⟨"com/example/svazek/svazek/PackageFolderPlaceOfPinLaw", "lastSlash", "(ICCCC)I"⟩ : MethodName) method_5_code 5 (some .int) own_r_own_ls_3_0 #[(.int 3), (.int c0), (.int c1), (.int c2), (.int c3)] h0 (own_Qv (some (.int (0))) h0 n0) := by
  refine own_body (by decide +kernel) ?_
  intro p e s m below meth c T0 X0 hx hZ hby hml hown hnm hret hlk e0
  have N0 := Fr.nil n0
  refine own_cast (own_frame (L := [iv 3, iv c0, iv c1, iv c2, iv c3]) (ls := #[iv 3, iv c0, iv c1, iv c2, iv c3]) rfl rfl) ?_
  refine og_iloadN X0 hx (hb hby d6_0) rfl ?_
  refine og_iconst X0 hx (hb hby d6_1) ?_
  refine og_icY X0 hx 14 (hb hby d6_2) (flt (by decide)).2.2.2 (by decide) (by decide) ?_
  refine og_iloadN X0 hx (hb hby d6_14) rfl ?_
  refine og_iconst X0 hx (hb hby d6_15) ?_
  refine og_icN X0 hx (hb hby d6_16) (tlt (by decide)).2.2.2 ?_
  refine og_iloadN X0 hx (hb hby d6_19) rfl ?_
  refine og_bipush X0 hx (hb hby d6_20) ?_
  refine og_icY X0 hx 27 (hb hby d6_22) (feq m2).2 (by decide) (by decide) ?_
  refine og_iloadN X0 hx (hb hby d6_27) rfl ?_
  refine og_iconst X0 hx (hb hby d6_28) ?_
  refine og_icN X0 hx (hb hby d6_29) (tlt (by decide)).2.2.2 ?_
  refine og_iloadN X0 hx (hb hby d6_32) rfl ?_
  refine og_bipush X0 hx (hb hby d6_33) ?_
  refine og_icY X0 hx 40 (hb hby d6_35) (feq m1).2 (by decide) (by decide) ?_
  refine og_iloadN X0 hx (hb hby d6_40) rfl ?_
  refine og_ifN X0 hx (hb hby d6_41) (tlt (by decide)).2.2.2 ?_
  refine og_iloadN X0 hx (hb hby d6_44) rfl ?_
  refine og_bipush X0 hx (hb hby d6_45) ?_
  refine og_icN X0 hx (hb hby d6_47) (teq hsl).2 ?_
  refine og_iconst X0 hx (hb hby d6_50) ?_
  exact own_retI X0 hx hret hlk (hb hby d6_51) rfl (by simp) (by decide) (by decide) (⟨rfl, N0, e0⟩)
theorem own_lia_3_0 (l : Launch) (Z : State) (a0 : Array Value) (hw : own_W a0 Z) (b : Addr) (kb : ClassId) (dv : Value) (c0 c1 c2 : Int32) (h0 : Heap) (n0 : Nat) (hc1 : ¬ c1 < 0 ∧ ¬ (255 : Int32) < c1) (m1 : ¬ c1 = 47) (hc2 : ¬ c2 < 0 ∧ ¬ (255 : Int32) < c2) (m2 : ¬ c2 = 47) (hsl : c0 = 47) (Ab : Arv Z h0 b kb .byte 3 [(.int c0.toInt8.toInt32), (.int c1.toInt8.toInt32), (.int c2.toInt8.toInt32)] dv) :
    own_Met l Z (⟨"java/lang/StringLatin1", "lastIndexOf", "([BII)I"⟩ : MethodName) jdk_43_method_27_code 4 (some .int) own_r_lia #[(.ref b), (.int 47), (.int 2)] h0 (own_Qv (some (.int (0))) h0 n0) := by
  refine own_body (by decide +kernel) ?_
  intro p e s m below meth c T0 X0 hx hZ hby hml hown hnm hret hlk e0
  have N0 := Fr.nil n0
  refine own_cast (own_frame (L := [rv b, iv 47, iv 2]) (ls := #[rv b, iv 47, iv 2, .unset]) rfl rfl) ?_
  refine og_iloadN X0 hx (hb hby d13_0) rfl ?_
  refine own_callS X0 hx hZ hown (own_hw hw 66 rfl) (own_hw hw 67 rfl) (own_hw hw 64 rfl) (own_hw hw 68 rfl) (by decide) (argsL := [(.int 47)]) (rest := []) (own_ce47 l Z a0 hw h0 n0) e0 (by rw [hml]; rfl) (lenOf own_pd97859 rfl) rfl (hb hby d13_1) (W := 0) (Nat.le_of_eq rfl) (by decide) ?_
  intro v1 T1 L1 X1 q1
  obtain ⟨rfl, N1q, e1⟩ := q1
  have N1 := Fr.app N0 N1q
  show own_Go p e below _ T1 (mkF m 4 #[rv b, iv 47, iv 2, .unset] [(.int 1)])
  refine og_ifY X1 hx 9 (hb hby d13_4) (feq (by decide)).2 (by decide) (by decide) ?_
  refine og_iloadN X1 hx (hb hby d13_9) rfl ?_
  refine og_aloadN X1 hx (hb hby d13_10) rfl rfl ?_
  refine own_len X1 hx hZ e1 Ab (hb hby d13_11) ?_
  show own_Go p e below _ T1 (mkF m 12 #[rv b, iv 47, iv 2, .unset] [(.int 3), (.int 2)])
  refine og_iconst X1 hx (hb hby d13_12) ?_
  refine og_isub X1 hx (hb hby d13_13) ?_
  show own_Go p e below _ T1 (mkF m 14 #[rv b, iv 47, iv 2, .unset] [(.int 2), (.int 2)])
  refine own_callS X1 hx hZ hown (own_hw hw 69 rfl) (own_hw hw 70 rfl) (own_hw hw 71 rfl) (own_hw hw 72 rfl) (by decide) (argsL := [(.int 2), (.int 2)]) (rest := []) (own_min_2_2 l Z a0 hw h0 n0) e1 (by rw [hml]; rfl) (lenOf own_pd23903 rfl) rfl (hb hby d13_14) (W := 0) (Nat.le_of_eq rfl) (by decide) ?_
  intro v2 T2 L2 X2 q2
  obtain ⟨rfl, N2q, e2⟩ := q2
  have N2 := Fr.app N1 N2q
  show own_Go p e below _ T2 (mkF m 17 #[rv b, iv 47, iv 2, .unset] [(.int 2)])
  refine og_istoreN X2 hx #[rv b, iv 47, iv 2, iv 2] (hb hby d13_17) rfl ?_
  refine og_iloadN X2 hx (hb hby d13_18) rfl ?_
  refine og_ifN X2 hx (hb hby d13_19) (flt (by decide)).1 ?_
  refine og_aloadN X2 hx (hb hby d13_22) rfl rfl ?_
  refine og_iloadN X2 hx (hb hby d13_23) rfl ?_
  refine own_ldB X2 hx hZ e2 Ab ⟨by decide, by decide⟩ rfl (hb hby d13_24) ?_
  show own_Go p e below _ T2 (mkF m 25 #[rv b, iv 47, iv 2, iv 2] [(.int c2.toInt8.toInt32)])
  refine og_iloadN X2 hx (hb hby d13_25) rfl ?_
  refine own_go (fun t k => XS.i2b X2.here hx rfl (hb hby d13_26) rfl k) ?_
  show own_Go p e below _ T2 (mkF m 27 #[rv b, iv 47, iv 2, iv 2] [(.int 47), (.int c2.toInt8.toInt32)])
  refine og_icY X2 hx 32 (hb hby d13_27) (feq (fun q => m2 (own_b47 _ hc2 q))).2 (by decide) (by decide) ?_
  refine own_go (fun t k => XS.iinc X2.here hx rfl (hb hby d13_32) rfl (l' := #[rv b, iv 47, iv 2, iv 1]) rfl k) ?_
  show own_Go p e below _ T2 (mkF m 35 #[rv b, iv 47, iv 2, iv 1] [])
  refine og_goto X2 hx 18 (hb hby d13_35) (by decide) (by decide) ?_
  refine og_iloadN X2 hx (hb hby d13_18) rfl ?_
  refine og_ifN X2 hx (hb hby d13_19) (flt (by decide)).1 ?_
  refine og_aloadN X2 hx (hb hby d13_22) rfl rfl ?_
  refine og_iloadN X2 hx (hb hby d13_23) rfl ?_
  refine own_ldB X2 hx hZ e2 Ab ⟨by decide, by decide⟩ rfl (hb hby d13_24) ?_
  show own_Go p e below _ T2 (mkF m 25 #[rv b, iv 47, iv 2, iv 1] [(.int c1.toInt8.toInt32)])
  refine og_iloadN X2 hx (hb hby d13_25) rfl ?_
  refine own_go (fun t k => XS.i2b X2.here hx rfl (hb hby d13_26) rfl k) ?_
  show own_Go p e below _ T2 (mkF m 27 #[rv b, iv 47, iv 2, iv 1] [(.int 47), (.int c1.toInt8.toInt32)])
  refine og_icY X2 hx 32 (hb hby d13_27) (feq (fun q => m1 (own_b47 _ hc1 q))).2 (by decide) (by decide) ?_
  refine own_go (fun t k => XS.iinc X2.here hx rfl (hb hby d13_32) rfl (l' := #[rv b, iv 47, iv 2, iv 0]) rfl k) ?_
  show own_Go p e below _ T2 (mkF m 35 #[rv b, iv 47, iv 2, iv 0] [])
  refine og_goto X2 hx 18 (hb hby d13_35) (by decide) (by decide) ?_
  refine og_iloadN X2 hx (hb hby d13_18) rfl ?_
  refine og_ifN X2 hx (hb hby d13_19) (flt (by decide)).1 ?_
  refine og_aloadN X2 hx (hb hby d13_22) rfl rfl ?_
  refine og_iloadN X2 hx (hb hby d13_23) rfl ?_
  refine own_ldB X2 hx hZ e2 Ab ⟨by decide, by decide⟩ rfl (hb hby d13_24) ?_
  show own_Go p e below _ T2 (mkF m 25 #[rv b, iv 47, iv 2, iv 0] [(.int c0.toInt8.toInt32)])
  refine og_iloadN X2 hx (hb hby d13_25) rfl ?_
  refine own_go (fun t k => XS.i2b X2.here hx rfl (hb hby d13_26) rfl k) ?_
  show own_Go p e below _ T2 (mkF m 27 #[rv b, iv 47, iv 2, iv 0] [(.int 47), (.int c0.toInt8.toInt32)])
  refine og_icN X2 hx (hb hby d13_27) (teq (by rw [hsl]; rfl)).2 ?_
  refine og_iloadN X2 hx (hb hby d13_30) rfl ?_
  exact own_retI X2 hx hret hlk (hb hby d13_31) rfl (by simp) (by decide) (by decide) (⟨rfl, N2, e2⟩)
def own_r_own_po_3_0 : Room := { frames := 4, cells := 2, slots := 4, locals := 55 }
theorem own_po_3_0 (l : Launch) (Z : State) (a0 : Array Value) (hw : own_W a0 Z) (z : Int32) (sf : Value) (t b : Addr) (kb : ClassId) (dv : Value) (c0 c1 c2 : Int32) (h0 : Heap) (n0 : Nat) (hO : Old Z n0 h0) (hG : own_Gs Z z sf) (hc1 : ¬ c1 < 0 ∧ ¬ (255 : Int32) < c1) (m1 : ¬ c1 = 47) (hc2 : ¬ c2 < 0 ∧ ¬ (255 : Int32) < c2) (m2 : ¬ c2 = 47) (hsl : c0 = 47) (Et : own_E Z h0 t) (Fv : own_V Z h0 t b) (Fc : own_C Z h0 t) (Ab : Arv Z h0 b kb .byte 3 [(.int c0.toInt8.toInt32), (.int c1.toInt8.toInt32), (.int c2.toInt8.toInt32)] dv) :
    own_MetH l Z own_EL (⟨"com/example/svazek/svazek/PackageFolder", "placeOf", "(Ljava/lang/String;)Ljava/lang/String;"⟩ : MethodName) prog_41_method_7_code 2 (some (.object "java/lang/String")) own_r_own_po_3_0 #[(.ref t)] h0 (own_Qe Z h0 n0) := by
  refine own_bodyH (by decide +kernel) ?_
  intro p e s m below meth c T0 X0 hx hZ hby hml hown hnm hret hlk e0 hS hk C0
  have hwS : ∀ a ∈ Bundle.stringAtoms, a.before a0 Z = true := fun d hd => hw d ((by decide +kernel : ∀ d ∈ Bundle.stringAtoms, d ∈ tables_1) d hd)
  have N0 := Fr.nil n0
  refine own_cast (own_frame (L := [rv t]) (ls := #[rv t, .unset]) rfl rfl) ?_
  obtain ⟨SC, hz, SF, rf⟩ := id hG
  refine og_aloadN X0 hx (hb hby d7_0) rfl rfl ?_
  refine og_bipush X0 hx (hb hby d7_1) ?_
  refine own_callV X0 hx hZ hown (own_hw hw 36 rfl) (own_hw hw 37 rfl) (notFace_of_selects (args := #[]) (mvT hZ (own_hw hw 39 rfl))) (own_hw hw 39 rfl) (own_hw hw 38 rfl) (own_hw hw 40 rfl) (own_hw hw 9 rfl) (by decide) (b := t) (argsL := [(.int 47)]) (rest := []) (own_lic_3 l Z a0 hw z sf t b _ _ c0 c1 c2 (0) h0 n0 hO hG (own_lia_3_0 l Z a0 hw b _ _ c0 c1 c2 h0 n0 hc1 m1 hc2 m2 hsl Ab) Et Fv Fc Ab) e0 Et (by rw [hml]; rfl) (lenOf own_pd49053 rfl) rfl (hb hby d7_3) (W := 0) (Nat.le_of_eq rfl) (by decide) ?_
  intro v1 T1 L1 X1 q1
  obtain ⟨rfl, N1q, e1⟩ := q1
  have N1 := Fr.app N0 N1q
  show own_Go p e below _ T1 (mkF m 6 #[rv t, .unset] [(.int 0)])
  refine og_istoreN X1 hx #[rv t, iv 0] (hb hby d7_6) rfl ?_
  refine og_iloadN X1 hx (hb hby d7_7) rfl ?_
  refine og_ifY X1 hx 16 (hb hby d7_8) (flt (by decide)).2.1 (by decide) (by decide) ?_
  refine og_aloadN X1 hx (hb hby d7_16) rfl rfl ?_
  refine og_iconst X1 hx (hb hby d7_17) ?_
  refine og_iloadN X1 hx (hb hby d7_18) rfl ?_
  refine own_callVH X1 hx hZ hown (own_hw hw 89 rfl) (own_hw hw 90 rfl) (notFace_of_selects (args := #[]) (mvT hZ (own_hw hw 92 rfl))) (own_hw hw 92 rfl) (own_hw hw 91 rfl) (own_hw hw 93 rfl) (own_hw hw 9 rfl) (by decide) (b := t) (argsL := [(.int 0), (.int 0)]) (rest := []) (own_subEz l Z a0 hw z sf t b _ _ _ _ h0 n0 hO hG (by decide) (by decide) Et Fv Fc Ab) (own_EW hw) C0.1 hS hk e1 Et (by rw [hml]; rfl) (lenOf own_pd41291 rfl) rfl (hb hby d7_19) (W := 0) (Nat.le_of_eq rfl) (by decide) ?_
  intro v2 T2 L2 X2 hS2 hZ2 hown2 C2q q2
  obtain ⟨t2, vb2, k2, rfl, N2q, K2q, Et2, Ft2, Ct2, At2⟩ := q2
  have N2 := Fr.app N1 N2q
  have C2 := C0.trans C2q
  have E_t_2 := Et.keep K2q
  have F_t_value_2 := Fv.keep K2q nin0
  have F_t_coder_2 := Fc.keep K2q nin0
  have A_b_2 := Ab.keep K2q nin0
  have O2 := hO.keep K2q all0
  have K2 := (Keep.refl h0 []).trans K2q all0
  show own_Go p e below _ T2 (mkF m 22 #[rv t, iv 0] [(.ref t2)])
  exact own_retAH X2 hx hret hlk (hb hby d7_22) rfl rfl hZ2 (own_EW hw) C2 rfl hS2 (Nat.le_refl _) (by decide) (by decide) (⟨t2, vb2, _, rfl, N2, K2, Et2, Ft2, Ct2, At2⟩)
def own_r_own_ls_3_1 : Room := { frames := 0, cells := 0, slots := 0, locals := 0 }
theorem own_ls_3_1 (l : Launch) (Z : State) (a0 : Array Value) (hw : own_W a0 Z) (c0 c1 c2 c3 : Int32) (h0 : Heap) (n0 : Nat) (m2 : ¬ c2 = 47) (hsl : c1 = 47) :
    own_Met l Z (⟨"com/example/svazek/svazek/PackageFolderPlaceOfPinLaw", "lastSlash", "(ICCCC)I"⟩ : MethodName) method_5_code 5 (some .int) own_r_own_ls_3_1 #[(.int 3), (.int c0), (.int c1), (.int c2), (.int c3)] h0 (own_Qv (some (.int (1))) h0 n0) := by
  refine own_body (by decide +kernel) ?_
  intro p e s m below meth c T0 X0 hx hZ hby hml hown hnm hret hlk e0
  have N0 := Fr.nil n0
  refine own_cast (own_frame (L := [iv 3, iv c0, iv c1, iv c2, iv c3]) (ls := #[iv 3, iv c0, iv c1, iv c2, iv c3]) rfl rfl) ?_
  refine og_iloadN X0 hx (hb hby d6_0) rfl ?_
  refine og_iconst X0 hx (hb hby d6_1) ?_
  refine og_icY X0 hx 14 (hb hby d6_2) (flt (by decide)).2.2.2 (by decide) (by decide) ?_
  refine og_iloadN X0 hx (hb hby d6_14) rfl ?_
  refine og_iconst X0 hx (hb hby d6_15) ?_
  refine og_icN X0 hx (hb hby d6_16) (tlt (by decide)).2.2.2 ?_
  refine og_iloadN X0 hx (hb hby d6_19) rfl ?_
  refine og_bipush X0 hx (hb hby d6_20) ?_
  refine og_icY X0 hx 27 (hb hby d6_22) (feq m2).2 (by decide) (by decide) ?_
  refine og_iloadN X0 hx (hb hby d6_27) rfl ?_
  refine og_iconst X0 hx (hb hby d6_28) ?_
  refine og_icN X0 hx (hb hby d6_29) (tlt (by decide)).2.2.2 ?_
  refine og_iloadN X0 hx (hb hby d6_32) rfl ?_
  refine og_bipush X0 hx (hb hby d6_33) ?_
  refine og_icN X0 hx (hb hby d6_35) (teq hsl).2 ?_
  refine og_iconst X0 hx (hb hby d6_38) ?_
  exact own_retI X0 hx hret hlk (hb hby d6_39) rfl (by simp) (by decide) (by decide) (⟨rfl, N0, e0⟩)
theorem own_lia_3_1 (l : Launch) (Z : State) (a0 : Array Value) (hw : own_W a0 Z) (b : Addr) (kb : ClassId) (dv : Value) (c0 c1 c2 : Int32) (h0 : Heap) (n0 : Nat) (hc2 : ¬ c2 < 0 ∧ ¬ (255 : Int32) < c2) (m2 : ¬ c2 = 47) (hsl : c1 = 47) (Ab : Arv Z h0 b kb .byte 3 [(.int c0.toInt8.toInt32), (.int c1.toInt8.toInt32), (.int c2.toInt8.toInt32)] dv) :
    own_Met l Z (⟨"java/lang/StringLatin1", "lastIndexOf", "([BII)I"⟩ : MethodName) jdk_43_method_27_code 4 (some .int) own_r_lia #[(.ref b), (.int 47), (.int 2)] h0 (own_Qv (some (.int (1))) h0 n0) := by
  refine own_body (by decide +kernel) ?_
  intro p e s m below meth c T0 X0 hx hZ hby hml hown hnm hret hlk e0
  have N0 := Fr.nil n0
  refine own_cast (own_frame (L := [rv b, iv 47, iv 2]) (ls := #[rv b, iv 47, iv 2, .unset]) rfl rfl) ?_
  refine og_iloadN X0 hx (hb hby d13_0) rfl ?_
  refine own_callS X0 hx hZ hown (own_hw hw 66 rfl) (own_hw hw 67 rfl) (own_hw hw 64 rfl) (own_hw hw 68 rfl) (by decide) (argsL := [(.int 47)]) (rest := []) (own_ce47 l Z a0 hw h0 n0) e0 (by rw [hml]; rfl) (lenOf own_pd97859 rfl) rfl (hb hby d13_1) (W := 0) (Nat.le_of_eq rfl) (by decide) ?_
  intro v1 T1 L1 X1 q1
  obtain ⟨rfl, N1q, e1⟩ := q1
  have N1 := Fr.app N0 N1q
  show own_Go p e below _ T1 (mkF m 4 #[rv b, iv 47, iv 2, .unset] [(.int 1)])
  refine og_ifY X1 hx 9 (hb hby d13_4) (feq (by decide)).2 (by decide) (by decide) ?_
  refine og_iloadN X1 hx (hb hby d13_9) rfl ?_
  refine og_aloadN X1 hx (hb hby d13_10) rfl rfl ?_
  refine own_len X1 hx hZ e1 Ab (hb hby d13_11) ?_
  show own_Go p e below _ T1 (mkF m 12 #[rv b, iv 47, iv 2, .unset] [(.int 3), (.int 2)])
  refine og_iconst X1 hx (hb hby d13_12) ?_
  refine og_isub X1 hx (hb hby d13_13) ?_
  show own_Go p e below _ T1 (mkF m 14 #[rv b, iv 47, iv 2, .unset] [(.int 2), (.int 2)])
  refine own_callS X1 hx hZ hown (own_hw hw 69 rfl) (own_hw hw 70 rfl) (own_hw hw 71 rfl) (own_hw hw 72 rfl) (by decide) (argsL := [(.int 2), (.int 2)]) (rest := []) (own_min_2_2 l Z a0 hw h0 n0) e1 (by rw [hml]; rfl) (lenOf own_pd23903 rfl) rfl (hb hby d13_14) (W := 0) (Nat.le_of_eq rfl) (by decide) ?_
  intro v2 T2 L2 X2 q2
  obtain ⟨rfl, N2q, e2⟩ := q2
  have N2 := Fr.app N1 N2q
  show own_Go p e below _ T2 (mkF m 17 #[rv b, iv 47, iv 2, .unset] [(.int 2)])
  refine og_istoreN X2 hx #[rv b, iv 47, iv 2, iv 2] (hb hby d13_17) rfl ?_
  refine og_iloadN X2 hx (hb hby d13_18) rfl ?_
  refine og_ifN X2 hx (hb hby d13_19) (flt (by decide)).1 ?_
  refine og_aloadN X2 hx (hb hby d13_22) rfl rfl ?_
  refine og_iloadN X2 hx (hb hby d13_23) rfl ?_
  refine own_ldB X2 hx hZ e2 Ab ⟨by decide, by decide⟩ rfl (hb hby d13_24) ?_
  show own_Go p e below _ T2 (mkF m 25 #[rv b, iv 47, iv 2, iv 2] [(.int c2.toInt8.toInt32)])
  refine og_iloadN X2 hx (hb hby d13_25) rfl ?_
  refine own_go (fun t k => XS.i2b X2.here hx rfl (hb hby d13_26) rfl k) ?_
  show own_Go p e below _ T2 (mkF m 27 #[rv b, iv 47, iv 2, iv 2] [(.int 47), (.int c2.toInt8.toInt32)])
  refine og_icY X2 hx 32 (hb hby d13_27) (feq (fun q => m2 (own_b47 _ hc2 q))).2 (by decide) (by decide) ?_
  refine own_go (fun t k => XS.iinc X2.here hx rfl (hb hby d13_32) rfl (l' := #[rv b, iv 47, iv 2, iv 1]) rfl k) ?_
  show own_Go p e below _ T2 (mkF m 35 #[rv b, iv 47, iv 2, iv 1] [])
  refine og_goto X2 hx 18 (hb hby d13_35) (by decide) (by decide) ?_
  refine og_iloadN X2 hx (hb hby d13_18) rfl ?_
  refine og_ifN X2 hx (hb hby d13_19) (flt (by decide)).1 ?_
  refine og_aloadN X2 hx (hb hby d13_22) rfl rfl ?_
  refine og_iloadN X2 hx (hb hby d13_23) rfl ?_
  refine own_ldB X2 hx hZ e2 Ab ⟨by decide, by decide⟩ rfl (hb hby d13_24) ?_
  show own_Go p e below _ T2 (mkF m 25 #[rv b, iv 47, iv 2, iv 1] [(.int c1.toInt8.toInt32)])
  refine og_iloadN X2 hx (hb hby d13_25) rfl ?_
  refine own_go (fun t k => XS.i2b X2.here hx rfl (hb hby d13_26) rfl k) ?_
  show own_Go p e below _ T2 (mkF m 27 #[rv b, iv 47, iv 2, iv 1] [(.int 47), (.int c1.toInt8.toInt32)])
  refine og_icN X2 hx (hb hby d13_27) (teq (by rw [hsl]; rfl)).2 ?_
  refine og_iloadN X2 hx (hb hby d13_30) rfl ?_
  exact own_retI X2 hx hret hlk (hb hby d13_31) rfl (by simp) (by decide) (by decide) (⟨rfl, N2, e2⟩)
def own_r_own_min_3_1 : Room := { frames := 0, cells := 0, slots := 0, locals := 0 }
theorem own_min_3_1 (l : Launch) (Z : State) (a0 : Array Value) (hw : own_W a0 Z)  (h0 : Heap) (n0 : Nat)  :
    own_Met l Z (⟨"java/lang/Math", "min", "(II)I"⟩ : MethodName) jdk_29_method_69_code 2 (some .int) own_r_own_min_3_1 #[(.int 3), (.int 1)] h0 (own_Qv (some (.int (1))) h0 n0) := by
  refine own_body (by decide +kernel) ?_
  intro p e s m below meth c T0 X0 hx hZ hby hml hown hnm hret hlk e0
  have N0 := Fr.nil n0
  refine own_cast (own_frame (L := [iv 3, iv 1]) (ls := #[iv 3, iv 1]) rfl rfl) ?_
  refine og_iloadN X0 hx (hb hby d15_0) rfl ?_
  refine og_iloadN X0 hx (hb hby d15_1) rfl ?_
  refine og_icY X0 hx 9 (hb hby d15_2) (tlt (by decide)).2.2.1 (by decide) (by decide) ?_
  refine og_iloadN X0 hx (hb hby d15_9) rfl ?_
  exact own_retI X0 hx hret hlk (hb hby d15_10) rfl (by simp) (by decide) (by decide) (⟨rfl, N0, e0⟩)
def own_Qr_0_1_3 (Z : State) (h0 : Heap) (n0 : Nat) (v0 v1 v2 : Value) (v : Option Value) (h : Heap) (L : List Loc) : Prop := ∃ (b : Addr) (k : ClassId), v = some (.ref b) ∧ Fr n0 L ∧ Keep h0 h [] ∧ h0.size ≤ b ∧ n0 ≤ b ∧ Arv Z h b k .byte 1 [v0] (.int (0 : Int32))
def own_r_own_crb_0_1_3 : Room := { frames := 1, cells := 1, slots := 1, locals := 18 }
theorem own_crb_0_1_3 (l : Launch) (Z : State) (a0 : Array Value) (hw : own_W a0 Z) (b : Addr) (kb : ClassId) (dv : Value) (v0 v1 v2 : Value) (h0 : Heap) (n0 : Nat) (hO : Old Z n0 h0) (Ab : Arv Z h0 b kb .byte 3 [v0, v1, v2] dv) :
    own_Met l Z (⟨"java/util/Arrays", "copyOfRangeByte", "([BII)[B"⟩ : MethodName) jdk_65_method_133_code 5 (some (.array .byte)) own_r_own_crb_0_1_3 #[(.ref b), (.int 0), (.int 1)] h0 (own_Qr_0_1_3 Z h0 n0 v0 v1 v2) := by
  refine own_body (by decide +kernel) ?_
  intro p e s m below meth c T0 X0 hx hZ hby hml hown hnm hret hlk e0
  have N0 := Fr.nil n0
  refine own_cast (own_frame (L := [rv b, iv 0, iv 1]) (ls := #[rv b, iv 0, iv 1, .unset, .unset]) rfl rfl) ?_
  refine og_iloadN X0 hx (hb hby d25_0) rfl ?_
  refine og_iloadN X0 hx (hb hby d25_1) rfl ?_
  refine own_callS X0 hx hZ hown (own_hw hw 113 rfl) (own_hw hw 114 rfl) (own_hw hw 108 rfl) (own_hw hw 115 rfl) (by decide) (argsL := [(.int 0), (.int 1)]) (rest := []) (own_ckl_0_1 l Z a0 hw h0 n0) e0 (by rw [hml]; rfl) (lenOf own_pd97226 rfl) rfl (hb hby d25_2) (W := 0) (Nat.le_of_eq rfl) (by decide) ?_
  intro v1 T1 L1 X1 q1
  obtain ⟨rfl, N1q, e1⟩ := q1
  have N1 := Fr.app N0 N1q
  show own_Go p e below _ T1 (mkF m 5 #[rv b, iv 0, iv 1, .unset, .unset] [])
  refine og_iloadN X1 hx (hb hby d25_5) rfl ?_
  refine og_iloadN X1 hx (hb hby d25_6) rfl ?_
  refine og_isub X1 hx (hb hby d25_7) ?_
  refine og_istoreN X1 hx #[rv b, iv 0, iv 1, iv 1, .unset] (hb hby d25_8) rfl ?_
  refine og_iloadN X1 hx (hb hby d25_9) rfl ?_
  refine own_newP X1 hx hZ (own_hw hw 22 rfl) e1 (hb hby d25_10) (by decide) 1 (by decide) (by decide) (by decide) (by decide) ?_
  intro T2 h2 k2 b2 g2 X2 e2 E2 A2
  have ne_b_b2 : b ≠ b2 := Nat.ne_of_lt (Nat.lt_of_lt_of_eq Ab.lt g2.symm)
  have ge_b2 : n0 ≤ b2 := Nat.le_trans (own_oldle hO) (Nat.le_of_eq g2.symm)
  have sz_b2 : h0.size ≤ b2 := Nat.le_trans (Keep.refl h0 []).1 (Nat.le_of_eq g2.symm)
  have A_b_2 := Ab.ext E2
  have O2 := hO.ext E2
  have K2 := (Keep.refl h0 []).ext E2
  have A_b2_2 : Arv Z h2 b2 k2 .byte 1 [(.int (0 : Int32))] (.int (0 : Int32)) := A2
  show own_Go p e below _ T2 (mkF m 12 #[rv b, iv 0, iv 1, iv 1, .unset] [(.ref b2)])
  refine og_astore X2 hx #[rv b, iv 0, iv 1, iv 1, rv b2] (hb hby d25_12) rfl rfl ?_
  refine og_aloadN X2 hx (hb hby d25_14) rfl rfl ?_
  refine og_iloadN X2 hx (hb hby d25_15) rfl ?_
  refine og_aload X2 hx (hb hby d25_16) rfl rfl ?_
  refine og_iconst X2 hx (hb hby d25_18) ?_
  refine og_aloadN X2 hx (hb hby d25_19) rfl rfl ?_
  refine own_len X2 hx hZ e2 A_b_2 (hb hby d25_20) ?_
  show own_Go p e below _ T2 (mkF m 21 #[rv b, iv 0, iv 1, iv 1, rv b2] [(.int 3), (.int 0), (.ref b2), (.int 0), (.ref b)])
  refine og_iloadN X2 hx (hb hby d25_21) rfl ?_
  refine og_isub X2 hx (hb hby d25_22) ?_
  refine og_iloadN X2 hx (hb hby d25_23) rfl ?_
  refine own_callS X2 hx hZ hown (own_hw hw 116 rfl) (own_hw hw 70 rfl) (own_hw hw 71 rfl) (own_hw hw 72 rfl) (by decide) (argsL := [(.int 3), (.int 1)]) (rest := [(.int 0), (.ref b2), (.int 0), (.ref b)]) (own_min_3_1 l Z a0 hw h2 n0) e2 (by rw [hml]; rfl) (lenOf own_pd23903 rfl) rfl (hb hby d25_24) (W := 4) (Nat.le_of_eq rfl) (by decide) ?_
  intro v3 T3 L3 X3 q3
  obtain ⟨rfl, N3q, e3⟩ := q3
  have N3 := Fr.app N1 N3q
  show own_Go p e below _ T3 (mkF m 27 #[rv b, iv 0, iv 1, iv 1, rv b2] [(.int 1), (.int 0), (.ref b2), (.int 0), (.ref b)])
  obtain ⟨T4, h4, L4, X4, e4, N4, K4q, A4, st4⟩ := cpA X3 hx hZ hown (own_hw hw 117 rfl) (own_hw hw 120 rfl) (own_hw hw 118 rfl) (own_hw hw 119 rfl) e3 A_b_2 A_b2_2 (us := [v0]) (Or.inl ⟨rfl, rfl⟩) (by decide) (by decide) (by decide) (by decide) (by decide) rfl (by decide) N3 ge_b2 (g := (mkF m 27 #[rv b, iv 0, iv 1, iv 1, rv b2] [(.int 1), (.int 0), (.ref b2), (.int 0), (.ref b)])) rfl (by rw [hml]; rfl) rfl (hb hby d25_27) (by decide) (W := 0) (by show 2 * 0 + _ ≤ _; exact Nat.le_of_eq rfl) (by decide)
  refine own_go st4 ?_
  have A_b_4 := A_b_2.keep K4q (ninS ne_b_b2 nin0)
  have O4 := O2.keep K4q (allS ge_b2 all0)
  have K4 := K2.trans K4q (allS (Or.inr sz_b2) all0)
  have A_b2_4 : Arv Z h4 b2 k2 .byte 1 [v0] (.int (0 : Int32)) := A4
  show own_Go p e below _ T4 (mkF m 30 #[rv b, iv 0, iv 1, iv 1, rv b2] [])
  refine og_aload X4 hx (hb hby d25_30) rfl rfl ?_
  exact own_retA X4 hx hret hlk (hb hby d25_32) rfl rfl (by decide) (by decide) (by rw [e4]; exact ⟨b2, _, rfl, N4, K4, sz_b2, ge_b2, A_b2_4⟩)
def own_r_own_cr_0_1_3 : Room := { frames := 2, cells := 1, slots := 1, locals := 34 }
theorem own_cr_0_1_3 (l : Launch) (Z : State) (a0 : Array Value) (hw : own_W a0 Z) (b : Addr) (kb : ClassId) (dv : Value) (v0 v1 v2 : Value) (h0 : Heap) (n0 : Nat) (hO : Old Z n0 h0) (Ab : Arv Z h0 b kb .byte 3 [v0, v1, v2] dv) :
    own_Met l Z (⟨"java/util/Arrays", "copyOfRange", "([BII)[B"⟩ : MethodName) jdk_65_method_132_code 3 (some (.array .byte)) own_r_own_cr_0_1_3 #[(.ref b), (.int 0), (.int 1)] h0 (own_Qr_0_1_3 Z h0 n0 v0 v1 v2) := by
  refine own_body (by decide +kernel) ?_
  intro p e s m below meth c T0 X0 hx hZ hby hml hown hnm hret hlk e0
  have N0 := Fr.nil n0
  refine own_cast (own_frame (L := [rv b, iv 0, iv 1]) (ls := #[rv b, iv 0, iv 1]) rfl rfl) ?_
  refine og_iloadN X0 hx (hb hby d24_0) rfl ?_
  refine og_ifN X0 hx (hb hby d24_1) (teq rfl).2 ?_
  refine og_iloadN X0 hx (hb hby d24_4) rfl ?_
  refine og_aloadN X0 hx (hb hby d24_5) rfl rfl ?_
  refine own_len X0 hx hZ e0 Ab (hb hby d24_6) ?_
  show own_Go p e below _ T0 (mkF m 7 #[rv b, iv 0, iv 1] [(.int 3), (.int 1)])
  refine og_icN X0 hx (hb hby d24_7) (feq (by decide)).1 ?_
  refine og_aloadN X0 hx (hb hby d24_10) rfl rfl ?_
  refine og_iloadN X0 hx (hb hby d24_11) rfl ?_
  refine og_iloadN X0 hx (hb hby d24_12) rfl ?_
  refine own_callS X0 hx hZ hown (own_hw hw 110 rfl) (own_hw hw 111 rfl) (own_hw hw 108 rfl) (own_hw hw 112 rfl) (by decide) (argsL := [(.ref b), (.int 0), (.int 1)]) (rest := []) (own_crb_0_1_3 l Z a0 hw b _ _ v0 v1 v2 h0 n0 hO Ab) e0 (by rw [hml]; rfl) (lenOf own_pd77155 rfl) rfl (hb hby d24_13) (W := 0) (Nat.le_of_eq rfl) (by decide) ?_
  intro v1 T1 L1 X1 q1
  obtain ⟨b1, k1, rfl, N1q, K1q, z1q, g1q, A1q⟩ := q1
  have N1 := Fr.app N0 N1q
  have ne_b_b1 : b ≠ b1 := Nat.ne_of_lt (Nat.lt_of_lt_of_le Ab.lt z1q)
  have sz_b1 : h0.size ≤ b1 := Nat.le_trans (Keep.refl h0 []).1 z1q
  have A_b_1 := Ab.keep K1q nin0
  have O1 := hO.keep K1q all0
  have K1 := (Keep.refl h0 []).trans K1q all0
  show own_Go p e below _ T1 (mkF m 16 #[rv b, iv 0, iv 1] [(.ref b1)])
  exact own_retA X1 hx hret hlk (hb hby d24_16) rfl rfl (by decide) (by decide) (⟨b1, _, rfl, N1, K1, sz_b1, g1q, A1q⟩)
def own_r_own_ns_0_1_3 : Room := { frames := 3, cells := 2, slots := 5, locals := 50 }
theorem own_ns_0_1_3 (l : Launch) (Z : State) (a0 : Array Value) (hw : own_W a0 Z) (b : Addr) (kb : ClassId) (dv : Value) (v0 v1 v2 : Value) (h0 : Heap) (n0 : Nat) (hO : Old Z n0 h0) (Ab : Arv Z h0 b kb .byte 3 [v0, v1, v2] dv) :
    own_Met l Z (⟨"java/lang/StringLatin1", "newString", "([BII)Ljava/lang/String;"⟩ : MethodName) jdk_43_method_47_code 3 (some (.object "java/lang/String")) own_r_own_ns_0_1_3 #[(.ref b), (.int 0), (.int 1)] h0 (own_Qs1 Z h0 n0 v0) := by
  refine own_body (by decide +kernel) ?_
  intro p e s m below meth c T0 X0 hx hZ hby hml hown hnm hret hlk e0
  have N0 := Fr.nil n0
  refine own_cast (own_frame (L := [rv b, iv 0, iv 1]) (ls := #[rv b, iv 0, iv 1]) rfl rfl) ?_
  refine og_iloadN X0 hx (hb hby d23_0) rfl ?_
  refine og_ifY X0 hx 7 (hb hby d23_1) (feq (by decide)).2 (by decide) (by decide) ?_
  refine own_newO X0 hx hZ hown (own_hw hw 105 rfl) (own_hw hw 8 rfl) (own_hw hw 9 rfl) e0 (hb hby d23_7) (by decide) (by decide) ?_
  intro T1 h1 b1 g1 X1 e1 E1 A1 D1
  have ne_b_b1 : b ≠ b1 := Nat.ne_of_lt (Nat.lt_of_lt_of_eq Ab.lt g1.symm)
  have ge_b1 : n0 ≤ b1 := Nat.le_trans (own_oldle hO) (Nat.le_of_eq g1.symm)
  have sz_b1 : h0.size ≤ b1 := Nat.le_trans (Keep.refl h0 []).1 (Nat.le_of_eq g1.symm)
  have A_b_1 := Ab.ext E1
  have O1 := hO.ext E1
  have K1 := (Keep.refl h0 []).ext E1
  have F_b1_value_1 : Fld Z h1 b1 "java/lang/String" "value" "[B" .null := D1 (Or.inr (own_hw hw 23 rfl)) (ty := (.array .byte)) (by decide)
  have F_b1_coder_1 : Fld Z h1 b1 "java/lang/String" "coder" "B" (.int 0) := D1 (Or.inr (own_hw hw 24 rfl)) (ty := .byte) (by decide)
  show own_Go p e below _ T1 (mkF m 10 #[rv b, iv 0, iv 1] [(.ref b1)])
  refine og_dup X1 hx (hb hby d23_10) rfl ?_
  refine og_aloadN X1 hx (hb hby d23_11) rfl rfl ?_
  refine og_iloadN X1 hx (hb hby d23_12) rfl ?_
  refine og_iloadN X1 hx (hb hby d23_13) rfl ?_
  refine og_iloadN X1 hx (hb hby d23_14) rfl ?_
  refine og_iadd X1 hx (hb hby d23_15) ?_
  show own_Go p e below _ T1 (mkF m 16 #[rv b, iv 0, iv 1] [(.int 1), (.int 0), (.ref b), (.ref b1), (.ref b1)])
  refine own_callS X1 hx hZ hown (own_hw hw 106 rfl) (own_hw hw 107 rfl) (own_hw hw 108 rfl) (own_hw hw 109 rfl) (by decide) (argsL := [(.ref b), (.int 0), (.int 1)]) (rest := [(.ref b1), (.ref b1)]) (own_cr_0_1_3 l Z a0 hw b _ _ v0 v1 v2 h1 n0 O1 A_b_1) e1 (by rw [hml]; rfl) (lenOf own_pd77155 rfl) rfl (hb hby d23_16) (W := 2) (Nat.le_of_eq rfl) (by decide) ?_
  intro v2 T2 L2 X2 q2
  obtain ⟨b2, k2, rfl, N2q, K2q, z2q, g2q, A2q⟩ := q2
  have N2 := Fr.app N0 N2q
  have ne_b_b2 : b ≠ b2 := Nat.ne_of_lt (Nat.lt_of_lt_of_le A_b_1.lt z2q)
  have ne_b1_b2 : b1 ≠ b2 := Nat.ne_of_lt (Nat.lt_of_lt_of_le A1.lt z2q)
  have sz_b2 : h0.size ≤ b2 := Nat.le_trans K1.1 z2q
  have A_b_2 := A_b_1.keep K2q nin0
  have E_b1_2 := A1.keep K2q
  have F_b1_value_2 := F_b1_value_1.keep K2q nin0
  have F_b1_coder_2 := F_b1_coder_1.keep K2q nin0
  have O2 := O1.keep K2q all0
  have K2 := K1.trans K2q all0
  show own_Go p e below _ T2 (mkF m 19 #[rv b, iv 0, iv 1] [(.ref b2), (.ref b1), (.ref b1)])
  refine og_iconst X2 hx (hb hby d23_19) ?_
  refine own_callN X2 hx hZ hown (own_hw hw 121 rfl) (own_hw hw 122 rfl) (own_hw hw 123 rfl) (own_hw hw 9 rfl) (by decide) rfl (b := b1) (argsL := [(.ref b2), (.int 0)]) (rest := [(.ref b1)]) (own_si l Z a0 hw b1 b2 _ _ T2.heap n0 O2 ge_b1 E_b1_2 F_b1_value_2 F_b1_coder_2) rfl (by rw [hml]; rfl) (lenOf own_pd58512 rfl) rfl (hb hby d23_20) (W := 1) (Nat.le_of_eq rfl) (by decide) ?_
  intro v3 T3 L3 X3 q3
  obtain ⟨rfl, N3q, K3q, Fv3, Fc3⟩ := q3
  have N3 := Fr.app N2 N3q
  have A_b_3 := A_b_2.keep K3q (ninS ne_b_b1 nin0)
  have E_b1_3 := E_b1_2.keep K3q
  have A_b2_3 := A2q.keep K3q (ninS (Ne.symm ne_b1_b2) nin0)
  have O3 := O2.keep K3q (allS ge_b1 all0)
  have K3 := K2.trans K3q (allS (Or.inr sz_b1) all0)
  show own_Go p e below _ T3 (mkF m 23 #[rv b, iv 0, iv 1] [(.ref b1)])
  exact own_retA X3 hx hret hlk (hb hby d23_23) rfl rfl (by decide) (by decide) (⟨b1, b2, _, rfl, N3, K3, sz_b1, ge_b1, sz_b2, g2q, ne_b1_b2, E_b1_3, Fv3, Fc3, A_b2_3⟩)
def own_r_own_po_3_1 : Room := { frames := 5, cells := 2, slots := 5, locals := 80 }
theorem own_po_3_1 (l : Launch) (Z : State) (a0 : Array Value) (hw : own_W a0 Z) (z : Int32) (sf : Value) (t b : Addr) (kb : ClassId) (dv : Value) (c0 c1 c2 : Int32) (h0 : Heap) (n0 : Nat) (hO : Old Z n0 h0) (hG : own_Gs Z z sf) (hc2 : ¬ c2 < 0 ∧ ¬ (255 : Int32) < c2) (m2 : ¬ c2 = 47) (hsl : c1 = 47) (Et : own_E Z h0 t) (Fv : own_V Z h0 t b) (Fc : own_C Z h0 t) (Ab : Arv Z h0 b kb .byte 3 [(.int c0.toInt8.toInt32), (.int c1.toInt8.toInt32), (.int c2.toInt8.toInt32)] dv) :
    own_Met l Z (⟨"com/example/svazek/svazek/PackageFolder", "placeOf", "(Ljava/lang/String;)Ljava/lang/String;"⟩ : MethodName) prog_41_method_7_code 2 (some (.object "java/lang/String")) own_r_own_po_3_1 #[(.ref t)] h0 (own_Qs1 Z h0 n0 (.int c0.toInt8.toInt32)) := by
  refine own_body (by decide +kernel) ?_
  intro p e s m below meth c T0 X0 hx hZ hby hml hown hnm hret hlk e0
  have N0 := Fr.nil n0
  refine own_cast (own_frame (L := [rv t]) (ls := #[rv t, .unset]) rfl rfl) ?_
  obtain ⟨SC, hz, SF, rf⟩ := id hG
  refine og_aloadN X0 hx (hb hby d7_0) rfl rfl ?_
  refine og_bipush X0 hx (hb hby d7_1) ?_
  refine own_callV X0 hx hZ hown (own_hw hw 36 rfl) (own_hw hw 37 rfl) (notFace_of_selects (args := #[]) (mvT hZ (own_hw hw 39 rfl))) (own_hw hw 39 rfl) (own_hw hw 38 rfl) (own_hw hw 40 rfl) (own_hw hw 9 rfl) (by decide) (b := t) (argsL := [(.int 47)]) (rest := []) (own_lic_3 l Z a0 hw z sf t b _ _ c0 c1 c2 (1) h0 n0 hO hG (own_lia_3_1 l Z a0 hw b _ _ c0 c1 c2 h0 n0 hc2 m2 hsl Ab) Et Fv Fc Ab) e0 Et (by rw [hml]; rfl) (lenOf own_pd49053 rfl) rfl (hb hby d7_3) (W := 0) (Nat.le_of_eq rfl) (by decide) ?_
  intro v1 T1 L1 X1 q1
  obtain ⟨rfl, N1q, e1⟩ := q1
  have N1 := Fr.app N0 N1q
  show own_Go p e below _ T1 (mkF m 6 #[rv t, .unset] [(.int 1)])
  refine og_istoreN X1 hx #[rv t, iv 1] (hb hby d7_6) rfl ?_
  refine og_iloadN X1 hx (hb hby d7_7) rfl ?_
  refine og_ifY X1 hx 16 (hb hby d7_8) (flt (by decide)).2.1 (by decide) (by decide) ?_
  refine og_aloadN X1 hx (hb hby d7_16) rfl rfl ?_
  refine og_iconst X1 hx (hb hby d7_17) ?_
  refine og_iloadN X1 hx (hb hby d7_18) rfl ?_
  refine own_callV X1 hx hZ hown (own_hw hw 89 rfl) (own_hw hw 90 rfl) (notFace_of_selects (args := #[]) (mvT hZ (own_hw hw 92 rfl))) (own_hw hw 92 rfl) (own_hw hw 91 rfl) (own_hw hw 93 rfl) (own_hw hw 9 rfl) (by decide) (b := t) (argsL := [(.int 0), (.int 1)]) (rest := []) (own_subNz1 l Z a0 hw z sf t b _ _ _ _ 1 (.int c0.toInt8.toInt32) h0 n0 hO hG (by decide) (by decide) (by decide) (own_ns_0_1_3 l Z a0 hw b _ _ (.int c0.toInt8.toInt32) (.int c1.toInt8.toInt32) (.int c2.toInt8.toInt32) h0 n0 hO Ab) Et Fv Fc Ab) e1 Et (by rw [hml]; rfl) (lenOf own_pd41291 rfl) rfl (hb hby d7_19) (W := 0) (Nat.le_of_eq rfl) (by decide) ?_
  intro v2 T2 L2 X2 q2
  obtain ⟨t2, vb2, k2, rfl, N2q, K2q, zt2, gt2, zb2, gb2, ne_t2_vb2, Et2, Ft2, Ct2, At2⟩ := q2
  have N2 := Fr.app N1 N2q
  have ne_b_t2 : b ≠ t2 := Nat.ne_of_lt (Nat.lt_of_lt_of_le Ab.lt zt2)
  have ne_t_t2 : t ≠ t2 := Nat.ne_of_lt (Nat.lt_of_lt_of_le Et.lt zt2)
  have sz_t2 : h0.size ≤ t2 := Nat.le_trans (Keep.refl h0 []).1 zt2
  have ne_b_vb2 : b ≠ vb2 := Nat.ne_of_lt (Nat.lt_of_lt_of_le Ab.lt zb2)
  have ne_t_vb2 : t ≠ vb2 := Nat.ne_of_lt (Nat.lt_of_lt_of_le Et.lt zb2)
  have sz_vb2 : h0.size ≤ vb2 := Nat.le_trans (Keep.refl h0 []).1 zb2
  have E_t_2 := Et.keep K2q
  have F_t_value_2 := Fv.keep K2q nin0
  have F_t_coder_2 := Fc.keep K2q nin0
  have A_b_2 := Ab.keep K2q nin0
  have O2 := hO.keep K2q all0
  have K2 := (Keep.refl h0 []).trans K2q all0
  show own_Go p e below _ T2 (mkF m 22 #[rv t, iv 1] [(.ref t2)])
  exact own_retA X2 hx hret hlk (hb hby d7_22) rfl rfl (by decide) (by decide) (⟨t2, vb2, _, rfl, N2, K2, sz_t2, gt2, sz_vb2, gb2, ne_t2_vb2, Et2, Ft2, Ct2, At2⟩)
theorem d6_25 : decode method_5_code 25 = .ok (.iconst 2, 1) := by decide +kernel
theorem d6_26 : decode method_5_code 26 = .ok (.ireturn, 1) := by decide +kernel
def own_r_own_ls_3_2 : Room := { frames := 0, cells := 0, slots := 0, locals := 0 }
theorem own_ls_3_2 (l : Launch) (Z : State) (a0 : Array Value) (hw : own_W a0 Z) (c0 c1 c2 c3 : Int32) (h0 : Heap) (n0 : Nat)  (hsl : c2 = 47) :
    own_Met l Z (⟨"com/example/svazek/svazek/PackageFolderPlaceOfPinLaw", "lastSlash", "(ICCCC)I"⟩ : MethodName) method_5_code 5 (some .int) own_r_own_ls_3_2 #[(.int 3), (.int c0), (.int c1), (.int c2), (.int c3)] h0 (own_Qv (some (.int (2))) h0 n0) := by
  refine own_body (by decide +kernel) ?_
  intro p e s m below meth c T0 X0 hx hZ hby hml hown hnm hret hlk e0
  have N0 := Fr.nil n0
  refine own_cast (own_frame (L := [iv 3, iv c0, iv c1, iv c2, iv c3]) (ls := #[iv 3, iv c0, iv c1, iv c2, iv c3]) rfl rfl) ?_
  refine og_iloadN X0 hx (hb hby d6_0) rfl ?_
  refine og_iconst X0 hx (hb hby d6_1) ?_
  refine og_icY X0 hx 14 (hb hby d6_2) (flt (by decide)).2.2.2 (by decide) (by decide) ?_
  refine og_iloadN X0 hx (hb hby d6_14) rfl ?_
  refine og_iconst X0 hx (hb hby d6_15) ?_
  refine og_icN X0 hx (hb hby d6_16) (tlt (by decide)).2.2.2 ?_
  refine og_iloadN X0 hx (hb hby d6_19) rfl ?_
  refine og_bipush X0 hx (hb hby d6_20) ?_
  refine og_icN X0 hx (hb hby d6_22) (teq hsl).2 ?_
  refine og_iconst X0 hx (hb hby d6_25) ?_
  exact own_retI X0 hx hret hlk (hb hby d6_26) rfl (by simp) (by decide) (by decide) (⟨rfl, N0, e0⟩)
theorem own_lia_3_2 (l : Launch) (Z : State) (a0 : Array Value) (hw : own_W a0 Z) (b : Addr) (kb : ClassId) (dv : Value) (c0 c1 c2 : Int32) (h0 : Heap) (n0 : Nat)  (hsl : c2 = 47) (Ab : Arv Z h0 b kb .byte 3 [(.int c0.toInt8.toInt32), (.int c1.toInt8.toInt32), (.int c2.toInt8.toInt32)] dv) :
    own_Met l Z (⟨"java/lang/StringLatin1", "lastIndexOf", "([BII)I"⟩ : MethodName) jdk_43_method_27_code 4 (some .int) own_r_lia #[(.ref b), (.int 47), (.int 2)] h0 (own_Qv (some (.int (2))) h0 n0) := by
  refine own_body (by decide +kernel) ?_
  intro p e s m below meth c T0 X0 hx hZ hby hml hown hnm hret hlk e0
  have N0 := Fr.nil n0
  refine own_cast (own_frame (L := [rv b, iv 47, iv 2]) (ls := #[rv b, iv 47, iv 2, .unset]) rfl rfl) ?_
  refine og_iloadN X0 hx (hb hby d13_0) rfl ?_
  refine own_callS X0 hx hZ hown (own_hw hw 66 rfl) (own_hw hw 67 rfl) (own_hw hw 64 rfl) (own_hw hw 68 rfl) (by decide) (argsL := [(.int 47)]) (rest := []) (own_ce47 l Z a0 hw h0 n0) e0 (by rw [hml]; rfl) (lenOf own_pd97859 rfl) rfl (hb hby d13_1) (W := 0) (Nat.le_of_eq rfl) (by decide) ?_
  intro v1 T1 L1 X1 q1
  obtain ⟨rfl, N1q, e1⟩ := q1
  have N1 := Fr.app N0 N1q
  show own_Go p e below _ T1 (mkF m 4 #[rv b, iv 47, iv 2, .unset] [(.int 1)])
  refine og_ifY X1 hx 9 (hb hby d13_4) (feq (by decide)).2 (by decide) (by decide) ?_
  refine og_iloadN X1 hx (hb hby d13_9) rfl ?_
  refine og_aloadN X1 hx (hb hby d13_10) rfl rfl ?_
  refine own_len X1 hx hZ e1 Ab (hb hby d13_11) ?_
  show own_Go p e below _ T1 (mkF m 12 #[rv b, iv 47, iv 2, .unset] [(.int 3), (.int 2)])
  refine og_iconst X1 hx (hb hby d13_12) ?_
  refine og_isub X1 hx (hb hby d13_13) ?_
  show own_Go p e below _ T1 (mkF m 14 #[rv b, iv 47, iv 2, .unset] [(.int 2), (.int 2)])
  refine own_callS X1 hx hZ hown (own_hw hw 69 rfl) (own_hw hw 70 rfl) (own_hw hw 71 rfl) (own_hw hw 72 rfl) (by decide) (argsL := [(.int 2), (.int 2)]) (rest := []) (own_min_2_2 l Z a0 hw h0 n0) e1 (by rw [hml]; rfl) (lenOf own_pd23903 rfl) rfl (hb hby d13_14) (W := 0) (Nat.le_of_eq rfl) (by decide) ?_
  intro v2 T2 L2 X2 q2
  obtain ⟨rfl, N2q, e2⟩ := q2
  have N2 := Fr.app N1 N2q
  show own_Go p e below _ T2 (mkF m 17 #[rv b, iv 47, iv 2, .unset] [(.int 2)])
  refine og_istoreN X2 hx #[rv b, iv 47, iv 2, iv 2] (hb hby d13_17) rfl ?_
  refine og_iloadN X2 hx (hb hby d13_18) rfl ?_
  refine og_ifN X2 hx (hb hby d13_19) (flt (by decide)).1 ?_
  refine og_aloadN X2 hx (hb hby d13_22) rfl rfl ?_
  refine og_iloadN X2 hx (hb hby d13_23) rfl ?_
  refine own_ldB X2 hx hZ e2 Ab ⟨by decide, by decide⟩ rfl (hb hby d13_24) ?_
  show own_Go p e below _ T2 (mkF m 25 #[rv b, iv 47, iv 2, iv 2] [(.int c2.toInt8.toInt32)])
  refine og_iloadN X2 hx (hb hby d13_25) rfl ?_
  refine own_go (fun t k => XS.i2b X2.here hx rfl (hb hby d13_26) rfl k) ?_
  show own_Go p e below _ T2 (mkF m 27 #[rv b, iv 47, iv 2, iv 2] [(.int 47), (.int c2.toInt8.toInt32)])
  refine og_icN X2 hx (hb hby d13_27) (teq (by rw [hsl]; rfl)).2 ?_
  refine og_iloadN X2 hx (hb hby d13_30) rfl ?_
  exact own_retI X2 hx hret hlk (hb hby d13_31) rfl (by simp) (by decide) (by decide) (⟨rfl, N2, e2⟩)
def own_r_own_ckl_0_2 : Room := { frames := 0, cells := 0, slots := 0, locals := 0 }
theorem own_ckl_0_2 (l : Launch) (Z : State) (a0 : Array Value) (hw : own_W a0 Z)  (h0 : Heap) (n0 : Nat)  :
    own_Met l Z (⟨"java/util/Arrays", "checkLength", "(II)V"⟩ : MethodName) jdk_65_method_131_code 2 none own_r_own_ckl_0_2 #[(.int 0), (.int 2)] h0 (own_Qv none h0 n0) := by
  refine own_body (by decide +kernel) ?_
  intro p e s m below meth c T0 X0 hx hZ hby hml hown hnm hret hlk e0
  have N0 := Fr.nil n0
  refine own_cast (own_frame (L := [iv 0, iv 2]) (ls := #[iv 0, iv 2]) rfl rfl) ?_
  refine og_iloadN X0 hx (hb hby d26_0) rfl ?_
  refine og_iloadN X0 hx (hb hby d26_1) rfl ?_
  refine og_icY X0 hx 37 (hb hby d26_2) (flt (by decide)).2.1 (by decide) (by decide) ?_
  exact own_retV X0 hx hret hlk (hb hby d26_37) (by decide) (by decide) (⟨rfl, N0, e0⟩)
def own_r_own_min_3_2 : Room := { frames := 0, cells := 0, slots := 0, locals := 0 }
theorem own_min_3_2 (l : Launch) (Z : State) (a0 : Array Value) (hw : own_W a0 Z)  (h0 : Heap) (n0 : Nat)  :
    own_Met l Z (⟨"java/lang/Math", "min", "(II)I"⟩ : MethodName) jdk_29_method_69_code 2 (some .int) own_r_own_min_3_2 #[(.int 3), (.int 2)] h0 (own_Qv (some (.int (2))) h0 n0) := by
  refine own_body (by decide +kernel) ?_
  intro p e s m below meth c T0 X0 hx hZ hby hml hown hnm hret hlk e0
  have N0 := Fr.nil n0
  refine own_cast (own_frame (L := [iv 3, iv 2]) (ls := #[iv 3, iv 2]) rfl rfl) ?_
  refine og_iloadN X0 hx (hb hby d15_0) rfl ?_
  refine og_iloadN X0 hx (hb hby d15_1) rfl ?_
  refine og_icY X0 hx 9 (hb hby d15_2) (tlt (by decide)).2.2.1 (by decide) (by decide) ?_
  refine og_iloadN X0 hx (hb hby d15_9) rfl ?_
  exact own_retI X0 hx hret hlk (hb hby d15_10) rfl (by simp) (by decide) (by decide) (⟨rfl, N0, e0⟩)
def own_Qr_0_2_3 (Z : State) (h0 : Heap) (n0 : Nat) (v0 v1 v2 : Value) (v : Option Value) (h : Heap) (L : List Loc) : Prop := ∃ (b : Addr) (k : ClassId), v = some (.ref b) ∧ Fr n0 L ∧ Keep h0 h [] ∧ h0.size ≤ b ∧ n0 ≤ b ∧ Arv Z h b k .byte 2 [v0, v1] (.int (0 : Int32))
def own_r_own_crb_0_2_3 : Room := { frames := 1, cells := 1, slots := 2, locals := 18 }
theorem own_crb_0_2_3 (l : Launch) (Z : State) (a0 : Array Value) (hw : own_W a0 Z) (b : Addr) (kb : ClassId) (dv : Value) (v0 v1 v2 : Value) (h0 : Heap) (n0 : Nat) (hO : Old Z n0 h0) (Ab : Arv Z h0 b kb .byte 3 [v0, v1, v2] dv) :
    own_Met l Z (⟨"java/util/Arrays", "copyOfRangeByte", "([BII)[B"⟩ : MethodName) jdk_65_method_133_code 5 (some (.array .byte)) own_r_own_crb_0_2_3 #[(.ref b), (.int 0), (.int 2)] h0 (own_Qr_0_2_3 Z h0 n0 v0 v1 v2) := by
  refine own_body (by decide +kernel) ?_
  intro p e s m below meth c T0 X0 hx hZ hby hml hown hnm hret hlk e0
  have N0 := Fr.nil n0
  refine own_cast (own_frame (L := [rv b, iv 0, iv 2]) (ls := #[rv b, iv 0, iv 2, .unset, .unset]) rfl rfl) ?_
  refine og_iloadN X0 hx (hb hby d25_0) rfl ?_
  refine og_iloadN X0 hx (hb hby d25_1) rfl ?_
  refine own_callS X0 hx hZ hown (own_hw hw 113 rfl) (own_hw hw 114 rfl) (own_hw hw 108 rfl) (own_hw hw 115 rfl) (by decide) (argsL := [(.int 0), (.int 2)]) (rest := []) (own_ckl_0_2 l Z a0 hw h0 n0) e0 (by rw [hml]; rfl) (lenOf own_pd97226 rfl) rfl (hb hby d25_2) (W := 0) (Nat.le_of_eq rfl) (by decide) ?_
  intro v1 T1 L1 X1 q1
  obtain ⟨rfl, N1q, e1⟩ := q1
  have N1 := Fr.app N0 N1q
  show own_Go p e below _ T1 (mkF m 5 #[rv b, iv 0, iv 2, .unset, .unset] [])
  refine og_iloadN X1 hx (hb hby d25_5) rfl ?_
  refine og_iloadN X1 hx (hb hby d25_6) rfl ?_
  refine og_isub X1 hx (hb hby d25_7) ?_
  refine og_istoreN X1 hx #[rv b, iv 0, iv 2, iv 2, .unset] (hb hby d25_8) rfl ?_
  refine og_iloadN X1 hx (hb hby d25_9) rfl ?_
  refine own_newP X1 hx hZ (own_hw hw 22 rfl) e1 (hb hby d25_10) (by decide) 2 (by decide) (by decide) (by decide) (by decide) ?_
  intro T2 h2 k2 b2 g2 X2 e2 E2 A2
  have ne_b_b2 : b ≠ b2 := Nat.ne_of_lt (Nat.lt_of_lt_of_eq Ab.lt g2.symm)
  have ge_b2 : n0 ≤ b2 := Nat.le_trans (own_oldle hO) (Nat.le_of_eq g2.symm)
  have sz_b2 : h0.size ≤ b2 := Nat.le_trans (Keep.refl h0 []).1 (Nat.le_of_eq g2.symm)
  have A_b_2 := Ab.ext E2
  have O2 := hO.ext E2
  have K2 := (Keep.refl h0 []).ext E2
  have A_b2_2 : Arv Z h2 b2 k2 .byte 2 [(.int (0 : Int32)), (.int (0 : Int32))] (.int (0 : Int32)) := A2
  show own_Go p e below _ T2 (mkF m 12 #[rv b, iv 0, iv 2, iv 2, .unset] [(.ref b2)])
  refine og_astore X2 hx #[rv b, iv 0, iv 2, iv 2, rv b2] (hb hby d25_12) rfl rfl ?_
  refine og_aloadN X2 hx (hb hby d25_14) rfl rfl ?_
  refine og_iloadN X2 hx (hb hby d25_15) rfl ?_
  refine og_aload X2 hx (hb hby d25_16) rfl rfl ?_
  refine og_iconst X2 hx (hb hby d25_18) ?_
  refine og_aloadN X2 hx (hb hby d25_19) rfl rfl ?_
  refine own_len X2 hx hZ e2 A_b_2 (hb hby d25_20) ?_
  show own_Go p e below _ T2 (mkF m 21 #[rv b, iv 0, iv 2, iv 2, rv b2] [(.int 3), (.int 0), (.ref b2), (.int 0), (.ref b)])
  refine og_iloadN X2 hx (hb hby d25_21) rfl ?_
  refine og_isub X2 hx (hb hby d25_22) ?_
  refine og_iloadN X2 hx (hb hby d25_23) rfl ?_
  refine own_callS X2 hx hZ hown (own_hw hw 116 rfl) (own_hw hw 70 rfl) (own_hw hw 71 rfl) (own_hw hw 72 rfl) (by decide) (argsL := [(.int 3), (.int 2)]) (rest := [(.int 0), (.ref b2), (.int 0), (.ref b)]) (own_min_3_2 l Z a0 hw h2 n0) e2 (by rw [hml]; rfl) (lenOf own_pd23903 rfl) rfl (hb hby d25_24) (W := 4) (Nat.le_of_eq rfl) (by decide) ?_
  intro v3 T3 L3 X3 q3
  obtain ⟨rfl, N3q, e3⟩ := q3
  have N3 := Fr.app N1 N3q
  show own_Go p e below _ T3 (mkF m 27 #[rv b, iv 0, iv 2, iv 2, rv b2] [(.int 2), (.int 0), (.ref b2), (.int 0), (.ref b)])
  obtain ⟨T4, h4, L4, X4, e4, N4, K4q, A4, st4⟩ := cpA X3 hx hZ hown (own_hw hw 117 rfl) (own_hw hw 120 rfl) (own_hw hw 118 rfl) (own_hw hw 119 rfl) e3 A_b_2 A_b2_2 (us := [v0, v1]) (Or.inl ⟨rfl, rfl⟩) (by decide) (by decide) (by decide) (by decide) (by decide) rfl (by decide) N3 ge_b2 (g := (mkF m 27 #[rv b, iv 0, iv 2, iv 2, rv b2] [(.int 2), (.int 0), (.ref b2), (.int 0), (.ref b)])) rfl (by rw [hml]; rfl) rfl (hb hby d25_27) (by decide) (W := 0) (by show 2 * 0 + _ ≤ _; exact Nat.le_of_eq rfl) (by decide)
  refine own_go st4 ?_
  have A_b_4 := A_b_2.keep K4q (ninS ne_b_b2 nin0)
  have O4 := O2.keep K4q (allS ge_b2 all0)
  have K4 := K2.trans K4q (allS (Or.inr sz_b2) all0)
  have A_b2_4 : Arv Z h4 b2 k2 .byte 2 [v0, v1] (.int (0 : Int32)) := A4
  show own_Go p e below _ T4 (mkF m 30 #[rv b, iv 0, iv 2, iv 2, rv b2] [])
  refine og_aload X4 hx (hb hby d25_30) rfl rfl ?_
  exact own_retA X4 hx hret hlk (hb hby d25_32) rfl rfl (by decide) (by decide) (by rw [e4]; exact ⟨b2, _, rfl, N4, K4, sz_b2, ge_b2, A_b2_4⟩)
def own_r_own_cr_0_2_3 : Room := { frames := 2, cells := 1, slots := 2, locals := 34 }
theorem own_cr_0_2_3 (l : Launch) (Z : State) (a0 : Array Value) (hw : own_W a0 Z) (b : Addr) (kb : ClassId) (dv : Value) (v0 v1 v2 : Value) (h0 : Heap) (n0 : Nat) (hO : Old Z n0 h0) (Ab : Arv Z h0 b kb .byte 3 [v0, v1, v2] dv) :
    own_Met l Z (⟨"java/util/Arrays", "copyOfRange", "([BII)[B"⟩ : MethodName) jdk_65_method_132_code 3 (some (.array .byte)) own_r_own_cr_0_2_3 #[(.ref b), (.int 0), (.int 2)] h0 (own_Qr_0_2_3 Z h0 n0 v0 v1 v2) := by
  refine own_body (by decide +kernel) ?_
  intro p e s m below meth c T0 X0 hx hZ hby hml hown hnm hret hlk e0
  have N0 := Fr.nil n0
  refine own_cast (own_frame (L := [rv b, iv 0, iv 2]) (ls := #[rv b, iv 0, iv 2]) rfl rfl) ?_
  refine og_iloadN X0 hx (hb hby d24_0) rfl ?_
  refine og_ifN X0 hx (hb hby d24_1) (teq rfl).2 ?_
  refine og_iloadN X0 hx (hb hby d24_4) rfl ?_
  refine og_aloadN X0 hx (hb hby d24_5) rfl rfl ?_
  refine own_len X0 hx hZ e0 Ab (hb hby d24_6) ?_
  show own_Go p e below _ T0 (mkF m 7 #[rv b, iv 0, iv 2] [(.int 3), (.int 2)])
  refine og_icN X0 hx (hb hby d24_7) (feq (by decide)).1 ?_
  refine og_aloadN X0 hx (hb hby d24_10) rfl rfl ?_
  refine og_iloadN X0 hx (hb hby d24_11) rfl ?_
  refine og_iloadN X0 hx (hb hby d24_12) rfl ?_
  refine own_callS X0 hx hZ hown (own_hw hw 110 rfl) (own_hw hw 111 rfl) (own_hw hw 108 rfl) (own_hw hw 112 rfl) (by decide) (argsL := [(.ref b), (.int 0), (.int 2)]) (rest := []) (own_crb_0_2_3 l Z a0 hw b _ _ v0 v1 v2 h0 n0 hO Ab) e0 (by rw [hml]; rfl) (lenOf own_pd77155 rfl) rfl (hb hby d24_13) (W := 0) (Nat.le_of_eq rfl) (by decide) ?_
  intro v1 T1 L1 X1 q1
  obtain ⟨b1, k1, rfl, N1q, K1q, z1q, g1q, A1q⟩ := q1
  have N1 := Fr.app N0 N1q
  have ne_b_b1 : b ≠ b1 := Nat.ne_of_lt (Nat.lt_of_lt_of_le Ab.lt z1q)
  have sz_b1 : h0.size ≤ b1 := Nat.le_trans (Keep.refl h0 []).1 z1q
  have A_b_1 := Ab.keep K1q nin0
  have O1 := hO.keep K1q all0
  have K1 := (Keep.refl h0 []).trans K1q all0
  show own_Go p e below _ T1 (mkF m 16 #[rv b, iv 0, iv 2] [(.ref b1)])
  exact own_retA X1 hx hret hlk (hb hby d24_16) rfl rfl (by decide) (by decide) (⟨b1, _, rfl, N1, K1, sz_b1, g1q, A1q⟩)
def own_r_own_ns_0_2_3 : Room := { frames := 3, cells := 2, slots := 6, locals := 50 }
theorem own_ns_0_2_3 (l : Launch) (Z : State) (a0 : Array Value) (hw : own_W a0 Z) (b : Addr) (kb : ClassId) (dv : Value) (v0 v1 v2 : Value) (h0 : Heap) (n0 : Nat) (hO : Old Z n0 h0) (Ab : Arv Z h0 b kb .byte 3 [v0, v1, v2] dv) :
    own_Met l Z (⟨"java/lang/StringLatin1", "newString", "([BII)Ljava/lang/String;"⟩ : MethodName) jdk_43_method_47_code 3 (some (.object "java/lang/String")) own_r_own_ns_0_2_3 #[(.ref b), (.int 0), (.int 2)] h0 (own_Qs2 Z h0 n0 v0 v1) := by
  refine own_body (by decide +kernel) ?_
  intro p e s m below meth c T0 X0 hx hZ hby hml hown hnm hret hlk e0
  have N0 := Fr.nil n0
  refine own_cast (own_frame (L := [rv b, iv 0, iv 2]) (ls := #[rv b, iv 0, iv 2]) rfl rfl) ?_
  refine og_iloadN X0 hx (hb hby d23_0) rfl ?_
  refine og_ifY X0 hx 7 (hb hby d23_1) (feq (by decide)).2 (by decide) (by decide) ?_
  refine own_newO X0 hx hZ hown (own_hw hw 105 rfl) (own_hw hw 8 rfl) (own_hw hw 9 rfl) e0 (hb hby d23_7) (by decide) (by decide) ?_
  intro T1 h1 b1 g1 X1 e1 E1 A1 D1
  have ne_b_b1 : b ≠ b1 := Nat.ne_of_lt (Nat.lt_of_lt_of_eq Ab.lt g1.symm)
  have ge_b1 : n0 ≤ b1 := Nat.le_trans (own_oldle hO) (Nat.le_of_eq g1.symm)
  have sz_b1 : h0.size ≤ b1 := Nat.le_trans (Keep.refl h0 []).1 (Nat.le_of_eq g1.symm)
  have A_b_1 := Ab.ext E1
  have O1 := hO.ext E1
  have K1 := (Keep.refl h0 []).ext E1
  have F_b1_value_1 : Fld Z h1 b1 "java/lang/String" "value" "[B" .null := D1 (Or.inr (own_hw hw 23 rfl)) (ty := (.array .byte)) (by decide)
  have F_b1_coder_1 : Fld Z h1 b1 "java/lang/String" "coder" "B" (.int 0) := D1 (Or.inr (own_hw hw 24 rfl)) (ty := .byte) (by decide)
  show own_Go p e below _ T1 (mkF m 10 #[rv b, iv 0, iv 2] [(.ref b1)])
  refine og_dup X1 hx (hb hby d23_10) rfl ?_
  refine og_aloadN X1 hx (hb hby d23_11) rfl rfl ?_
  refine og_iloadN X1 hx (hb hby d23_12) rfl ?_
  refine og_iloadN X1 hx (hb hby d23_13) rfl ?_
  refine og_iloadN X1 hx (hb hby d23_14) rfl ?_
  refine og_iadd X1 hx (hb hby d23_15) ?_
  show own_Go p e below _ T1 (mkF m 16 #[rv b, iv 0, iv 2] [(.int 2), (.int 0), (.ref b), (.ref b1), (.ref b1)])
  refine own_callS X1 hx hZ hown (own_hw hw 106 rfl) (own_hw hw 107 rfl) (own_hw hw 108 rfl) (own_hw hw 109 rfl) (by decide) (argsL := [(.ref b), (.int 0), (.int 2)]) (rest := [(.ref b1), (.ref b1)]) (own_cr_0_2_3 l Z a0 hw b _ _ v0 v1 v2 h1 n0 O1 A_b_1) e1 (by rw [hml]; rfl) (lenOf own_pd77155 rfl) rfl (hb hby d23_16) (W := 2) (Nat.le_of_eq rfl) (by decide) ?_
  intro v2 T2 L2 X2 q2
  obtain ⟨b2, k2, rfl, N2q, K2q, z2q, g2q, A2q⟩ := q2
  have N2 := Fr.app N0 N2q
  have ne_b_b2 : b ≠ b2 := Nat.ne_of_lt (Nat.lt_of_lt_of_le A_b_1.lt z2q)
  have ne_b1_b2 : b1 ≠ b2 := Nat.ne_of_lt (Nat.lt_of_lt_of_le A1.lt z2q)
  have sz_b2 : h0.size ≤ b2 := Nat.le_trans K1.1 z2q
  have A_b_2 := A_b_1.keep K2q nin0
  have E_b1_2 := A1.keep K2q
  have F_b1_value_2 := F_b1_value_1.keep K2q nin0
  have F_b1_coder_2 := F_b1_coder_1.keep K2q nin0
  have O2 := O1.keep K2q all0
  have K2 := K1.trans K2q all0
  show own_Go p e below _ T2 (mkF m 19 #[rv b, iv 0, iv 2] [(.ref b2), (.ref b1), (.ref b1)])
  refine og_iconst X2 hx (hb hby d23_19) ?_
  refine own_callN X2 hx hZ hown (own_hw hw 121 rfl) (own_hw hw 122 rfl) (own_hw hw 123 rfl) (own_hw hw 9 rfl) (by decide) rfl (b := b1) (argsL := [(.ref b2), (.int 0)]) (rest := [(.ref b1)]) (own_si l Z a0 hw b1 b2 _ _ T2.heap n0 O2 ge_b1 E_b1_2 F_b1_value_2 F_b1_coder_2) rfl (by rw [hml]; rfl) (lenOf own_pd58512 rfl) rfl (hb hby d23_20) (W := 1) (Nat.le_of_eq rfl) (by decide) ?_
  intro v3 T3 L3 X3 q3
  obtain ⟨rfl, N3q, K3q, Fv3, Fc3⟩ := q3
  have N3 := Fr.app N2 N3q
  have A_b_3 := A_b_2.keep K3q (ninS ne_b_b1 nin0)
  have E_b1_3 := E_b1_2.keep K3q
  have A_b2_3 := A2q.keep K3q (ninS (Ne.symm ne_b1_b2) nin0)
  have O3 := O2.keep K3q (allS ge_b1 all0)
  have K3 := K2.trans K3q (allS (Or.inr sz_b1) all0)
  show own_Go p e below _ T3 (mkF m 23 #[rv b, iv 0, iv 2] [(.ref b1)])
  exact own_retA X3 hx hret hlk (hb hby d23_23) rfl rfl (by decide) (by decide) (⟨b1, b2, _, rfl, N3, K3, sz_b1, ge_b1, sz_b2, g2q, ne_b1_b2, E_b1_3, Fv3, Fc3, A_b2_3⟩)
def own_r_own_subNz2 : Room := { frames := 4, cells := 2, slots := 6, locals := 64 }
theorem own_subNz2 (l : Launch) (Z : State) (a0 : Array Value) (hw : own_W a0 Z) (z : Int32) (sf : Value) (t b : Addr) (kb : ClassId) (dv : Value) (n : Int32) (vs : List Value) (hi : Int32) (w0 w1 : Value) (h0 : Heap) (n0 : Nat) (hO : Old Z n0 h0) (hG : own_Gs Z z sf) (h2 : ¬ hi < 0) (h3 : ¬ n < hi) (hx0 : ¬ hi = n) (inn : own_Met l Z (⟨"java/lang/StringLatin1", "newString", "([BII)Ljava/lang/String;"⟩ : MethodName) jdk_43_method_47_code 3 (some (.object "java/lang/String")) own_r_own_ns_0_2_3 #[.ref b, .int 0, .int (hi - 0)] h0 (own_Qs2 Z h0 n0 w0 w1)) (Et : own_E Z h0 t) (Fv : own_V Z h0 t b) (Fc : own_C Z h0 t) (Ab : Arv Z h0 b kb .byte n vs dv) :
    own_Met l Z (⟨"java/lang/String", "substring", "(II)Ljava/lang/String;"⟩ : MethodName) jdk_42_method_92_code 5 (some (.object "java/lang/String")) own_r_own_subNz2 #[(.ref t), (.int 0), (.int hi)] h0 (own_Qs2 Z h0 n0 w0 w1) := by
  refine own_body (by decide +kernel) ?_
  intro p e s m below meth c T0 X0 hx hZ hby hml hown hnm hret hlk e0
  have N0 := Fr.nil n0
  refine own_cast (own_frame (L := [rv t, iv 0, iv hi]) (ls := #[rv t, iv 0, iv hi, .unset, .unset]) rfl rfl) ?_
  obtain ⟨SC, hz, SF, rf⟩ := id hG
  refine og_aloadN X0 hx (hb hby d20_0) rfl rfl ?_
  refine own_callV X0 hx hZ hown (own_hw hw 41 rfl) (own_hw hw 42 rfl) (notFace_of_selects (args := #[]) (mvT hZ (own_hw hw 44 rfl))) (own_hw hw 44 rfl) (own_hw hw 43 rfl) (own_hw hw 45 rfl) (own_hw hw 9 rfl) (by decide) (b := t) (argsL := []) (rest := []) (own_slen l Z a0 hw z sf t b _ _ _ _ h0 n0 hO hG Et Fv Fc Ab) e0 Et (by rw [hml]; rfl) (lenOf own_pd13941 rfl) rfl (hb hby d20_1) (W := 0) (Nat.le_of_eq rfl) (by decide) ?_
  intro v1 T1 L1 X1 q1
  obtain ⟨rfl, N1q, e1⟩ := q1
  have N1 := Fr.app N0 N1q
  show own_Go p e below _ T1 (mkF m 4 #[rv t, iv 0, iv hi, .unset, .unset] [(.int n)])
  refine og_istoreN X1 hx #[rv t, iv 0, iv hi, iv n, .unset] (hb hby d20_4) rfl ?_
  refine og_iloadN X1 hx (hb hby d20_5) rfl ?_
  refine og_iloadN X1 hx (hb hby d20_6) rfl ?_
  refine og_iloadN X1 hx (hb hby d20_7) rfl ?_
  refine own_callS X1 hx hZ hown (own_hw hw 94 rfl) (own_hw hw 95 rfl) (own_hw hw 9 rfl) (own_hw hw 96 rfl) (by decide) (argsL := [(.int 0), (.int hi), (.int n)]) (rest := []) (own_cbb l Z a0 hw z sf 0 hi n h0 n0 hO hG (by decide) h2 h3) e1 (by rw [hml]; rfl) (lenOf own_pd73746 rfl) rfl (hb hby d20_8) (W := 0) (Nat.le_of_eq rfl) (by decide) ?_
  intro v2 T2 L2 X2 q2
  obtain ⟨rfl, N2q, e2⟩ := q2
  have N2 := Fr.app N1 N2q
  show own_Go p e below _ T2 (mkF m 11 #[rv t, iv 0, iv hi, iv n, .unset] [])
  refine og_iloadN X2 hx (hb hby d20_11) rfl ?_
  refine og_ifN X2 hx (hb hby d20_12) (teq rfl).2 ?_
  refine og_iloadN X2 hx (hb hby d20_15) rfl ?_
  refine og_iloadN X2 hx (hb hby d20_16) rfl ?_
  refine og_icY X2 hx 22 (hb hby d20_17) (feq hx0).2 (by decide) (by decide) ?_
  refine og_iloadN X2 hx (hb hby d20_22) rfl ?_
  refine og_iloadN X2 hx (hb hby d20_23) rfl ?_
  refine og_isub X2 hx (hb hby d20_24) ?_
  refine og_istore X2 hx #[rv t, iv 0, iv hi, iv n, iv (hi - 0)] (hb hby d20_25) rfl ?_
  refine og_aloadN X2 hx (hb hby d20_27) rfl rfl ?_
  refine own_callV X2 hx hZ hown (own_hw hw 57 rfl) (own_hw hw 58 rfl) (notFace_of_selects (args := #[]) (mvT hZ (own_hw hw 60 rfl))) (own_hw hw 60 rfl) (own_hw hw 59 rfl) (own_hw hw 61 rfl) (own_hw hw 9 rfl) (by decide) (b := t) (argsL := []) (rest := []) (own_isl1 l Z a0 hw z sf t h0 n0 hO hG Fc) e2 Et (by rw [hml]; rfl) (lenOf own_pd61835 rfl) rfl (hb hby d20_28) (W := 0) (Nat.le_of_eq rfl) (by decide) ?_
  intro v3 T3 L3 X3 q3
  obtain ⟨rfl, N3q, e3⟩ := q3
  have N3 := Fr.app N2 N3q
  show own_Go p e below _ T3 (mkF m 31 #[rv t, iv 0, iv hi, iv n, iv (hi - 0)] [(.int (1 : Int32))])
  refine og_ifN X3 hx (hb hby d20_31) (feq (by decide)).1 ?_
  refine og_aloadN X3 hx (hb hby d20_34) rfl rfl ?_
  refine og_getF X3 hx hZ hown (own_hw hw 27 rfl) Via.refl e3 Fv (hb hby d20_35) ?_
  intro T4 X4 e4
  refine og_iloadN X4 hx (hb hby d20_38) rfl ?_
  refine og_iload X4 hx (hb hby d20_39) rfl ?_
  refine own_callS X4 hx hZ hown (own_hw hw 102 rfl) (own_hw hw 103 rfl) (own_hw hw 64 rfl) (own_hw hw 104 rfl) (by decide) (argsL := [(.ref b), (.int 0), (.int (hi - 0))]) (rest := []) inn e4 (by rw [hml]; rfl) (lenOf own_pd78060 rfl) rfl (hb hby d20_41) (W := 0) (Nat.le_of_eq rfl) (by decide) ?_
  intro v5 T5 L5 X5 q5
  obtain ⟨t5, vb5, k5, rfl, N5q, K5q, zt5, gt5, zb5, gb5, ne_t5_vb5, Et5, Ft5, Ct5, At5⟩ := q5
  have N5 := Fr.app N3 N5q
  have ne_b_t5 : b ≠ t5 := Nat.ne_of_lt (Nat.lt_of_lt_of_le Ab.lt zt5)
  have ne_t_t5 : t ≠ t5 := Nat.ne_of_lt (Nat.lt_of_lt_of_le Et.lt zt5)
  have sz_t5 : h0.size ≤ t5 := Nat.le_trans (Keep.refl h0 []).1 zt5
  have ne_b_vb5 : b ≠ vb5 := Nat.ne_of_lt (Nat.lt_of_lt_of_le Ab.lt zb5)
  have ne_t_vb5 : t ≠ vb5 := Nat.ne_of_lt (Nat.lt_of_lt_of_le Et.lt zb5)
  have sz_vb5 : h0.size ≤ vb5 := Nat.le_trans (Keep.refl h0 []).1 zb5
  have E_t_5 := Et.keep K5q
  have F_t_value_5 := Fv.keep K5q nin0
  have F_t_coder_5 := Fc.keep K5q nin0
  have A_b_5 := Ab.keep K5q nin0
  have O5 := hO.keep K5q all0
  have K5 := (Keep.refl h0 []).trans K5q all0
  show own_Go p e below _ T5 (mkF m 44 #[rv t, iv 0, iv hi, iv n, iv (hi - 0)] [(.ref t5)])
  refine og_goto X5 hx 57 (hb hby d20_44) (by decide) (by decide) ?_
  exact own_retA X5 hx hret hlk (hb hby d20_57) rfl rfl (by decide) (by decide) (⟨t5, vb5, _, rfl, N5, K5, sz_t5, gt5, sz_vb5, gb5, ne_t5_vb5, Et5, Ft5, Ct5, At5⟩)
def own_r_own_po_3_2 : Room := { frames := 5, cells := 2, slots := 6, locals := 80 }
theorem own_po_3_2 (l : Launch) (Z : State) (a0 : Array Value) (hw : own_W a0 Z) (z : Int32) (sf : Value) (t b : Addr) (kb : ClassId) (dv : Value) (c0 c1 c2 : Int32) (h0 : Heap) (n0 : Nat) (hO : Old Z n0 h0) (hG : own_Gs Z z sf)  (hsl : c2 = 47) (Et : own_E Z h0 t) (Fv : own_V Z h0 t b) (Fc : own_C Z h0 t) (Ab : Arv Z h0 b kb .byte 3 [(.int c0.toInt8.toInt32), (.int c1.toInt8.toInt32), (.int c2.toInt8.toInt32)] dv) :
    own_Met l Z (⟨"com/example/svazek/svazek/PackageFolder", "placeOf", "(Ljava/lang/String;)Ljava/lang/String;"⟩ : MethodName) prog_41_method_7_code 2 (some (.object "java/lang/String")) own_r_own_po_3_2 #[(.ref t)] h0 (own_Qs2 Z h0 n0 (.int c0.toInt8.toInt32) (.int c1.toInt8.toInt32)) := by
  refine own_body (by decide +kernel) ?_
  intro p e s m below meth c T0 X0 hx hZ hby hml hown hnm hret hlk e0
  have N0 := Fr.nil n0
  refine own_cast (own_frame (L := [rv t]) (ls := #[rv t, .unset]) rfl rfl) ?_
  obtain ⟨SC, hz, SF, rf⟩ := id hG
  refine og_aloadN X0 hx (hb hby d7_0) rfl rfl ?_
  refine og_bipush X0 hx (hb hby d7_1) ?_
  refine own_callV X0 hx hZ hown (own_hw hw 36 rfl) (own_hw hw 37 rfl) (notFace_of_selects (args := #[]) (mvT hZ (own_hw hw 39 rfl))) (own_hw hw 39 rfl) (own_hw hw 38 rfl) (own_hw hw 40 rfl) (own_hw hw 9 rfl) (by decide) (b := t) (argsL := [(.int 47)]) (rest := []) (own_lic_3 l Z a0 hw z sf t b _ _ c0 c1 c2 (2) h0 n0 hO hG (own_lia_3_2 l Z a0 hw b _ _ c0 c1 c2 h0 n0 hsl Ab) Et Fv Fc Ab) e0 Et (by rw [hml]; rfl) (lenOf own_pd49053 rfl) rfl (hb hby d7_3) (W := 0) (Nat.le_of_eq rfl) (by decide) ?_
  intro v1 T1 L1 X1 q1
  obtain ⟨rfl, N1q, e1⟩ := q1
  have N1 := Fr.app N0 N1q
  show own_Go p e below _ T1 (mkF m 6 #[rv t, .unset] [(.int 2)])
  refine og_istoreN X1 hx #[rv t, iv 2] (hb hby d7_6) rfl ?_
  refine og_iloadN X1 hx (hb hby d7_7) rfl ?_
  refine og_ifY X1 hx 16 (hb hby d7_8) (flt (by decide)).2.1 (by decide) (by decide) ?_
  refine og_aloadN X1 hx (hb hby d7_16) rfl rfl ?_
  refine og_iconst X1 hx (hb hby d7_17) ?_
  refine og_iloadN X1 hx (hb hby d7_18) rfl ?_
  refine own_callV X1 hx hZ hown (own_hw hw 89 rfl) (own_hw hw 90 rfl) (notFace_of_selects (args := #[]) (mvT hZ (own_hw hw 92 rfl))) (own_hw hw 92 rfl) (own_hw hw 91 rfl) (own_hw hw 93 rfl) (own_hw hw 9 rfl) (by decide) (b := t) (argsL := [(.int 0), (.int 2)]) (rest := []) (own_subNz2 l Z a0 hw z sf t b _ _ _ _ 2 (.int c0.toInt8.toInt32) (.int c1.toInt8.toInt32) h0 n0 hO hG (by decide) (by decide) (by decide) (own_ns_0_2_3 l Z a0 hw b _ _ (.int c0.toInt8.toInt32) (.int c1.toInt8.toInt32) (.int c2.toInt8.toInt32) h0 n0 hO Ab) Et Fv Fc Ab) e1 Et (by rw [hml]; rfl) (lenOf own_pd41291 rfl) rfl (hb hby d7_19) (W := 0) (Nat.le_of_eq rfl) (by decide) ?_
  intro v2 T2 L2 X2 q2
  obtain ⟨t2, vb2, k2, rfl, N2q, K2q, zt2, gt2, zb2, gb2, ne_t2_vb2, Et2, Ft2, Ct2, At2⟩ := q2
  have N2 := Fr.app N1 N2q
  have ne_b_t2 : b ≠ t2 := Nat.ne_of_lt (Nat.lt_of_lt_of_le Ab.lt zt2)
  have ne_t_t2 : t ≠ t2 := Nat.ne_of_lt (Nat.lt_of_lt_of_le Et.lt zt2)
  have sz_t2 : h0.size ≤ t2 := Nat.le_trans (Keep.refl h0 []).1 zt2
  have ne_b_vb2 : b ≠ vb2 := Nat.ne_of_lt (Nat.lt_of_lt_of_le Ab.lt zb2)
  have ne_t_vb2 : t ≠ vb2 := Nat.ne_of_lt (Nat.lt_of_lt_of_le Et.lt zb2)
  have sz_vb2 : h0.size ≤ vb2 := Nat.le_trans (Keep.refl h0 []).1 zb2
  have E_t_2 := Et.keep K2q
  have F_t_value_2 := Fv.keep K2q nin0
  have F_t_coder_2 := Fc.keep K2q nin0
  have A_b_2 := Ab.keep K2q nin0
  have O2 := hO.keep K2q all0
  have K2 := (Keep.refl h0 []).trans K2q all0
  show own_Go p e below _ T2 (mkF m 22 #[rv t, iv 2] [(.ref t2)])
  exact own_retA X2 hx hret hlk (hb hby d7_22) rfl rfl (by decide) (by decide) (⟨t2, vb2, _, rfl, N2, K2, sz_t2, gt2, sz_vb2, gb2, ne_t2_vb2, Et2, Ft2, Ct2, At2⟩)
theorem d6_5 : decode method_5_code 5 = .ok (.iload 4, 2) := by decide +kernel
theorem d6_7 : decode method_5_code 7 = .ok (.bipush 47, 2) := by decide +kernel
theorem d6_9 : decode method_5_code 9 = .ok (.if_icmp .ne 5, 3) := by decide +kernel
def own_r_own_ls_4_m1 : Room := { frames := 0, cells := 0, slots := 0, locals := 0 }
theorem own_ls_4_m1 (l : Launch) (Z : State) (a0 : Array Value) (hw : own_W a0 Z) (c0 c1 c2 c3 : Int32) (h0 : Heap) (n0 : Nat) (m0 : ¬ c0 = 47) (m1 : ¬ c1 = 47) (m2 : ¬ c2 = 47) (m3 : ¬ c3 = 47) :
    own_Met l Z (⟨"com/example/svazek/svazek/PackageFolderPlaceOfPinLaw", "lastSlash", "(ICCCC)I"⟩ : MethodName) method_5_code 5 (some .int) own_r_own_ls_4_m1 #[(.int 4), (.int c0), (.int c1), (.int c2), (.int c3)] h0 (own_Qv (some (.int (-1))) h0 n0) := by
  refine own_body (by decide +kernel) ?_
  intro p e s m below meth c T0 X0 hx hZ hby hml hown hnm hret hlk e0
  have N0 := Fr.nil n0
  refine own_cast (own_frame (L := [iv 4, iv c0, iv c1, iv c2, iv c3]) (ls := #[iv 4, iv c0, iv c1, iv c2, iv c3]) rfl rfl) ?_
  refine og_iloadN X0 hx (hb hby d6_0) rfl ?_
  refine og_iconst X0 hx (hb hby d6_1) ?_
  refine og_icN X0 hx (hb hby d6_2) (tlt (by decide)).2.2.2 ?_
  refine og_iload X0 hx (hb hby d6_5) rfl ?_
  refine og_bipush X0 hx (hb hby d6_7) ?_
  refine og_icY X0 hx 14 (hb hby d6_9) (feq m3).2 (by decide) (by decide) ?_
  refine og_iloadN X0 hx (hb hby d6_14) rfl ?_
  refine og_iconst X0 hx (hb hby d6_15) ?_
  refine og_icN X0 hx (hb hby d6_16) (tlt (by decide)).2.2.2 ?_
  refine og_iloadN X0 hx (hb hby d6_19) rfl ?_
  refine og_bipush X0 hx (hb hby d6_20) ?_
  refine og_icY X0 hx 27 (hb hby d6_22) (feq m2).2 (by decide) (by decide) ?_
  refine og_iloadN X0 hx (hb hby d6_27) rfl ?_
  refine og_iconst X0 hx (hb hby d6_28) ?_
  refine og_icN X0 hx (hb hby d6_29) (tlt (by decide)).2.2.2 ?_
  refine og_iloadN X0 hx (hb hby d6_32) rfl ?_
  refine og_bipush X0 hx (hb hby d6_33) ?_
  refine og_icY X0 hx 40 (hb hby d6_35) (feq m1).2 (by decide) (by decide) ?_
  refine og_iloadN X0 hx (hb hby d6_40) rfl ?_
  refine og_ifN X0 hx (hb hby d6_41) (tlt (by decide)).2.2.2 ?_
  refine og_iloadN X0 hx (hb hby d6_44) rfl ?_
  refine og_bipush X0 hx (hb hby d6_45) ?_
  refine og_icY X0 hx 52 (hb hby d6_47) (feq m0).2 (by decide) (by decide) ?_
  refine og_iconst X0 hx (hb hby d6_52) ?_
  exact own_retI X0 hx hret hlk (hb hby d6_53) rfl (by simp) (by decide) (by decide) (⟨rfl, N0, e0⟩)
def own_r_own_min_3_3 : Room := { frames := 0, cells := 0, slots := 0, locals := 0 }
theorem own_min_3_3 (l : Launch) (Z : State) (a0 : Array Value) (hw : own_W a0 Z)  (h0 : Heap) (n0 : Nat)  :
    own_Met l Z (⟨"java/lang/Math", "min", "(II)I"⟩ : MethodName) jdk_29_method_69_code 2 (some .int) own_r_own_min_3_3 #[(.int 3), (.int 3)] h0 (own_Qv (some (.int (3))) h0 n0) := by
  refine own_body (by decide +kernel) ?_
  intro p e s m below meth c T0 X0 hx hZ hby hml hown hnm hret hlk e0
  have N0 := Fr.nil n0
  refine own_cast (own_frame (L := [iv 3, iv 3]) (ls := #[iv 3, iv 3]) rfl rfl) ?_
  refine og_iloadN X0 hx (hb hby d15_0) rfl ?_
  refine og_iloadN X0 hx (hb hby d15_1) rfl ?_
  refine og_icN X0 hx (hb hby d15_2) (flt (by decide)).2.2.1 ?_
  refine og_iloadN X0 hx (hb hby d15_5) rfl ?_
  refine og_goto X0 hx 10 (hb hby d15_6) (by decide) (by decide) ?_
  exact own_retI X0 hx hret hlk (hb hby d15_10) rfl (by simp) (by decide) (by decide) (⟨rfl, N0, e0⟩)
theorem own_lia_4_m1 (l : Launch) (Z : State) (a0 : Array Value) (hw : own_W a0 Z) (b : Addr) (kb : ClassId) (dv : Value) (c0 c1 c2 c3 : Int32) (h0 : Heap) (n0 : Nat) (hc0 : ¬ c0 < 0 ∧ ¬ (255 : Int32) < c0) (m0 : ¬ c0 = 47) (hc1 : ¬ c1 < 0 ∧ ¬ (255 : Int32) < c1) (m1 : ¬ c1 = 47) (hc2 : ¬ c2 < 0 ∧ ¬ (255 : Int32) < c2) (m2 : ¬ c2 = 47) (hc3 : ¬ c3 < 0 ∧ ¬ (255 : Int32) < c3) (m3 : ¬ c3 = 47) (Ab : Arv Z h0 b kb .byte 4 [(.int c0.toInt8.toInt32), (.int c1.toInt8.toInt32), (.int c2.toInt8.toInt32), (.int c3.toInt8.toInt32)] dv) :
    own_Met l Z (⟨"java/lang/StringLatin1", "lastIndexOf", "([BII)I"⟩ : MethodName) jdk_43_method_27_code 4 (some .int) own_r_lia #[(.ref b), (.int 47), (.int 3)] h0 (own_Qv (some (.int (-1))) h0 n0) := by
  refine own_body (by decide +kernel) ?_
  intro p e s m below meth c T0 X0 hx hZ hby hml hown hnm hret hlk e0
  have N0 := Fr.nil n0
  refine own_cast (own_frame (L := [rv b, iv 47, iv 3]) (ls := #[rv b, iv 47, iv 3, .unset]) rfl rfl) ?_
  refine og_iloadN X0 hx (hb hby d13_0) rfl ?_
  refine own_callS X0 hx hZ hown (own_hw hw 66 rfl) (own_hw hw 67 rfl) (own_hw hw 64 rfl) (own_hw hw 68 rfl) (by decide) (argsL := [(.int 47)]) (rest := []) (own_ce47 l Z a0 hw h0 n0) e0 (by rw [hml]; rfl) (lenOf own_pd97859 rfl) rfl (hb hby d13_1) (W := 0) (Nat.le_of_eq rfl) (by decide) ?_
  intro v1 T1 L1 X1 q1
  obtain ⟨rfl, N1q, e1⟩ := q1
  have N1 := Fr.app N0 N1q
  show own_Go p e below _ T1 (mkF m 4 #[rv b, iv 47, iv 3, .unset] [(.int 1)])
  refine og_ifY X1 hx 9 (hb hby d13_4) (feq (by decide)).2 (by decide) (by decide) ?_
  refine og_iloadN X1 hx (hb hby d13_9) rfl ?_
  refine og_aloadN X1 hx (hb hby d13_10) rfl rfl ?_
  refine own_len X1 hx hZ e1 Ab (hb hby d13_11) ?_
  show own_Go p e below _ T1 (mkF m 12 #[rv b, iv 47, iv 3, .unset] [(.int 4), (.int 3)])
  refine og_iconst X1 hx (hb hby d13_12) ?_
  refine og_isub X1 hx (hb hby d13_13) ?_
  show own_Go p e below _ T1 (mkF m 14 #[rv b, iv 47, iv 3, .unset] [(.int 3), (.int 3)])
  refine own_callS X1 hx hZ hown (own_hw hw 69 rfl) (own_hw hw 70 rfl) (own_hw hw 71 rfl) (own_hw hw 72 rfl) (by decide) (argsL := [(.int 3), (.int 3)]) (rest := []) (own_min_3_3 l Z a0 hw h0 n0) e1 (by rw [hml]; rfl) (lenOf own_pd23903 rfl) rfl (hb hby d13_14) (W := 0) (Nat.le_of_eq rfl) (by decide) ?_
  intro v2 T2 L2 X2 q2
  obtain ⟨rfl, N2q, e2⟩ := q2
  have N2 := Fr.app N1 N2q
  show own_Go p e below _ T2 (mkF m 17 #[rv b, iv 47, iv 3, .unset] [(.int 3)])
  refine og_istoreN X2 hx #[rv b, iv 47, iv 3, iv 3] (hb hby d13_17) rfl ?_
  refine og_iloadN X2 hx (hb hby d13_18) rfl ?_
  refine og_ifN X2 hx (hb hby d13_19) (flt (by decide)).1 ?_
  refine og_aloadN X2 hx (hb hby d13_22) rfl rfl ?_
  refine og_iloadN X2 hx (hb hby d13_23) rfl ?_
  refine own_ldB X2 hx hZ e2 Ab ⟨by decide, by decide⟩ rfl (hb hby d13_24) ?_
  show own_Go p e below _ T2 (mkF m 25 #[rv b, iv 47, iv 3, iv 3] [(.int c3.toInt8.toInt32)])
  refine og_iloadN X2 hx (hb hby d13_25) rfl ?_
  refine own_go (fun t k => XS.i2b X2.here hx rfl (hb hby d13_26) rfl k) ?_
  show own_Go p e below _ T2 (mkF m 27 #[rv b, iv 47, iv 3, iv 3] [(.int 47), (.int c3.toInt8.toInt32)])
  refine og_icY X2 hx 32 (hb hby d13_27) (feq (fun q => m3 (own_b47 _ hc3 q))).2 (by decide) (by decide) ?_
  refine own_go (fun t k => XS.iinc X2.here hx rfl (hb hby d13_32) rfl (l' := #[rv b, iv 47, iv 3, iv 2]) rfl k) ?_
  show own_Go p e below _ T2 (mkF m 35 #[rv b, iv 47, iv 3, iv 2] [])
  refine og_goto X2 hx 18 (hb hby d13_35) (by decide) (by decide) ?_
  refine og_iloadN X2 hx (hb hby d13_18) rfl ?_
  refine og_ifN X2 hx (hb hby d13_19) (flt (by decide)).1 ?_
  refine og_aloadN X2 hx (hb hby d13_22) rfl rfl ?_
  refine og_iloadN X2 hx (hb hby d13_23) rfl ?_
  refine own_ldB X2 hx hZ e2 Ab ⟨by decide, by decide⟩ rfl (hb hby d13_24) ?_
  show own_Go p e below _ T2 (mkF m 25 #[rv b, iv 47, iv 3, iv 2] [(.int c2.toInt8.toInt32)])
  refine og_iloadN X2 hx (hb hby d13_25) rfl ?_
  refine own_go (fun t k => XS.i2b X2.here hx rfl (hb hby d13_26) rfl k) ?_
  show own_Go p e below _ T2 (mkF m 27 #[rv b, iv 47, iv 3, iv 2] [(.int 47), (.int c2.toInt8.toInt32)])
  refine og_icY X2 hx 32 (hb hby d13_27) (feq (fun q => m2 (own_b47 _ hc2 q))).2 (by decide) (by decide) ?_
  refine own_go (fun t k => XS.iinc X2.here hx rfl (hb hby d13_32) rfl (l' := #[rv b, iv 47, iv 3, iv 1]) rfl k) ?_
  show own_Go p e below _ T2 (mkF m 35 #[rv b, iv 47, iv 3, iv 1] [])
  refine og_goto X2 hx 18 (hb hby d13_35) (by decide) (by decide) ?_
  refine og_iloadN X2 hx (hb hby d13_18) rfl ?_
  refine og_ifN X2 hx (hb hby d13_19) (flt (by decide)).1 ?_
  refine og_aloadN X2 hx (hb hby d13_22) rfl rfl ?_
  refine og_iloadN X2 hx (hb hby d13_23) rfl ?_
  refine own_ldB X2 hx hZ e2 Ab ⟨by decide, by decide⟩ rfl (hb hby d13_24) ?_
  show own_Go p e below _ T2 (mkF m 25 #[rv b, iv 47, iv 3, iv 1] [(.int c1.toInt8.toInt32)])
  refine og_iloadN X2 hx (hb hby d13_25) rfl ?_
  refine own_go (fun t k => XS.i2b X2.here hx rfl (hb hby d13_26) rfl k) ?_
  show own_Go p e below _ T2 (mkF m 27 #[rv b, iv 47, iv 3, iv 1] [(.int 47), (.int c1.toInt8.toInt32)])
  refine og_icY X2 hx 32 (hb hby d13_27) (feq (fun q => m1 (own_b47 _ hc1 q))).2 (by decide) (by decide) ?_
  refine own_go (fun t k => XS.iinc X2.here hx rfl (hb hby d13_32) rfl (l' := #[rv b, iv 47, iv 3, iv 0]) rfl k) ?_
  show own_Go p e below _ T2 (mkF m 35 #[rv b, iv 47, iv 3, iv 0] [])
  refine og_goto X2 hx 18 (hb hby d13_35) (by decide) (by decide) ?_
  refine og_iloadN X2 hx (hb hby d13_18) rfl ?_
  refine og_ifN X2 hx (hb hby d13_19) (flt (by decide)).1 ?_
  refine og_aloadN X2 hx (hb hby d13_22) rfl rfl ?_
  refine og_iloadN X2 hx (hb hby d13_23) rfl ?_
  refine own_ldB X2 hx hZ e2 Ab ⟨by decide, by decide⟩ rfl (hb hby d13_24) ?_
  show own_Go p e below _ T2 (mkF m 25 #[rv b, iv 47, iv 3, iv 0] [(.int c0.toInt8.toInt32)])
  refine og_iloadN X2 hx (hb hby d13_25) rfl ?_
  refine own_go (fun t k => XS.i2b X2.here hx rfl (hb hby d13_26) rfl k) ?_
  show own_Go p e below _ T2 (mkF m 27 #[rv b, iv 47, iv 3, iv 0] [(.int 47), (.int c0.toInt8.toInt32)])
  refine og_icY X2 hx 32 (hb hby d13_27) (feq (fun q => m0 (own_b47 _ hc0 q))).2 (by decide) (by decide) ?_
  refine own_go (fun t k => XS.iinc X2.here hx rfl (hb hby d13_32) rfl (l' := #[rv b, iv 47, iv 3, iv (-1)]) rfl k) ?_
  show own_Go p e below _ T2 (mkF m 35 #[rv b, iv 47, iv 3, iv (-1)] [])
  refine og_goto X2 hx 18 (hb hby d13_35) (by decide) (by decide) ?_
  refine og_iloadN X2 hx (hb hby d13_18) rfl ?_
  refine og_ifY X2 hx 38 (hb hby d13_19) (tlt (by decide)).1 (by decide) (by decide) ?_
  refine og_iconst X2 hx (hb hby d13_38) ?_
  exact own_retI X2 hx hret hlk (hb hby d13_39) rfl (by simp) (by decide) (by decide) (⟨rfl, N2, e2⟩)
def own_r_own_lib_4 : Room := { frames := 2, cells := 0, slots := 0, locals := 28 }
theorem own_lib_4 (l : Launch) (Z : State) (a0 : Array Value) (hw : own_W a0 Z) (z : Int32) (sf : Value) (t b : Addr) (kb : ClassId) (dv : Value) (c0 c1 c2 c3 : Int32) (r : Int32) (h0 : Heap) (n0 : Nat) (hO : Old Z n0 h0) (hG : own_Gs Z z sf) (inn : own_Met l Z (⟨"java/lang/StringLatin1", "lastIndexOf", "([BII)I"⟩ : MethodName) jdk_43_method_27_code 4 (some .int) own_r_lia #[.ref b, .int 47, .int 3] h0 (own_Qv (some (.int r)) h0 n0)) (Et : own_E Z h0 t) (Fv : own_V Z h0 t b) (Fc : own_C Z h0 t) (Ab : Arv Z h0 b kb .byte 4 [(.int c0.toInt8.toInt32), (.int c1.toInt8.toInt32), (.int c2.toInt8.toInt32), (.int c3.toInt8.toInt32)] dv) :
    own_Met l Z (⟨"java/lang/String", "lastIndexOf", "(II)I"⟩ : MethodName) jdk_42_method_83_code 3 (some .int) own_r_own_lib_4 #[(.ref t), (.int 47), (.int 3)] h0 (own_Qv (some (.int r)) h0 n0) := by
  refine own_body (by decide +kernel) ?_
  intro p e s m below meth c T0 X0 hx hZ hby hml hown hnm hret hlk e0
  have N0 := Fr.nil n0
  refine own_cast (own_frame (L := [rv t, iv 47, iv 3]) (ls := #[rv t, iv 47, iv 3]) rfl rfl) ?_
  obtain ⟨SC, hz, SF, rf⟩ := id hG
  refine og_aloadN X0 hx (hb hby d11_0) rfl rfl ?_
  refine own_callV X0 hx hZ hown (own_hw hw 57 rfl) (own_hw hw 58 rfl) (notFace_of_selects (args := #[]) (mvT hZ (own_hw hw 60 rfl))) (own_hw hw 60 rfl) (own_hw hw 59 rfl) (own_hw hw 61 rfl) (own_hw hw 9 rfl) (by decide) (b := t) (argsL := []) (rest := []) (own_isl1 l Z a0 hw z sf t h0 n0 hO hG Fc) e0 Et (by rw [hml]; rfl) (lenOf own_pd61835 rfl) rfl (hb hby d11_1) (W := 0) (Nat.le_of_eq rfl) (by decide) ?_
  intro v1 T1 L1 X1 q1
  obtain ⟨rfl, N1q, e1⟩ := q1
  have N1 := Fr.app N0 N1q
  show own_Go p e below _ T1 (mkF m 4 #[rv t, iv 47, iv 3] [(.int (1 : Int32))])
  refine og_ifN X1 hx (hb hby d11_4) (feq (by decide)).1 ?_
  refine og_aloadN X1 hx (hb hby d11_7) rfl rfl ?_
  refine og_getF X1 hx hZ hown (own_hw hw 27 rfl) Via.refl e1 Fv (hb hby d11_8) ?_
  intro T2 X2 e2
  refine og_iloadN X2 hx (hb hby d11_11) rfl ?_
  refine og_iloadN X2 hx (hb hby d11_12) rfl ?_
  refine own_callS X2 hx hZ hown (own_hw hw 62 rfl) (own_hw hw 63 rfl) (own_hw hw 64 rfl) (own_hw hw 65 rfl) (by decide) (argsL := [(.ref b), (.int 47), (.int 3)]) (rest := []) inn e2 (by rw [hml]; rfl) (lenOf own_pd83039 rfl) rfl (hb hby d11_13) (W := 0) (Nat.le_of_eq rfl) (by decide) ?_
  intro v3 T3 L3 X3 q3
  obtain ⟨rfl, N3q, e3⟩ := q3
  have N3 := Fr.app N1 N3q
  show own_Go p e below _ T3 (mkF m 16 #[rv t, iv 47, iv 3] [(.int r)])
  refine og_goto X3 hx 28 (hb hby d11_16) (by decide) (by decide) ?_
  exact own_retI X3 hx hret hlk (hb hby d11_28) rfl (by simp) (by decide) (by decide) (⟨rfl, N3, e3⟩)
def own_r_own_lic_4 : Room := { frames := 3, cells := 0, slots := 0, locals := 42 }
theorem own_lic_4 (l : Launch) (Z : State) (a0 : Array Value) (hw : own_W a0 Z) (z : Int32) (sf : Value) (t b : Addr) (kb : ClassId) (dv : Value) (c0 c1 c2 c3 : Int32) (r : Int32) (h0 : Heap) (n0 : Nat) (hO : Old Z n0 h0) (hG : own_Gs Z z sf) (inn : own_Met l Z (⟨"java/lang/StringLatin1", "lastIndexOf", "([BII)I"⟩ : MethodName) jdk_43_method_27_code 4 (some .int) own_r_lia #[.ref b, .int 47, .int 3] h0 (own_Qv (some (.int r)) h0 n0)) (Et : own_E Z h0 t) (Fv : own_V Z h0 t b) (Fc : own_C Z h0 t) (Ab : Arv Z h0 b kb .byte 4 [(.int c0.toInt8.toInt32), (.int c1.toInt8.toInt32), (.int c2.toInt8.toInt32), (.int c3.toInt8.toInt32)] dv) :
    own_Met l Z (⟨"java/lang/String", "lastIndexOf", "(I)I"⟩ : MethodName) jdk_42_method_82_code 2 (some .int) own_r_own_lic_4 #[(.ref t), (.int 47)] h0 (own_Qv (some (.int r)) h0 n0) := by
  refine own_body (by decide +kernel) ?_
  intro p e s m below meth c T0 X0 hx hZ hby hml hown hnm hret hlk e0
  have N0 := Fr.nil n0
  refine own_cast (own_frame (L := [rv t, iv 47]) (ls := #[rv t, iv 47]) rfl rfl) ?_
  obtain ⟨SC, hz, SF, rf⟩ := id hG
  refine og_aloadN X0 hx (hb hby d8_0) rfl rfl ?_
  refine og_iloadN X0 hx (hb hby d8_1) rfl ?_
  refine og_aloadN X0 hx (hb hby d8_2) rfl rfl ?_
  refine own_callV X0 hx hZ hown (own_hw hw 41 rfl) (own_hw hw 42 rfl) (notFace_of_selects (args := #[]) (mvT hZ (own_hw hw 44 rfl))) (own_hw hw 44 rfl) (own_hw hw 43 rfl) (own_hw hw 45 rfl) (own_hw hw 9 rfl) (by decide) (b := t) (argsL := []) (rest := [(.int 47), (.ref t)]) (own_slen l Z a0 hw z sf t b _ _ _ _ h0 n0 hO hG Et Fv Fc Ab) e0 Et (by rw [hml]; rfl) (lenOf own_pd13941 rfl) rfl (hb hby d8_3) (W := 2) (Nat.le_of_eq rfl) (by decide) ?_
  intro v1 T1 L1 X1 q1
  obtain ⟨rfl, N1q, e1⟩ := q1
  have N1 := Fr.app N0 N1q
  show own_Go p e below _ T1 (mkF m 6 #[rv t, iv 47] [(.int 4), (.int 47), (.ref t)])
  refine og_iconst X1 hx (hb hby d8_6) ?_
  refine og_isub X1 hx (hb hby d8_7) ?_
  show own_Go p e below _ T1 (mkF m 8 #[rv t, iv 47] [(.int 3), (.int 47), (.ref t)])
  refine own_callV X1 hx hZ hown (own_hw hw 52 rfl) (own_hw hw 53 rfl) (notFace_of_selects (args := #[]) (mvT hZ (own_hw hw 55 rfl))) (own_hw hw 55 rfl) (own_hw hw 54 rfl) (own_hw hw 56 rfl) (own_hw hw 9 rfl) (by decide) (b := t) (argsL := [(.int 47), (.int 3)]) (rest := []) (own_lib_4 l Z a0 hw z sf t b _ _ c0 c1 c2 c3 r h0 n0 hO hG inn Et Fv Fc Ab) e1 Et (by rw [hml]; rfl) (lenOf own_pd23903 rfl) rfl (hb hby d8_8) (W := 0) (Nat.le_of_eq rfl) (by decide) ?_
  intro v2 T2 L2 X2 q2
  obtain ⟨rfl, N2q, e2⟩ := q2
  have N2 := Fr.app N1 N2q
  show own_Go p e below _ T2 (mkF m 11 #[rv t, iv 47] [(.int r)])
  exact own_retI X2 hx hret hlk (hb hby d8_11) rfl (by simp) (by decide) (by decide) (⟨rfl, N2, e2⟩)
def own_r_own_po_4_m1 : Room := { frames := 4, cells := 2, slots := 4, locals := 55 }
theorem own_po_4_m1 (l : Launch) (Z : State) (a0 : Array Value) (hw : own_W a0 Z) (z : Int32) (sf : Value) (t b : Addr) (kb : ClassId) (dv : Value) (c0 c1 c2 c3 : Int32) (h0 : Heap) (n0 : Nat) (hO : Old Z n0 h0) (hG : own_Gs Z z sf) (hc0 : ¬ c0 < 0 ∧ ¬ (255 : Int32) < c0) (m0 : ¬ c0 = 47) (hc1 : ¬ c1 < 0 ∧ ¬ (255 : Int32) < c1) (m1 : ¬ c1 = 47) (hc2 : ¬ c2 < 0 ∧ ¬ (255 : Int32) < c2) (m2 : ¬ c2 = 47) (hc3 : ¬ c3 < 0 ∧ ¬ (255 : Int32) < c3) (m3 : ¬ c3 = 47) (Et : own_E Z h0 t) (Fv : own_V Z h0 t b) (Fc : own_C Z h0 t) (Ab : Arv Z h0 b kb .byte 4 [(.int c0.toInt8.toInt32), (.int c1.toInt8.toInt32), (.int c2.toInt8.toInt32), (.int c3.toInt8.toInt32)] dv) :
    own_MetH l Z own_EL (⟨"com/example/svazek/svazek/PackageFolder", "placeOf", "(Ljava/lang/String;)Ljava/lang/String;"⟩ : MethodName) prog_41_method_7_code 2 (some (.object "java/lang/String")) own_r_own_po_4_m1 #[(.ref t)] h0 (own_Qe Z h0 n0) := by
  refine own_bodyH (by decide +kernel) ?_
  intro p e s m below meth c T0 X0 hx hZ hby hml hown hnm hret hlk e0 hS hk C0
  have hwS : ∀ a ∈ Bundle.stringAtoms, a.before a0 Z = true := fun d hd => hw d ((by decide +kernel : ∀ d ∈ Bundle.stringAtoms, d ∈ tables_1) d hd)
  have N0 := Fr.nil n0
  refine own_cast (own_frame (L := [rv t]) (ls := #[rv t, .unset]) rfl rfl) ?_
  obtain ⟨SC, hz, SF, rf⟩ := id hG
  refine og_aloadN X0 hx (hb hby d7_0) rfl rfl ?_
  refine og_bipush X0 hx (hb hby d7_1) ?_
  refine own_callV X0 hx hZ hown (own_hw hw 36 rfl) (own_hw hw 37 rfl) (notFace_of_selects (args := #[]) (mvT hZ (own_hw hw 39 rfl))) (own_hw hw 39 rfl) (own_hw hw 38 rfl) (own_hw hw 40 rfl) (own_hw hw 9 rfl) (by decide) (b := t) (argsL := [(.int 47)]) (rest := []) (own_lic_4 l Z a0 hw z sf t b _ _ c0 c1 c2 c3 (-1) h0 n0 hO hG (own_lia_4_m1 l Z a0 hw b _ _ c0 c1 c2 c3 h0 n0 hc0 m0 hc1 m1 hc2 m2 hc3 m3 Ab) Et Fv Fc Ab) e0 Et (by rw [hml]; rfl) (lenOf own_pd49053 rfl) rfl (hb hby d7_3) (W := 0) (Nat.le_of_eq rfl) (by decide) ?_
  intro v1 T1 L1 X1 q1
  obtain ⟨rfl, N1q, e1⟩ := q1
  have N1 := Fr.app N0 N1q
  show own_Go p e below _ T1 (mkF m 6 #[rv t, .unset] [(.int (-1))])
  refine og_istoreN X1 hx #[rv t, iv (-1)] (hb hby d7_6) rfl ?_
  refine og_iloadN X1 hx (hb hby d7_7) rfl ?_
  refine og_ifN X1 hx (hb hby d7_8) (tlt (by decide)).2.1 ?_
  show own_Go p e below _ T1 (mkF m 11 #[rv t, iv (-1)] [])
  refine own_ldcH X1 hx hZ hown (own_hw hw 73 rfl) hwS e1 hS hk (own_EW hw) (List.mem_of_getElem? (i := 1) rfl) C0.1 (z := 0) ⟨by decide, rfl⟩ (by decide) rfl (hb hby d7_11) 0 (by decide) (by decide) (by decide) (by decide) ?_
  intro s2 T2 h2 k2 d2 kb2 X2 e2 E2 hS2 hk2 hZ2 hown2 Es2 Fc2 Fv2 As2 C2q Lt2 ns2
  have E_t_2 := Et.ext E2
  have F_t_value_2 := Fv.ext E2
  have F_t_coder_2 := Fc.ext E2
  have A_b_2 := Ab.ext E2
  have C2 := C0.trans C2q
  have O2 := hO.ext E2
  have K2 := (Keep.refl h0 []).ext E2
  have E_s2_2 : Exa Z h2 s2 "java/lang/String" := Es2
  have F_s2_coder_2 : Fld Z h2 s2 "java/lang/String" "coder" "B" (.int (0 : Int32)) := Fc2
  have F_s2_value_2 : Fld Z h2 s2 "java/lang/String" "value" "[B" (.ref d2) := Fv2
  have A_d2_2 : Arv Z h2 d2 kb2 .byte 0 [] (.int 0) := As2
  show own_Go p e below _ T2 (mkF m 13 #[rv t, iv (-1)] [(.ref s2)])
  refine og_goto X2 hx 22 (hb hby d7_13) (by decide) (by decide) ?_
  exact own_retAH X2 hx hret hlk (hb hby d7_22) rfl rfl hZ2 (own_EW hw) C2 e2 hS2 hk2 (by decide) (by decide) (by rw [e2]; exact ⟨s2, d2, _, rfl, N1, K2, E_s2_2, F_s2_value_2, F_s2_coder_2, A_d2_2⟩)
def own_r_own_ls_4_0 : Room := { frames := 0, cells := 0, slots := 0, locals := 0 }
theorem own_ls_4_0 (l : Launch) (Z : State) (a0 : Array Value) (hw : own_W a0 Z) (c0 c1 c2 c3 : Int32) (h0 : Heap) (n0 : Nat) (m1 : ¬ c1 = 47) (m2 : ¬ c2 = 47) (m3 : ¬ c3 = 47) (hsl : c0 = 47) :
    own_Met l Z (⟨"com/example/svazek/svazek/PackageFolderPlaceOfPinLaw", "lastSlash", "(ICCCC)I"⟩ : MethodName) method_5_code 5 (some .int) own_r_own_ls_4_0 #[(.int 4), (.int c0), (.int c1), (.int c2), (.int c3)] h0 (own_Qv (some (.int (0))) h0 n0) := by
  refine own_body (by decide +kernel) ?_
  intro p e s m below meth c T0 X0 hx hZ hby hml hown hnm hret hlk e0
  have N0 := Fr.nil n0
  refine own_cast (own_frame (L := [iv 4, iv c0, iv c1, iv c2, iv c3]) (ls := #[iv 4, iv c0, iv c1, iv c2, iv c3]) rfl rfl) ?_
  refine og_iloadN X0 hx (hb hby d6_0) rfl ?_
  refine og_iconst X0 hx (hb hby d6_1) ?_
  refine og_icN X0 hx (hb hby d6_2) (tlt (by decide)).2.2.2 ?_
  refine og_iload X0 hx (hb hby d6_5) rfl ?_
  refine og_bipush X0 hx (hb hby d6_7) ?_
  refine og_icY X0 hx 14 (hb hby d6_9) (feq m3).2 (by decide) (by decide) ?_
  refine og_iloadN X0 hx (hb hby d6_14) rfl ?_
  refine og_iconst X0 hx (hb hby d6_15) ?_
  refine og_icN X0 hx (hb hby d6_16) (tlt (by decide)).2.2.2 ?_
  refine og_iloadN X0 hx (hb hby d6_19) rfl ?_
  refine og_bipush X0 hx (hb hby d6_20) ?_
  refine og_icY X0 hx 27 (hb hby d6_22) (feq m2).2 (by decide) (by decide) ?_
  refine og_iloadN X0 hx (hb hby d6_27) rfl ?_
  refine og_iconst X0 hx (hb hby d6_28) ?_
  refine og_icN X0 hx (hb hby d6_29) (tlt (by decide)).2.2.2 ?_
  refine og_iloadN X0 hx (hb hby d6_32) rfl ?_
  refine og_bipush X0 hx (hb hby d6_33) ?_
  refine og_icY X0 hx 40 (hb hby d6_35) (feq m1).2 (by decide) (by decide) ?_
  refine og_iloadN X0 hx (hb hby d6_40) rfl ?_
  refine og_ifN X0 hx (hb hby d6_41) (tlt (by decide)).2.2.2 ?_
  refine og_iloadN X0 hx (hb hby d6_44) rfl ?_
  refine og_bipush X0 hx (hb hby d6_45) ?_
  refine og_icN X0 hx (hb hby d6_47) (teq hsl).2 ?_
  refine og_iconst X0 hx (hb hby d6_50) ?_
  exact own_retI X0 hx hret hlk (hb hby d6_51) rfl (by simp) (by decide) (by decide) (⟨rfl, N0, e0⟩)
theorem own_lia_4_0 (l : Launch) (Z : State) (a0 : Array Value) (hw : own_W a0 Z) (b : Addr) (kb : ClassId) (dv : Value) (c0 c1 c2 c3 : Int32) (h0 : Heap) (n0 : Nat) (hc1 : ¬ c1 < 0 ∧ ¬ (255 : Int32) < c1) (m1 : ¬ c1 = 47) (hc2 : ¬ c2 < 0 ∧ ¬ (255 : Int32) < c2) (m2 : ¬ c2 = 47) (hc3 : ¬ c3 < 0 ∧ ¬ (255 : Int32) < c3) (m3 : ¬ c3 = 47) (hsl : c0 = 47) (Ab : Arv Z h0 b kb .byte 4 [(.int c0.toInt8.toInt32), (.int c1.toInt8.toInt32), (.int c2.toInt8.toInt32), (.int c3.toInt8.toInt32)] dv) :
    own_Met l Z (⟨"java/lang/StringLatin1", "lastIndexOf", "([BII)I"⟩ : MethodName) jdk_43_method_27_code 4 (some .int) own_r_lia #[(.ref b), (.int 47), (.int 3)] h0 (own_Qv (some (.int (0))) h0 n0) := by
  refine own_body (by decide +kernel) ?_
  intro p e s m below meth c T0 X0 hx hZ hby hml hown hnm hret hlk e0
  have N0 := Fr.nil n0
  refine own_cast (own_frame (L := [rv b, iv 47, iv 3]) (ls := #[rv b, iv 47, iv 3, .unset]) rfl rfl) ?_
  refine og_iloadN X0 hx (hb hby d13_0) rfl ?_
  refine own_callS X0 hx hZ hown (own_hw hw 66 rfl) (own_hw hw 67 rfl) (own_hw hw 64 rfl) (own_hw hw 68 rfl) (by decide) (argsL := [(.int 47)]) (rest := []) (own_ce47 l Z a0 hw h0 n0) e0 (by rw [hml]; rfl) (lenOf own_pd97859 rfl) rfl (hb hby d13_1) (W := 0) (Nat.le_of_eq rfl) (by decide) ?_
  intro v1 T1 L1 X1 q1
  obtain ⟨rfl, N1q, e1⟩ := q1
  have N1 := Fr.app N0 N1q
  show own_Go p e below _ T1 (mkF m 4 #[rv b, iv 47, iv 3, .unset] [(.int 1)])
  refine og_ifY X1 hx 9 (hb hby d13_4) (feq (by decide)).2 (by decide) (by decide) ?_
  refine og_iloadN X1 hx (hb hby d13_9) rfl ?_
  refine og_aloadN X1 hx (hb hby d13_10) rfl rfl ?_
  refine own_len X1 hx hZ e1 Ab (hb hby d13_11) ?_
  show own_Go p e below _ T1 (mkF m 12 #[rv b, iv 47, iv 3, .unset] [(.int 4), (.int 3)])
  refine og_iconst X1 hx (hb hby d13_12) ?_
  refine og_isub X1 hx (hb hby d13_13) ?_
  show own_Go p e below _ T1 (mkF m 14 #[rv b, iv 47, iv 3, .unset] [(.int 3), (.int 3)])
  refine own_callS X1 hx hZ hown (own_hw hw 69 rfl) (own_hw hw 70 rfl) (own_hw hw 71 rfl) (own_hw hw 72 rfl) (by decide) (argsL := [(.int 3), (.int 3)]) (rest := []) (own_min_3_3 l Z a0 hw h0 n0) e1 (by rw [hml]; rfl) (lenOf own_pd23903 rfl) rfl (hb hby d13_14) (W := 0) (Nat.le_of_eq rfl) (by decide) ?_
  intro v2 T2 L2 X2 q2
  obtain ⟨rfl, N2q, e2⟩ := q2
  have N2 := Fr.app N1 N2q
  show own_Go p e below _ T2 (mkF m 17 #[rv b, iv 47, iv 3, .unset] [(.int 3)])
  refine og_istoreN X2 hx #[rv b, iv 47, iv 3, iv 3] (hb hby d13_17) rfl ?_
  refine og_iloadN X2 hx (hb hby d13_18) rfl ?_
  refine og_ifN X2 hx (hb hby d13_19) (flt (by decide)).1 ?_
  refine og_aloadN X2 hx (hb hby d13_22) rfl rfl ?_
  refine og_iloadN X2 hx (hb hby d13_23) rfl ?_
  refine own_ldB X2 hx hZ e2 Ab ⟨by decide, by decide⟩ rfl (hb hby d13_24) ?_
  show own_Go p e below _ T2 (mkF m 25 #[rv b, iv 47, iv 3, iv 3] [(.int c3.toInt8.toInt32)])
  refine og_iloadN X2 hx (hb hby d13_25) rfl ?_
  refine own_go (fun t k => XS.i2b X2.here hx rfl (hb hby d13_26) rfl k) ?_
  show own_Go p e below _ T2 (mkF m 27 #[rv b, iv 47, iv 3, iv 3] [(.int 47), (.int c3.toInt8.toInt32)])
  refine og_icY X2 hx 32 (hb hby d13_27) (feq (fun q => m3 (own_b47 _ hc3 q))).2 (by decide) (by decide) ?_
  refine own_go (fun t k => XS.iinc X2.here hx rfl (hb hby d13_32) rfl (l' := #[rv b, iv 47, iv 3, iv 2]) rfl k) ?_
  show own_Go p e below _ T2 (mkF m 35 #[rv b, iv 47, iv 3, iv 2] [])
  refine og_goto X2 hx 18 (hb hby d13_35) (by decide) (by decide) ?_
  refine og_iloadN X2 hx (hb hby d13_18) rfl ?_
  refine og_ifN X2 hx (hb hby d13_19) (flt (by decide)).1 ?_
  refine og_aloadN X2 hx (hb hby d13_22) rfl rfl ?_
  refine og_iloadN X2 hx (hb hby d13_23) rfl ?_
  refine own_ldB X2 hx hZ e2 Ab ⟨by decide, by decide⟩ rfl (hb hby d13_24) ?_
  show own_Go p e below _ T2 (mkF m 25 #[rv b, iv 47, iv 3, iv 2] [(.int c2.toInt8.toInt32)])
  refine og_iloadN X2 hx (hb hby d13_25) rfl ?_
  refine own_go (fun t k => XS.i2b X2.here hx rfl (hb hby d13_26) rfl k) ?_
  show own_Go p e below _ T2 (mkF m 27 #[rv b, iv 47, iv 3, iv 2] [(.int 47), (.int c2.toInt8.toInt32)])
  refine og_icY X2 hx 32 (hb hby d13_27) (feq (fun q => m2 (own_b47 _ hc2 q))).2 (by decide) (by decide) ?_
  refine own_go (fun t k => XS.iinc X2.here hx rfl (hb hby d13_32) rfl (l' := #[rv b, iv 47, iv 3, iv 1]) rfl k) ?_
  show own_Go p e below _ T2 (mkF m 35 #[rv b, iv 47, iv 3, iv 1] [])
  refine og_goto X2 hx 18 (hb hby d13_35) (by decide) (by decide) ?_
  refine og_iloadN X2 hx (hb hby d13_18) rfl ?_
  refine og_ifN X2 hx (hb hby d13_19) (flt (by decide)).1 ?_
  refine og_aloadN X2 hx (hb hby d13_22) rfl rfl ?_
  refine og_iloadN X2 hx (hb hby d13_23) rfl ?_
  refine own_ldB X2 hx hZ e2 Ab ⟨by decide, by decide⟩ rfl (hb hby d13_24) ?_
  show own_Go p e below _ T2 (mkF m 25 #[rv b, iv 47, iv 3, iv 1] [(.int c1.toInt8.toInt32)])
  refine og_iloadN X2 hx (hb hby d13_25) rfl ?_
  refine own_go (fun t k => XS.i2b X2.here hx rfl (hb hby d13_26) rfl k) ?_
  show own_Go p e below _ T2 (mkF m 27 #[rv b, iv 47, iv 3, iv 1] [(.int 47), (.int c1.toInt8.toInt32)])
  refine og_icY X2 hx 32 (hb hby d13_27) (feq (fun q => m1 (own_b47 _ hc1 q))).2 (by decide) (by decide) ?_
  refine own_go (fun t k => XS.iinc X2.here hx rfl (hb hby d13_32) rfl (l' := #[rv b, iv 47, iv 3, iv 0]) rfl k) ?_
  show own_Go p e below _ T2 (mkF m 35 #[rv b, iv 47, iv 3, iv 0] [])
  refine og_goto X2 hx 18 (hb hby d13_35) (by decide) (by decide) ?_
  refine og_iloadN X2 hx (hb hby d13_18) rfl ?_
  refine og_ifN X2 hx (hb hby d13_19) (flt (by decide)).1 ?_
  refine og_aloadN X2 hx (hb hby d13_22) rfl rfl ?_
  refine og_iloadN X2 hx (hb hby d13_23) rfl ?_
  refine own_ldB X2 hx hZ e2 Ab ⟨by decide, by decide⟩ rfl (hb hby d13_24) ?_
  show own_Go p e below _ T2 (mkF m 25 #[rv b, iv 47, iv 3, iv 0] [(.int c0.toInt8.toInt32)])
  refine og_iloadN X2 hx (hb hby d13_25) rfl ?_
  refine own_go (fun t k => XS.i2b X2.here hx rfl (hb hby d13_26) rfl k) ?_
  show own_Go p e below _ T2 (mkF m 27 #[rv b, iv 47, iv 3, iv 0] [(.int 47), (.int c0.toInt8.toInt32)])
  refine og_icN X2 hx (hb hby d13_27) (teq (by rw [hsl]; rfl)).2 ?_
  refine og_iloadN X2 hx (hb hby d13_30) rfl ?_
  exact own_retI X2 hx hret hlk (hb hby d13_31) rfl (by simp) (by decide) (by decide) (⟨rfl, N2, e2⟩)
def own_r_own_po_4_0 : Room := { frames := 4, cells := 2, slots := 4, locals := 55 }
theorem own_po_4_0 (l : Launch) (Z : State) (a0 : Array Value) (hw : own_W a0 Z) (z : Int32) (sf : Value) (t b : Addr) (kb : ClassId) (dv : Value) (c0 c1 c2 c3 : Int32) (h0 : Heap) (n0 : Nat) (hO : Old Z n0 h0) (hG : own_Gs Z z sf) (hc1 : ¬ c1 < 0 ∧ ¬ (255 : Int32) < c1) (m1 : ¬ c1 = 47) (hc2 : ¬ c2 < 0 ∧ ¬ (255 : Int32) < c2) (m2 : ¬ c2 = 47) (hc3 : ¬ c3 < 0 ∧ ¬ (255 : Int32) < c3) (m3 : ¬ c3 = 47) (hsl : c0 = 47) (Et : own_E Z h0 t) (Fv : own_V Z h0 t b) (Fc : own_C Z h0 t) (Ab : Arv Z h0 b kb .byte 4 [(.int c0.toInt8.toInt32), (.int c1.toInt8.toInt32), (.int c2.toInt8.toInt32), (.int c3.toInt8.toInt32)] dv) :
    own_MetH l Z own_EL (⟨"com/example/svazek/svazek/PackageFolder", "placeOf", "(Ljava/lang/String;)Ljava/lang/String;"⟩ : MethodName) prog_41_method_7_code 2 (some (.object "java/lang/String")) own_r_own_po_4_0 #[(.ref t)] h0 (own_Qe Z h0 n0) := by
  refine own_bodyH (by decide +kernel) ?_
  intro p e s m below meth c T0 X0 hx hZ hby hml hown hnm hret hlk e0 hS hk C0
  have hwS : ∀ a ∈ Bundle.stringAtoms, a.before a0 Z = true := fun d hd => hw d ((by decide +kernel : ∀ d ∈ Bundle.stringAtoms, d ∈ tables_1) d hd)
  have N0 := Fr.nil n0
  refine own_cast (own_frame (L := [rv t]) (ls := #[rv t, .unset]) rfl rfl) ?_
  obtain ⟨SC, hz, SF, rf⟩ := id hG
  refine og_aloadN X0 hx (hb hby d7_0) rfl rfl ?_
  refine og_bipush X0 hx (hb hby d7_1) ?_
  refine own_callV X0 hx hZ hown (own_hw hw 36 rfl) (own_hw hw 37 rfl) (notFace_of_selects (args := #[]) (mvT hZ (own_hw hw 39 rfl))) (own_hw hw 39 rfl) (own_hw hw 38 rfl) (own_hw hw 40 rfl) (own_hw hw 9 rfl) (by decide) (b := t) (argsL := [(.int 47)]) (rest := []) (own_lic_4 l Z a0 hw z sf t b _ _ c0 c1 c2 c3 (0) h0 n0 hO hG (own_lia_4_0 l Z a0 hw b _ _ c0 c1 c2 c3 h0 n0 hc1 m1 hc2 m2 hc3 m3 hsl Ab) Et Fv Fc Ab) e0 Et (by rw [hml]; rfl) (lenOf own_pd49053 rfl) rfl (hb hby d7_3) (W := 0) (Nat.le_of_eq rfl) (by decide) ?_
  intro v1 T1 L1 X1 q1
  obtain ⟨rfl, N1q, e1⟩ := q1
  have N1 := Fr.app N0 N1q
  show own_Go p e below _ T1 (mkF m 6 #[rv t, .unset] [(.int 0)])
  refine og_istoreN X1 hx #[rv t, iv 0] (hb hby d7_6) rfl ?_
  refine og_iloadN X1 hx (hb hby d7_7) rfl ?_
  refine og_ifY X1 hx 16 (hb hby d7_8) (flt (by decide)).2.1 (by decide) (by decide) ?_
  refine og_aloadN X1 hx (hb hby d7_16) rfl rfl ?_
  refine og_iconst X1 hx (hb hby d7_17) ?_
  refine og_iloadN X1 hx (hb hby d7_18) rfl ?_
  refine own_callVH X1 hx hZ hown (own_hw hw 89 rfl) (own_hw hw 90 rfl) (notFace_of_selects (args := #[]) (mvT hZ (own_hw hw 92 rfl))) (own_hw hw 92 rfl) (own_hw hw 91 rfl) (own_hw hw 93 rfl) (own_hw hw 9 rfl) (by decide) (b := t) (argsL := [(.int 0), (.int 0)]) (rest := []) (own_subEz l Z a0 hw z sf t b _ _ _ _ h0 n0 hO hG (by decide) (by decide) Et Fv Fc Ab) (own_EW hw) C0.1 hS hk e1 Et (by rw [hml]; rfl) (lenOf own_pd41291 rfl) rfl (hb hby d7_19) (W := 0) (Nat.le_of_eq rfl) (by decide) ?_
  intro v2 T2 L2 X2 hS2 hZ2 hown2 C2q q2
  obtain ⟨t2, vb2, k2, rfl, N2q, K2q, Et2, Ft2, Ct2, At2⟩ := q2
  have N2 := Fr.app N1 N2q
  have C2 := C0.trans C2q
  have E_t_2 := Et.keep K2q
  have F_t_value_2 := Fv.keep K2q nin0
  have F_t_coder_2 := Fc.keep K2q nin0
  have A_b_2 := Ab.keep K2q nin0
  have O2 := hO.keep K2q all0
  have K2 := (Keep.refl h0 []).trans K2q all0
  show own_Go p e below _ T2 (mkF m 22 #[rv t, iv 0] [(.ref t2)])
  exact own_retAH X2 hx hret hlk (hb hby d7_22) rfl rfl hZ2 (own_EW hw) C2 rfl hS2 (Nat.le_refl _) (by decide) (by decide) (⟨t2, vb2, _, rfl, N2, K2, Et2, Ft2, Ct2, At2⟩)
def own_r_own_ls_4_1 : Room := { frames := 0, cells := 0, slots := 0, locals := 0 }
theorem own_ls_4_1 (l : Launch) (Z : State) (a0 : Array Value) (hw : own_W a0 Z) (c0 c1 c2 c3 : Int32) (h0 : Heap) (n0 : Nat) (m2 : ¬ c2 = 47) (m3 : ¬ c3 = 47) (hsl : c1 = 47) :
    own_Met l Z (⟨"com/example/svazek/svazek/PackageFolderPlaceOfPinLaw", "lastSlash", "(ICCCC)I"⟩ : MethodName) method_5_code 5 (some .int) own_r_own_ls_4_1 #[(.int 4), (.int c0), (.int c1), (.int c2), (.int c3)] h0 (own_Qv (some (.int (1))) h0 n0) := by
  refine own_body (by decide +kernel) ?_
  intro p e s m below meth c T0 X0 hx hZ hby hml hown hnm hret hlk e0
  have N0 := Fr.nil n0
  refine own_cast (own_frame (L := [iv 4, iv c0, iv c1, iv c2, iv c3]) (ls := #[iv 4, iv c0, iv c1, iv c2, iv c3]) rfl rfl) ?_
  refine og_iloadN X0 hx (hb hby d6_0) rfl ?_
  refine og_iconst X0 hx (hb hby d6_1) ?_
  refine og_icN X0 hx (hb hby d6_2) (tlt (by decide)).2.2.2 ?_
  refine og_iload X0 hx (hb hby d6_5) rfl ?_
  refine og_bipush X0 hx (hb hby d6_7) ?_
  refine og_icY X0 hx 14 (hb hby d6_9) (feq m3).2 (by decide) (by decide) ?_
  refine og_iloadN X0 hx (hb hby d6_14) rfl ?_
  refine og_iconst X0 hx (hb hby d6_15) ?_
  refine og_icN X0 hx (hb hby d6_16) (tlt (by decide)).2.2.2 ?_
  refine og_iloadN X0 hx (hb hby d6_19) rfl ?_
  refine og_bipush X0 hx (hb hby d6_20) ?_
  refine og_icY X0 hx 27 (hb hby d6_22) (feq m2).2 (by decide) (by decide) ?_
  refine og_iloadN X0 hx (hb hby d6_27) rfl ?_
  refine og_iconst X0 hx (hb hby d6_28) ?_
  refine og_icN X0 hx (hb hby d6_29) (tlt (by decide)).2.2.2 ?_
  refine og_iloadN X0 hx (hb hby d6_32) rfl ?_
  refine og_bipush X0 hx (hb hby d6_33) ?_
  refine og_icN X0 hx (hb hby d6_35) (teq hsl).2 ?_
  refine og_iconst X0 hx (hb hby d6_38) ?_
  exact own_retI X0 hx hret hlk (hb hby d6_39) rfl (by simp) (by decide) (by decide) (⟨rfl, N0, e0⟩)
theorem own_lia_4_1 (l : Launch) (Z : State) (a0 : Array Value) (hw : own_W a0 Z) (b : Addr) (kb : ClassId) (dv : Value) (c0 c1 c2 c3 : Int32) (h0 : Heap) (n0 : Nat) (hc2 : ¬ c2 < 0 ∧ ¬ (255 : Int32) < c2) (m2 : ¬ c2 = 47) (hc3 : ¬ c3 < 0 ∧ ¬ (255 : Int32) < c3) (m3 : ¬ c3 = 47) (hsl : c1 = 47) (Ab : Arv Z h0 b kb .byte 4 [(.int c0.toInt8.toInt32), (.int c1.toInt8.toInt32), (.int c2.toInt8.toInt32), (.int c3.toInt8.toInt32)] dv) :
    own_Met l Z (⟨"java/lang/StringLatin1", "lastIndexOf", "([BII)I"⟩ : MethodName) jdk_43_method_27_code 4 (some .int) own_r_lia #[(.ref b), (.int 47), (.int 3)] h0 (own_Qv (some (.int (1))) h0 n0) := by
  refine own_body (by decide +kernel) ?_
  intro p e s m below meth c T0 X0 hx hZ hby hml hown hnm hret hlk e0
  have N0 := Fr.nil n0
  refine own_cast (own_frame (L := [rv b, iv 47, iv 3]) (ls := #[rv b, iv 47, iv 3, .unset]) rfl rfl) ?_
  refine og_iloadN X0 hx (hb hby d13_0) rfl ?_
  refine own_callS X0 hx hZ hown (own_hw hw 66 rfl) (own_hw hw 67 rfl) (own_hw hw 64 rfl) (own_hw hw 68 rfl) (by decide) (argsL := [(.int 47)]) (rest := []) (own_ce47 l Z a0 hw h0 n0) e0 (by rw [hml]; rfl) (lenOf own_pd97859 rfl) rfl (hb hby d13_1) (W := 0) (Nat.le_of_eq rfl) (by decide) ?_
  intro v1 T1 L1 X1 q1
  obtain ⟨rfl, N1q, e1⟩ := q1
  have N1 := Fr.app N0 N1q
  show own_Go p e below _ T1 (mkF m 4 #[rv b, iv 47, iv 3, .unset] [(.int 1)])
  refine og_ifY X1 hx 9 (hb hby d13_4) (feq (by decide)).2 (by decide) (by decide) ?_
  refine og_iloadN X1 hx (hb hby d13_9) rfl ?_
  refine og_aloadN X1 hx (hb hby d13_10) rfl rfl ?_
  refine own_len X1 hx hZ e1 Ab (hb hby d13_11) ?_
  show own_Go p e below _ T1 (mkF m 12 #[rv b, iv 47, iv 3, .unset] [(.int 4), (.int 3)])
  refine og_iconst X1 hx (hb hby d13_12) ?_
  refine og_isub X1 hx (hb hby d13_13) ?_
  show own_Go p e below _ T1 (mkF m 14 #[rv b, iv 47, iv 3, .unset] [(.int 3), (.int 3)])
  refine own_callS X1 hx hZ hown (own_hw hw 69 rfl) (own_hw hw 70 rfl) (own_hw hw 71 rfl) (own_hw hw 72 rfl) (by decide) (argsL := [(.int 3), (.int 3)]) (rest := []) (own_min_3_3 l Z a0 hw h0 n0) e1 (by rw [hml]; rfl) (lenOf own_pd23903 rfl) rfl (hb hby d13_14) (W := 0) (Nat.le_of_eq rfl) (by decide) ?_
  intro v2 T2 L2 X2 q2
  obtain ⟨rfl, N2q, e2⟩ := q2
  have N2 := Fr.app N1 N2q
  show own_Go p e below _ T2 (mkF m 17 #[rv b, iv 47, iv 3, .unset] [(.int 3)])
  refine og_istoreN X2 hx #[rv b, iv 47, iv 3, iv 3] (hb hby d13_17) rfl ?_
  refine og_iloadN X2 hx (hb hby d13_18) rfl ?_
  refine og_ifN X2 hx (hb hby d13_19) (flt (by decide)).1 ?_
  refine og_aloadN X2 hx (hb hby d13_22) rfl rfl ?_
  refine og_iloadN X2 hx (hb hby d13_23) rfl ?_
  refine own_ldB X2 hx hZ e2 Ab ⟨by decide, by decide⟩ rfl (hb hby d13_24) ?_
  show own_Go p e below _ T2 (mkF m 25 #[rv b, iv 47, iv 3, iv 3] [(.int c3.toInt8.toInt32)])
  refine og_iloadN X2 hx (hb hby d13_25) rfl ?_
  refine own_go (fun t k => XS.i2b X2.here hx rfl (hb hby d13_26) rfl k) ?_
  show own_Go p e below _ T2 (mkF m 27 #[rv b, iv 47, iv 3, iv 3] [(.int 47), (.int c3.toInt8.toInt32)])
  refine og_icY X2 hx 32 (hb hby d13_27) (feq (fun q => m3 (own_b47 _ hc3 q))).2 (by decide) (by decide) ?_
  refine own_go (fun t k => XS.iinc X2.here hx rfl (hb hby d13_32) rfl (l' := #[rv b, iv 47, iv 3, iv 2]) rfl k) ?_
  show own_Go p e below _ T2 (mkF m 35 #[rv b, iv 47, iv 3, iv 2] [])
  refine og_goto X2 hx 18 (hb hby d13_35) (by decide) (by decide) ?_
  refine og_iloadN X2 hx (hb hby d13_18) rfl ?_
  refine og_ifN X2 hx (hb hby d13_19) (flt (by decide)).1 ?_
  refine og_aloadN X2 hx (hb hby d13_22) rfl rfl ?_
  refine og_iloadN X2 hx (hb hby d13_23) rfl ?_
  refine own_ldB X2 hx hZ e2 Ab ⟨by decide, by decide⟩ rfl (hb hby d13_24) ?_
  show own_Go p e below _ T2 (mkF m 25 #[rv b, iv 47, iv 3, iv 2] [(.int c2.toInt8.toInt32)])
  refine og_iloadN X2 hx (hb hby d13_25) rfl ?_
  refine own_go (fun t k => XS.i2b X2.here hx rfl (hb hby d13_26) rfl k) ?_
  show own_Go p e below _ T2 (mkF m 27 #[rv b, iv 47, iv 3, iv 2] [(.int 47), (.int c2.toInt8.toInt32)])
  refine og_icY X2 hx 32 (hb hby d13_27) (feq (fun q => m2 (own_b47 _ hc2 q))).2 (by decide) (by decide) ?_
  refine own_go (fun t k => XS.iinc X2.here hx rfl (hb hby d13_32) rfl (l' := #[rv b, iv 47, iv 3, iv 1]) rfl k) ?_
  show own_Go p e below _ T2 (mkF m 35 #[rv b, iv 47, iv 3, iv 1] [])
  refine og_goto X2 hx 18 (hb hby d13_35) (by decide) (by decide) ?_
  refine og_iloadN X2 hx (hb hby d13_18) rfl ?_
  refine og_ifN X2 hx (hb hby d13_19) (flt (by decide)).1 ?_
  refine og_aloadN X2 hx (hb hby d13_22) rfl rfl ?_
  refine og_iloadN X2 hx (hb hby d13_23) rfl ?_
  refine own_ldB X2 hx hZ e2 Ab ⟨by decide, by decide⟩ rfl (hb hby d13_24) ?_
  show own_Go p e below _ T2 (mkF m 25 #[rv b, iv 47, iv 3, iv 1] [(.int c1.toInt8.toInt32)])
  refine og_iloadN X2 hx (hb hby d13_25) rfl ?_
  refine own_go (fun t k => XS.i2b X2.here hx rfl (hb hby d13_26) rfl k) ?_
  show own_Go p e below _ T2 (mkF m 27 #[rv b, iv 47, iv 3, iv 1] [(.int 47), (.int c1.toInt8.toInt32)])
  refine og_icN X2 hx (hb hby d13_27) (teq (by rw [hsl]; rfl)).2 ?_
  refine og_iloadN X2 hx (hb hby d13_30) rfl ?_
  exact own_retI X2 hx hret hlk (hb hby d13_31) rfl (by simp) (by decide) (by decide) (⟨rfl, N2, e2⟩)
def own_r_own_min_4_1 : Room := { frames := 0, cells := 0, slots := 0, locals := 0 }
theorem own_min_4_1 (l : Launch) (Z : State) (a0 : Array Value) (hw : own_W a0 Z)  (h0 : Heap) (n0 : Nat)  :
    own_Met l Z (⟨"java/lang/Math", "min", "(II)I"⟩ : MethodName) jdk_29_method_69_code 2 (some .int) own_r_own_min_4_1 #[(.int 4), (.int 1)] h0 (own_Qv (some (.int (1))) h0 n0) := by
  refine own_body (by decide +kernel) ?_
  intro p e s m below meth c T0 X0 hx hZ hby hml hown hnm hret hlk e0
  have N0 := Fr.nil n0
  refine own_cast (own_frame (L := [iv 4, iv 1]) (ls := #[iv 4, iv 1]) rfl rfl) ?_
  refine og_iloadN X0 hx (hb hby d15_0) rfl ?_
  refine og_iloadN X0 hx (hb hby d15_1) rfl ?_
  refine og_icY X0 hx 9 (hb hby d15_2) (tlt (by decide)).2.2.1 (by decide) (by decide) ?_
  refine og_iloadN X0 hx (hb hby d15_9) rfl ?_
  exact own_retI X0 hx hret hlk (hb hby d15_10) rfl (by simp) (by decide) (by decide) (⟨rfl, N0, e0⟩)
def own_Qr_0_1_4 (Z : State) (h0 : Heap) (n0 : Nat) (v0 v1 v2 v3 : Value) (v : Option Value) (h : Heap) (L : List Loc) : Prop := ∃ (b : Addr) (k : ClassId), v = some (.ref b) ∧ Fr n0 L ∧ Keep h0 h [] ∧ h0.size ≤ b ∧ n0 ≤ b ∧ Arv Z h b k .byte 1 [v0] (.int (0 : Int32))
def own_r_own_crb_0_1_4 : Room := { frames := 1, cells := 1, slots := 1, locals := 18 }
theorem own_crb_0_1_4 (l : Launch) (Z : State) (a0 : Array Value) (hw : own_W a0 Z) (b : Addr) (kb : ClassId) (dv : Value) (v0 v1 v2 v3 : Value) (h0 : Heap) (n0 : Nat) (hO : Old Z n0 h0) (Ab : Arv Z h0 b kb .byte 4 [v0, v1, v2, v3] dv) :
    own_Met l Z (⟨"java/util/Arrays", "copyOfRangeByte", "([BII)[B"⟩ : MethodName) jdk_65_method_133_code 5 (some (.array .byte)) own_r_own_crb_0_1_4 #[(.ref b), (.int 0), (.int 1)] h0 (own_Qr_0_1_4 Z h0 n0 v0 v1 v2 v3) := by
  refine own_body (by decide +kernel) ?_
  intro p e s m below meth c T0 X0 hx hZ hby hml hown hnm hret hlk e0
  have N0 := Fr.nil n0
  refine own_cast (own_frame (L := [rv b, iv 0, iv 1]) (ls := #[rv b, iv 0, iv 1, .unset, .unset]) rfl rfl) ?_
  refine og_iloadN X0 hx (hb hby d25_0) rfl ?_
  refine og_iloadN X0 hx (hb hby d25_1) rfl ?_
  refine own_callS X0 hx hZ hown (own_hw hw 113 rfl) (own_hw hw 114 rfl) (own_hw hw 108 rfl) (own_hw hw 115 rfl) (by decide) (argsL := [(.int 0), (.int 1)]) (rest := []) (own_ckl_0_1 l Z a0 hw h0 n0) e0 (by rw [hml]; rfl) (lenOf own_pd97226 rfl) rfl (hb hby d25_2) (W := 0) (Nat.le_of_eq rfl) (by decide) ?_
  intro v1 T1 L1 X1 q1
  obtain ⟨rfl, N1q, e1⟩ := q1
  have N1 := Fr.app N0 N1q
  show own_Go p e below _ T1 (mkF m 5 #[rv b, iv 0, iv 1, .unset, .unset] [])
  refine og_iloadN X1 hx (hb hby d25_5) rfl ?_
  refine og_iloadN X1 hx (hb hby d25_6) rfl ?_
  refine og_isub X1 hx (hb hby d25_7) ?_
  refine og_istoreN X1 hx #[rv b, iv 0, iv 1, iv 1, .unset] (hb hby d25_8) rfl ?_
  refine og_iloadN X1 hx (hb hby d25_9) rfl ?_
  refine own_newP X1 hx hZ (own_hw hw 22 rfl) e1 (hb hby d25_10) (by decide) 1 (by decide) (by decide) (by decide) (by decide) ?_
  intro T2 h2 k2 b2 g2 X2 e2 E2 A2
  have ne_b_b2 : b ≠ b2 := Nat.ne_of_lt (Nat.lt_of_lt_of_eq Ab.lt g2.symm)
  have ge_b2 : n0 ≤ b2 := Nat.le_trans (own_oldle hO) (Nat.le_of_eq g2.symm)
  have sz_b2 : h0.size ≤ b2 := Nat.le_trans (Keep.refl h0 []).1 (Nat.le_of_eq g2.symm)
  have A_b_2 := Ab.ext E2
  have O2 := hO.ext E2
  have K2 := (Keep.refl h0 []).ext E2
  have A_b2_2 : Arv Z h2 b2 k2 .byte 1 [(.int (0 : Int32))] (.int (0 : Int32)) := A2
  show own_Go p e below _ T2 (mkF m 12 #[rv b, iv 0, iv 1, iv 1, .unset] [(.ref b2)])
  refine og_astore X2 hx #[rv b, iv 0, iv 1, iv 1, rv b2] (hb hby d25_12) rfl rfl ?_
  refine og_aloadN X2 hx (hb hby d25_14) rfl rfl ?_
  refine og_iloadN X2 hx (hb hby d25_15) rfl ?_
  refine og_aload X2 hx (hb hby d25_16) rfl rfl ?_
  refine og_iconst X2 hx (hb hby d25_18) ?_
  refine og_aloadN X2 hx (hb hby d25_19) rfl rfl ?_
  refine own_len X2 hx hZ e2 A_b_2 (hb hby d25_20) ?_
  show own_Go p e below _ T2 (mkF m 21 #[rv b, iv 0, iv 1, iv 1, rv b2] [(.int 4), (.int 0), (.ref b2), (.int 0), (.ref b)])
  refine og_iloadN X2 hx (hb hby d25_21) rfl ?_
  refine og_isub X2 hx (hb hby d25_22) ?_
  refine og_iloadN X2 hx (hb hby d25_23) rfl ?_
  refine own_callS X2 hx hZ hown (own_hw hw 116 rfl) (own_hw hw 70 rfl) (own_hw hw 71 rfl) (own_hw hw 72 rfl) (by decide) (argsL := [(.int 4), (.int 1)]) (rest := [(.int 0), (.ref b2), (.int 0), (.ref b)]) (own_min_4_1 l Z a0 hw h2 n0) e2 (by rw [hml]; rfl) (lenOf own_pd23903 rfl) rfl (hb hby d25_24) (W := 4) (Nat.le_of_eq rfl) (by decide) ?_
  intro v3 T3 L3 X3 q3
  obtain ⟨rfl, N3q, e3⟩ := q3
  have N3 := Fr.app N1 N3q
  show own_Go p e below _ T3 (mkF m 27 #[rv b, iv 0, iv 1, iv 1, rv b2] [(.int 1), (.int 0), (.ref b2), (.int 0), (.ref b)])
  obtain ⟨T4, h4, L4, X4, e4, N4, K4q, A4, st4⟩ := cpA X3 hx hZ hown (own_hw hw 117 rfl) (own_hw hw 120 rfl) (own_hw hw 118 rfl) (own_hw hw 119 rfl) e3 A_b_2 A_b2_2 (us := [v0]) (Or.inl ⟨rfl, rfl⟩) (by decide) (by decide) (by decide) (by decide) (by decide) rfl (by decide) N3 ge_b2 (g := (mkF m 27 #[rv b, iv 0, iv 1, iv 1, rv b2] [(.int 1), (.int 0), (.ref b2), (.int 0), (.ref b)])) rfl (by rw [hml]; rfl) rfl (hb hby d25_27) (by decide) (W := 0) (by show 2 * 0 + _ ≤ _; exact Nat.le_of_eq rfl) (by decide)
  refine own_go st4 ?_
  have A_b_4 := A_b_2.keep K4q (ninS ne_b_b2 nin0)
  have O4 := O2.keep K4q (allS ge_b2 all0)
  have K4 := K2.trans K4q (allS (Or.inr sz_b2) all0)
  have A_b2_4 : Arv Z h4 b2 k2 .byte 1 [v0] (.int (0 : Int32)) := A4
  show own_Go p e below _ T4 (mkF m 30 #[rv b, iv 0, iv 1, iv 1, rv b2] [])
  refine og_aload X4 hx (hb hby d25_30) rfl rfl ?_
  exact own_retA X4 hx hret hlk (hb hby d25_32) rfl rfl (by decide) (by decide) (by rw [e4]; exact ⟨b2, _, rfl, N4, K4, sz_b2, ge_b2, A_b2_4⟩)
def own_r_own_cr_0_1_4 : Room := { frames := 2, cells := 1, slots := 1, locals := 34 }
theorem own_cr_0_1_4 (l : Launch) (Z : State) (a0 : Array Value) (hw : own_W a0 Z) (b : Addr) (kb : ClassId) (dv : Value) (v0 v1 v2 v3 : Value) (h0 : Heap) (n0 : Nat) (hO : Old Z n0 h0) (Ab : Arv Z h0 b kb .byte 4 [v0, v1, v2, v3] dv) :
    own_Met l Z (⟨"java/util/Arrays", "copyOfRange", "([BII)[B"⟩ : MethodName) jdk_65_method_132_code 3 (some (.array .byte)) own_r_own_cr_0_1_4 #[(.ref b), (.int 0), (.int 1)] h0 (own_Qr_0_1_4 Z h0 n0 v0 v1 v2 v3) := by
  refine own_body (by decide +kernel) ?_
  intro p e s m below meth c T0 X0 hx hZ hby hml hown hnm hret hlk e0
  have N0 := Fr.nil n0
  refine own_cast (own_frame (L := [rv b, iv 0, iv 1]) (ls := #[rv b, iv 0, iv 1]) rfl rfl) ?_
  refine og_iloadN X0 hx (hb hby d24_0) rfl ?_
  refine og_ifN X0 hx (hb hby d24_1) (teq rfl).2 ?_
  refine og_iloadN X0 hx (hb hby d24_4) rfl ?_
  refine og_aloadN X0 hx (hb hby d24_5) rfl rfl ?_
  refine own_len X0 hx hZ e0 Ab (hb hby d24_6) ?_
  show own_Go p e below _ T0 (mkF m 7 #[rv b, iv 0, iv 1] [(.int 4), (.int 1)])
  refine og_icN X0 hx (hb hby d24_7) (feq (by decide)).1 ?_
  refine og_aloadN X0 hx (hb hby d24_10) rfl rfl ?_
  refine og_iloadN X0 hx (hb hby d24_11) rfl ?_
  refine og_iloadN X0 hx (hb hby d24_12) rfl ?_
  refine own_callS X0 hx hZ hown (own_hw hw 110 rfl) (own_hw hw 111 rfl) (own_hw hw 108 rfl) (own_hw hw 112 rfl) (by decide) (argsL := [(.ref b), (.int 0), (.int 1)]) (rest := []) (own_crb_0_1_4 l Z a0 hw b _ _ v0 v1 v2 v3 h0 n0 hO Ab) e0 (by rw [hml]; rfl) (lenOf own_pd77155 rfl) rfl (hb hby d24_13) (W := 0) (Nat.le_of_eq rfl) (by decide) ?_
  intro v1 T1 L1 X1 q1
  obtain ⟨b1, k1, rfl, N1q, K1q, z1q, g1q, A1q⟩ := q1
  have N1 := Fr.app N0 N1q
  have ne_b_b1 : b ≠ b1 := Nat.ne_of_lt (Nat.lt_of_lt_of_le Ab.lt z1q)
  have sz_b1 : h0.size ≤ b1 := Nat.le_trans (Keep.refl h0 []).1 z1q
  have A_b_1 := Ab.keep K1q nin0
  have O1 := hO.keep K1q all0
  have K1 := (Keep.refl h0 []).trans K1q all0
  show own_Go p e below _ T1 (mkF m 16 #[rv b, iv 0, iv 1] [(.ref b1)])
  exact own_retA X1 hx hret hlk (hb hby d24_16) rfl rfl (by decide) (by decide) (⟨b1, _, rfl, N1, K1, sz_b1, g1q, A1q⟩)
def own_r_own_ns_0_1_4 : Room := { frames := 3, cells := 2, slots := 5, locals := 50 }
theorem own_ns_0_1_4 (l : Launch) (Z : State) (a0 : Array Value) (hw : own_W a0 Z) (b : Addr) (kb : ClassId) (dv : Value) (v0 v1 v2 v3 : Value) (h0 : Heap) (n0 : Nat) (hO : Old Z n0 h0) (Ab : Arv Z h0 b kb .byte 4 [v0, v1, v2, v3] dv) :
    own_Met l Z (⟨"java/lang/StringLatin1", "newString", "([BII)Ljava/lang/String;"⟩ : MethodName) jdk_43_method_47_code 3 (some (.object "java/lang/String")) own_r_own_ns_0_1_4 #[(.ref b), (.int 0), (.int 1)] h0 (own_Qs1 Z h0 n0 v0) := by
  refine own_body (by decide +kernel) ?_
  intro p e s m below meth c T0 X0 hx hZ hby hml hown hnm hret hlk e0
  have N0 := Fr.nil n0
  refine own_cast (own_frame (L := [rv b, iv 0, iv 1]) (ls := #[rv b, iv 0, iv 1]) rfl rfl) ?_
  refine og_iloadN X0 hx (hb hby d23_0) rfl ?_
  refine og_ifY X0 hx 7 (hb hby d23_1) (feq (by decide)).2 (by decide) (by decide) ?_
  refine own_newO X0 hx hZ hown (own_hw hw 105 rfl) (own_hw hw 8 rfl) (own_hw hw 9 rfl) e0 (hb hby d23_7) (by decide) (by decide) ?_
  intro T1 h1 b1 g1 X1 e1 E1 A1 D1
  have ne_b_b1 : b ≠ b1 := Nat.ne_of_lt (Nat.lt_of_lt_of_eq Ab.lt g1.symm)
  have ge_b1 : n0 ≤ b1 := Nat.le_trans (own_oldle hO) (Nat.le_of_eq g1.symm)
  have sz_b1 : h0.size ≤ b1 := Nat.le_trans (Keep.refl h0 []).1 (Nat.le_of_eq g1.symm)
  have A_b_1 := Ab.ext E1
  have O1 := hO.ext E1
  have K1 := (Keep.refl h0 []).ext E1
  have F_b1_value_1 : Fld Z h1 b1 "java/lang/String" "value" "[B" .null := D1 (Or.inr (own_hw hw 23 rfl)) (ty := (.array .byte)) (by decide)
  have F_b1_coder_1 : Fld Z h1 b1 "java/lang/String" "coder" "B" (.int 0) := D1 (Or.inr (own_hw hw 24 rfl)) (ty := .byte) (by decide)
  show own_Go p e below _ T1 (mkF m 10 #[rv b, iv 0, iv 1] [(.ref b1)])
  refine og_dup X1 hx (hb hby d23_10) rfl ?_
  refine og_aloadN X1 hx (hb hby d23_11) rfl rfl ?_
  refine og_iloadN X1 hx (hb hby d23_12) rfl ?_
  refine og_iloadN X1 hx (hb hby d23_13) rfl ?_
  refine og_iloadN X1 hx (hb hby d23_14) rfl ?_
  refine og_iadd X1 hx (hb hby d23_15) ?_
  show own_Go p e below _ T1 (mkF m 16 #[rv b, iv 0, iv 1] [(.int 1), (.int 0), (.ref b), (.ref b1), (.ref b1)])
  refine own_callS X1 hx hZ hown (own_hw hw 106 rfl) (own_hw hw 107 rfl) (own_hw hw 108 rfl) (own_hw hw 109 rfl) (by decide) (argsL := [(.ref b), (.int 0), (.int 1)]) (rest := [(.ref b1), (.ref b1)]) (own_cr_0_1_4 l Z a0 hw b _ _ v0 v1 v2 v3 h1 n0 O1 A_b_1) e1 (by rw [hml]; rfl) (lenOf own_pd77155 rfl) rfl (hb hby d23_16) (W := 2) (Nat.le_of_eq rfl) (by decide) ?_
  intro v2 T2 L2 X2 q2
  obtain ⟨b2, k2, rfl, N2q, K2q, z2q, g2q, A2q⟩ := q2
  have N2 := Fr.app N0 N2q
  have ne_b_b2 : b ≠ b2 := Nat.ne_of_lt (Nat.lt_of_lt_of_le A_b_1.lt z2q)
  have ne_b1_b2 : b1 ≠ b2 := Nat.ne_of_lt (Nat.lt_of_lt_of_le A1.lt z2q)
  have sz_b2 : h0.size ≤ b2 := Nat.le_trans K1.1 z2q
  have A_b_2 := A_b_1.keep K2q nin0
  have E_b1_2 := A1.keep K2q
  have F_b1_value_2 := F_b1_value_1.keep K2q nin0
  have F_b1_coder_2 := F_b1_coder_1.keep K2q nin0
  have O2 := O1.keep K2q all0
  have K2 := K1.trans K2q all0
  show own_Go p e below _ T2 (mkF m 19 #[rv b, iv 0, iv 1] [(.ref b2), (.ref b1), (.ref b1)])
  refine og_iconst X2 hx (hb hby d23_19) ?_
  refine own_callN X2 hx hZ hown (own_hw hw 121 rfl) (own_hw hw 122 rfl) (own_hw hw 123 rfl) (own_hw hw 9 rfl) (by decide) rfl (b := b1) (argsL := [(.ref b2), (.int 0)]) (rest := [(.ref b1)]) (own_si l Z a0 hw b1 b2 _ _ T2.heap n0 O2 ge_b1 E_b1_2 F_b1_value_2 F_b1_coder_2) rfl (by rw [hml]; rfl) (lenOf own_pd58512 rfl) rfl (hb hby d23_20) (W := 1) (Nat.le_of_eq rfl) (by decide) ?_
  intro v3 T3 L3 X3 q3
  obtain ⟨rfl, N3q, K3q, Fv3, Fc3⟩ := q3
  have N3 := Fr.app N2 N3q
  have A_b_3 := A_b_2.keep K3q (ninS ne_b_b1 nin0)
  have E_b1_3 := E_b1_2.keep K3q
  have A_b2_3 := A2q.keep K3q (ninS (Ne.symm ne_b1_b2) nin0)
  have O3 := O2.keep K3q (allS ge_b1 all0)
  have K3 := K2.trans K3q (allS (Or.inr sz_b1) all0)
  show own_Go p e below _ T3 (mkF m 23 #[rv b, iv 0, iv 1] [(.ref b1)])
  exact own_retA X3 hx hret hlk (hb hby d23_23) rfl rfl (by decide) (by decide) (⟨b1, b2, _, rfl, N3, K3, sz_b1, ge_b1, sz_b2, g2q, ne_b1_b2, E_b1_3, Fv3, Fc3, A_b2_3⟩)
def own_r_own_po_4_1 : Room := { frames := 5, cells := 2, slots := 5, locals := 80 }
theorem own_po_4_1 (l : Launch) (Z : State) (a0 : Array Value) (hw : own_W a0 Z) (z : Int32) (sf : Value) (t b : Addr) (kb : ClassId) (dv : Value) (c0 c1 c2 c3 : Int32) (h0 : Heap) (n0 : Nat) (hO : Old Z n0 h0) (hG : own_Gs Z z sf) (hc2 : ¬ c2 < 0 ∧ ¬ (255 : Int32) < c2) (m2 : ¬ c2 = 47) (hc3 : ¬ c3 < 0 ∧ ¬ (255 : Int32) < c3) (m3 : ¬ c3 = 47) (hsl : c1 = 47) (Et : own_E Z h0 t) (Fv : own_V Z h0 t b) (Fc : own_C Z h0 t) (Ab : Arv Z h0 b kb .byte 4 [(.int c0.toInt8.toInt32), (.int c1.toInt8.toInt32), (.int c2.toInt8.toInt32), (.int c3.toInt8.toInt32)] dv) :
    own_Met l Z (⟨"com/example/svazek/svazek/PackageFolder", "placeOf", "(Ljava/lang/String;)Ljava/lang/String;"⟩ : MethodName) prog_41_method_7_code 2 (some (.object "java/lang/String")) own_r_own_po_4_1 #[(.ref t)] h0 (own_Qs1 Z h0 n0 (.int c0.toInt8.toInt32)) := by
  refine own_body (by decide +kernel) ?_
  intro p e s m below meth c T0 X0 hx hZ hby hml hown hnm hret hlk e0
  have N0 := Fr.nil n0
  refine own_cast (own_frame (L := [rv t]) (ls := #[rv t, .unset]) rfl rfl) ?_
  obtain ⟨SC, hz, SF, rf⟩ := id hG
  refine og_aloadN X0 hx (hb hby d7_0) rfl rfl ?_
  refine og_bipush X0 hx (hb hby d7_1) ?_
  refine own_callV X0 hx hZ hown (own_hw hw 36 rfl) (own_hw hw 37 rfl) (notFace_of_selects (args := #[]) (mvT hZ (own_hw hw 39 rfl))) (own_hw hw 39 rfl) (own_hw hw 38 rfl) (own_hw hw 40 rfl) (own_hw hw 9 rfl) (by decide) (b := t) (argsL := [(.int 47)]) (rest := []) (own_lic_4 l Z a0 hw z sf t b _ _ c0 c1 c2 c3 (1) h0 n0 hO hG (own_lia_4_1 l Z a0 hw b _ _ c0 c1 c2 c3 h0 n0 hc2 m2 hc3 m3 hsl Ab) Et Fv Fc Ab) e0 Et (by rw [hml]; rfl) (lenOf own_pd49053 rfl) rfl (hb hby d7_3) (W := 0) (Nat.le_of_eq rfl) (by decide) ?_
  intro v1 T1 L1 X1 q1
  obtain ⟨rfl, N1q, e1⟩ := q1
  have N1 := Fr.app N0 N1q
  show own_Go p e below _ T1 (mkF m 6 #[rv t, .unset] [(.int 1)])
  refine og_istoreN X1 hx #[rv t, iv 1] (hb hby d7_6) rfl ?_
  refine og_iloadN X1 hx (hb hby d7_7) rfl ?_
  refine og_ifY X1 hx 16 (hb hby d7_8) (flt (by decide)).2.1 (by decide) (by decide) ?_
  refine og_aloadN X1 hx (hb hby d7_16) rfl rfl ?_
  refine og_iconst X1 hx (hb hby d7_17) ?_
  refine og_iloadN X1 hx (hb hby d7_18) rfl ?_
  refine own_callV X1 hx hZ hown (own_hw hw 89 rfl) (own_hw hw 90 rfl) (notFace_of_selects (args := #[]) (mvT hZ (own_hw hw 92 rfl))) (own_hw hw 92 rfl) (own_hw hw 91 rfl) (own_hw hw 93 rfl) (own_hw hw 9 rfl) (by decide) (b := t) (argsL := [(.int 0), (.int 1)]) (rest := []) (own_subNz1 l Z a0 hw z sf t b _ _ _ _ 1 (.int c0.toInt8.toInt32) h0 n0 hO hG (by decide) (by decide) (by decide) (own_ns_0_1_4 l Z a0 hw b _ _ (.int c0.toInt8.toInt32) (.int c1.toInt8.toInt32) (.int c2.toInt8.toInt32) (.int c3.toInt8.toInt32) h0 n0 hO Ab) Et Fv Fc Ab) e1 Et (by rw [hml]; rfl) (lenOf own_pd41291 rfl) rfl (hb hby d7_19) (W := 0) (Nat.le_of_eq rfl) (by decide) ?_
  intro v2 T2 L2 X2 q2
  obtain ⟨t2, vb2, k2, rfl, N2q, K2q, zt2, gt2, zb2, gb2, ne_t2_vb2, Et2, Ft2, Ct2, At2⟩ := q2
  have N2 := Fr.app N1 N2q
  have ne_b_t2 : b ≠ t2 := Nat.ne_of_lt (Nat.lt_of_lt_of_le Ab.lt zt2)
  have ne_t_t2 : t ≠ t2 := Nat.ne_of_lt (Nat.lt_of_lt_of_le Et.lt zt2)
  have sz_t2 : h0.size ≤ t2 := Nat.le_trans (Keep.refl h0 []).1 zt2
  have ne_b_vb2 : b ≠ vb2 := Nat.ne_of_lt (Nat.lt_of_lt_of_le Ab.lt zb2)
  have ne_t_vb2 : t ≠ vb2 := Nat.ne_of_lt (Nat.lt_of_lt_of_le Et.lt zb2)
  have sz_vb2 : h0.size ≤ vb2 := Nat.le_trans (Keep.refl h0 []).1 zb2
  have E_t_2 := Et.keep K2q
  have F_t_value_2 := Fv.keep K2q nin0
  have F_t_coder_2 := Fc.keep K2q nin0
  have A_b_2 := Ab.keep K2q nin0
  have O2 := hO.keep K2q all0
  have K2 := (Keep.refl h0 []).trans K2q all0
  show own_Go p e below _ T2 (mkF m 22 #[rv t, iv 1] [(.ref t2)])
  exact own_retA X2 hx hret hlk (hb hby d7_22) rfl rfl (by decide) (by decide) (⟨t2, vb2, _, rfl, N2, K2, sz_t2, gt2, sz_vb2, gb2, ne_t2_vb2, Et2, Ft2, Ct2, At2⟩)
def own_r_own_ls_4_2 : Room := { frames := 0, cells := 0, slots := 0, locals := 0 }
theorem own_ls_4_2 (l : Launch) (Z : State) (a0 : Array Value) (hw : own_W a0 Z) (c0 c1 c2 c3 : Int32) (h0 : Heap) (n0 : Nat) (m3 : ¬ c3 = 47) (hsl : c2 = 47) :
    own_Met l Z (⟨"com/example/svazek/svazek/PackageFolderPlaceOfPinLaw", "lastSlash", "(ICCCC)I"⟩ : MethodName) method_5_code 5 (some .int) own_r_own_ls_4_2 #[(.int 4), (.int c0), (.int c1), (.int c2), (.int c3)] h0 (own_Qv (some (.int (2))) h0 n0) := by
  refine own_body (by decide +kernel) ?_
  intro p e s m below meth c T0 X0 hx hZ hby hml hown hnm hret hlk e0
  have N0 := Fr.nil n0
  refine own_cast (own_frame (L := [iv 4, iv c0, iv c1, iv c2, iv c3]) (ls := #[iv 4, iv c0, iv c1, iv c2, iv c3]) rfl rfl) ?_
  refine og_iloadN X0 hx (hb hby d6_0) rfl ?_
  refine og_iconst X0 hx (hb hby d6_1) ?_
  refine og_icN X0 hx (hb hby d6_2) (tlt (by decide)).2.2.2 ?_
  refine og_iload X0 hx (hb hby d6_5) rfl ?_
  refine og_bipush X0 hx (hb hby d6_7) ?_
  refine og_icY X0 hx 14 (hb hby d6_9) (feq m3).2 (by decide) (by decide) ?_
  refine og_iloadN X0 hx (hb hby d6_14) rfl ?_
  refine og_iconst X0 hx (hb hby d6_15) ?_
  refine og_icN X0 hx (hb hby d6_16) (tlt (by decide)).2.2.2 ?_
  refine og_iloadN X0 hx (hb hby d6_19) rfl ?_
  refine og_bipush X0 hx (hb hby d6_20) ?_
  refine og_icN X0 hx (hb hby d6_22) (teq hsl).2 ?_
  refine og_iconst X0 hx (hb hby d6_25) ?_
  exact own_retI X0 hx hret hlk (hb hby d6_26) rfl (by simp) (by decide) (by decide) (⟨rfl, N0, e0⟩)
theorem own_lia_4_2 (l : Launch) (Z : State) (a0 : Array Value) (hw : own_W a0 Z) (b : Addr) (kb : ClassId) (dv : Value) (c0 c1 c2 c3 : Int32) (h0 : Heap) (n0 : Nat) (hc3 : ¬ c3 < 0 ∧ ¬ (255 : Int32) < c3) (m3 : ¬ c3 = 47) (hsl : c2 = 47) (Ab : Arv Z h0 b kb .byte 4 [(.int c0.toInt8.toInt32), (.int c1.toInt8.toInt32), (.int c2.toInt8.toInt32), (.int c3.toInt8.toInt32)] dv) :
    own_Met l Z (⟨"java/lang/StringLatin1", "lastIndexOf", "([BII)I"⟩ : MethodName) jdk_43_method_27_code 4 (some .int) own_r_lia #[(.ref b), (.int 47), (.int 3)] h0 (own_Qv (some (.int (2))) h0 n0) := by
  refine own_body (by decide +kernel) ?_
  intro p e s m below meth c T0 X0 hx hZ hby hml hown hnm hret hlk e0
  have N0 := Fr.nil n0
  refine own_cast (own_frame (L := [rv b, iv 47, iv 3]) (ls := #[rv b, iv 47, iv 3, .unset]) rfl rfl) ?_
  refine og_iloadN X0 hx (hb hby d13_0) rfl ?_
  refine own_callS X0 hx hZ hown (own_hw hw 66 rfl) (own_hw hw 67 rfl) (own_hw hw 64 rfl) (own_hw hw 68 rfl) (by decide) (argsL := [(.int 47)]) (rest := []) (own_ce47 l Z a0 hw h0 n0) e0 (by rw [hml]; rfl) (lenOf own_pd97859 rfl) rfl (hb hby d13_1) (W := 0) (Nat.le_of_eq rfl) (by decide) ?_
  intro v1 T1 L1 X1 q1
  obtain ⟨rfl, N1q, e1⟩ := q1
  have N1 := Fr.app N0 N1q
  show own_Go p e below _ T1 (mkF m 4 #[rv b, iv 47, iv 3, .unset] [(.int 1)])
  refine og_ifY X1 hx 9 (hb hby d13_4) (feq (by decide)).2 (by decide) (by decide) ?_
  refine og_iloadN X1 hx (hb hby d13_9) rfl ?_
  refine og_aloadN X1 hx (hb hby d13_10) rfl rfl ?_
  refine own_len X1 hx hZ e1 Ab (hb hby d13_11) ?_
  show own_Go p e below _ T1 (mkF m 12 #[rv b, iv 47, iv 3, .unset] [(.int 4), (.int 3)])
  refine og_iconst X1 hx (hb hby d13_12) ?_
  refine og_isub X1 hx (hb hby d13_13) ?_
  show own_Go p e below _ T1 (mkF m 14 #[rv b, iv 47, iv 3, .unset] [(.int 3), (.int 3)])
  refine own_callS X1 hx hZ hown (own_hw hw 69 rfl) (own_hw hw 70 rfl) (own_hw hw 71 rfl) (own_hw hw 72 rfl) (by decide) (argsL := [(.int 3), (.int 3)]) (rest := []) (own_min_3_3 l Z a0 hw h0 n0) e1 (by rw [hml]; rfl) (lenOf own_pd23903 rfl) rfl (hb hby d13_14) (W := 0) (Nat.le_of_eq rfl) (by decide) ?_
  intro v2 T2 L2 X2 q2
  obtain ⟨rfl, N2q, e2⟩ := q2
  have N2 := Fr.app N1 N2q
  show own_Go p e below _ T2 (mkF m 17 #[rv b, iv 47, iv 3, .unset] [(.int 3)])
  refine og_istoreN X2 hx #[rv b, iv 47, iv 3, iv 3] (hb hby d13_17) rfl ?_
  refine og_iloadN X2 hx (hb hby d13_18) rfl ?_
  refine og_ifN X2 hx (hb hby d13_19) (flt (by decide)).1 ?_
  refine og_aloadN X2 hx (hb hby d13_22) rfl rfl ?_
  refine og_iloadN X2 hx (hb hby d13_23) rfl ?_
  refine own_ldB X2 hx hZ e2 Ab ⟨by decide, by decide⟩ rfl (hb hby d13_24) ?_
  show own_Go p e below _ T2 (mkF m 25 #[rv b, iv 47, iv 3, iv 3] [(.int c3.toInt8.toInt32)])
  refine og_iloadN X2 hx (hb hby d13_25) rfl ?_
  refine own_go (fun t k => XS.i2b X2.here hx rfl (hb hby d13_26) rfl k) ?_
  show own_Go p e below _ T2 (mkF m 27 #[rv b, iv 47, iv 3, iv 3] [(.int 47), (.int c3.toInt8.toInt32)])
  refine og_icY X2 hx 32 (hb hby d13_27) (feq (fun q => m3 (own_b47 _ hc3 q))).2 (by decide) (by decide) ?_
  refine own_go (fun t k => XS.iinc X2.here hx rfl (hb hby d13_32) rfl (l' := #[rv b, iv 47, iv 3, iv 2]) rfl k) ?_
  show own_Go p e below _ T2 (mkF m 35 #[rv b, iv 47, iv 3, iv 2] [])
  refine og_goto X2 hx 18 (hb hby d13_35) (by decide) (by decide) ?_
  refine og_iloadN X2 hx (hb hby d13_18) rfl ?_
  refine og_ifN X2 hx (hb hby d13_19) (flt (by decide)).1 ?_
  refine og_aloadN X2 hx (hb hby d13_22) rfl rfl ?_
  refine og_iloadN X2 hx (hb hby d13_23) rfl ?_
  refine own_ldB X2 hx hZ e2 Ab ⟨by decide, by decide⟩ rfl (hb hby d13_24) ?_
  show own_Go p e below _ T2 (mkF m 25 #[rv b, iv 47, iv 3, iv 2] [(.int c2.toInt8.toInt32)])
  refine og_iloadN X2 hx (hb hby d13_25) rfl ?_
  refine own_go (fun t k => XS.i2b X2.here hx rfl (hb hby d13_26) rfl k) ?_
  show own_Go p e below _ T2 (mkF m 27 #[rv b, iv 47, iv 3, iv 2] [(.int 47), (.int c2.toInt8.toInt32)])
  refine og_icN X2 hx (hb hby d13_27) (teq (by rw [hsl]; rfl)).2 ?_
  refine og_iloadN X2 hx (hb hby d13_30) rfl ?_
  exact own_retI X2 hx hret hlk (hb hby d13_31) rfl (by simp) (by decide) (by decide) (⟨rfl, N2, e2⟩)
def own_r_own_min_4_2 : Room := { frames := 0, cells := 0, slots := 0, locals := 0 }
theorem own_min_4_2 (l : Launch) (Z : State) (a0 : Array Value) (hw : own_W a0 Z)  (h0 : Heap) (n0 : Nat)  :
    own_Met l Z (⟨"java/lang/Math", "min", "(II)I"⟩ : MethodName) jdk_29_method_69_code 2 (some .int) own_r_own_min_4_2 #[(.int 4), (.int 2)] h0 (own_Qv (some (.int (2))) h0 n0) := by
  refine own_body (by decide +kernel) ?_
  intro p e s m below meth c T0 X0 hx hZ hby hml hown hnm hret hlk e0
  have N0 := Fr.nil n0
  refine own_cast (own_frame (L := [iv 4, iv 2]) (ls := #[iv 4, iv 2]) rfl rfl) ?_
  refine og_iloadN X0 hx (hb hby d15_0) rfl ?_
  refine og_iloadN X0 hx (hb hby d15_1) rfl ?_
  refine og_icY X0 hx 9 (hb hby d15_2) (tlt (by decide)).2.2.1 (by decide) (by decide) ?_
  refine og_iloadN X0 hx (hb hby d15_9) rfl ?_
  exact own_retI X0 hx hret hlk (hb hby d15_10) rfl (by simp) (by decide) (by decide) (⟨rfl, N0, e0⟩)
def own_Qr_0_2_4 (Z : State) (h0 : Heap) (n0 : Nat) (v0 v1 v2 v3 : Value) (v : Option Value) (h : Heap) (L : List Loc) : Prop := ∃ (b : Addr) (k : ClassId), v = some (.ref b) ∧ Fr n0 L ∧ Keep h0 h [] ∧ h0.size ≤ b ∧ n0 ≤ b ∧ Arv Z h b k .byte 2 [v0, v1] (.int (0 : Int32))
def own_r_own_crb_0_2_4 : Room := { frames := 1, cells := 1, slots := 2, locals := 18 }
theorem own_crb_0_2_4 (l : Launch) (Z : State) (a0 : Array Value) (hw : own_W a0 Z) (b : Addr) (kb : ClassId) (dv : Value) (v0 v1 v2 v3 : Value) (h0 : Heap) (n0 : Nat) (hO : Old Z n0 h0) (Ab : Arv Z h0 b kb .byte 4 [v0, v1, v2, v3] dv) :
    own_Met l Z (⟨"java/util/Arrays", "copyOfRangeByte", "([BII)[B"⟩ : MethodName) jdk_65_method_133_code 5 (some (.array .byte)) own_r_own_crb_0_2_4 #[(.ref b), (.int 0), (.int 2)] h0 (own_Qr_0_2_4 Z h0 n0 v0 v1 v2 v3) := by
  refine own_body (by decide +kernel) ?_
  intro p e s m below meth c T0 X0 hx hZ hby hml hown hnm hret hlk e0
  have N0 := Fr.nil n0
  refine own_cast (own_frame (L := [rv b, iv 0, iv 2]) (ls := #[rv b, iv 0, iv 2, .unset, .unset]) rfl rfl) ?_
  refine og_iloadN X0 hx (hb hby d25_0) rfl ?_
  refine og_iloadN X0 hx (hb hby d25_1) rfl ?_
  refine own_callS X0 hx hZ hown (own_hw hw 113 rfl) (own_hw hw 114 rfl) (own_hw hw 108 rfl) (own_hw hw 115 rfl) (by decide) (argsL := [(.int 0), (.int 2)]) (rest := []) (own_ckl_0_2 l Z a0 hw h0 n0) e0 (by rw [hml]; rfl) (lenOf own_pd97226 rfl) rfl (hb hby d25_2) (W := 0) (Nat.le_of_eq rfl) (by decide) ?_
  intro v1 T1 L1 X1 q1
  obtain ⟨rfl, N1q, e1⟩ := q1
  have N1 := Fr.app N0 N1q
  show own_Go p e below _ T1 (mkF m 5 #[rv b, iv 0, iv 2, .unset, .unset] [])
  refine og_iloadN X1 hx (hb hby d25_5) rfl ?_
  refine og_iloadN X1 hx (hb hby d25_6) rfl ?_
  refine og_isub X1 hx (hb hby d25_7) ?_
  refine og_istoreN X1 hx #[rv b, iv 0, iv 2, iv 2, .unset] (hb hby d25_8) rfl ?_
  refine og_iloadN X1 hx (hb hby d25_9) rfl ?_
  refine own_newP X1 hx hZ (own_hw hw 22 rfl) e1 (hb hby d25_10) (by decide) 2 (by decide) (by decide) (by decide) (by decide) ?_
  intro T2 h2 k2 b2 g2 X2 e2 E2 A2
  have ne_b_b2 : b ≠ b2 := Nat.ne_of_lt (Nat.lt_of_lt_of_eq Ab.lt g2.symm)
  have ge_b2 : n0 ≤ b2 := Nat.le_trans (own_oldle hO) (Nat.le_of_eq g2.symm)
  have sz_b2 : h0.size ≤ b2 := Nat.le_trans (Keep.refl h0 []).1 (Nat.le_of_eq g2.symm)
  have A_b_2 := Ab.ext E2
  have O2 := hO.ext E2
  have K2 := (Keep.refl h0 []).ext E2
  have A_b2_2 : Arv Z h2 b2 k2 .byte 2 [(.int (0 : Int32)), (.int (0 : Int32))] (.int (0 : Int32)) := A2
  show own_Go p e below _ T2 (mkF m 12 #[rv b, iv 0, iv 2, iv 2, .unset] [(.ref b2)])
  refine og_astore X2 hx #[rv b, iv 0, iv 2, iv 2, rv b2] (hb hby d25_12) rfl rfl ?_
  refine og_aloadN X2 hx (hb hby d25_14) rfl rfl ?_
  refine og_iloadN X2 hx (hb hby d25_15) rfl ?_
  refine og_aload X2 hx (hb hby d25_16) rfl rfl ?_
  refine og_iconst X2 hx (hb hby d25_18) ?_
  refine og_aloadN X2 hx (hb hby d25_19) rfl rfl ?_
  refine own_len X2 hx hZ e2 A_b_2 (hb hby d25_20) ?_
  show own_Go p e below _ T2 (mkF m 21 #[rv b, iv 0, iv 2, iv 2, rv b2] [(.int 4), (.int 0), (.ref b2), (.int 0), (.ref b)])
  refine og_iloadN X2 hx (hb hby d25_21) rfl ?_
  refine og_isub X2 hx (hb hby d25_22) ?_
  refine og_iloadN X2 hx (hb hby d25_23) rfl ?_
  refine own_callS X2 hx hZ hown (own_hw hw 116 rfl) (own_hw hw 70 rfl) (own_hw hw 71 rfl) (own_hw hw 72 rfl) (by decide) (argsL := [(.int 4), (.int 2)]) (rest := [(.int 0), (.ref b2), (.int 0), (.ref b)]) (own_min_4_2 l Z a0 hw h2 n0) e2 (by rw [hml]; rfl) (lenOf own_pd23903 rfl) rfl (hb hby d25_24) (W := 4) (Nat.le_of_eq rfl) (by decide) ?_
  intro v3 T3 L3 X3 q3
  obtain ⟨rfl, N3q, e3⟩ := q3
  have N3 := Fr.app N1 N3q
  show own_Go p e below _ T3 (mkF m 27 #[rv b, iv 0, iv 2, iv 2, rv b2] [(.int 2), (.int 0), (.ref b2), (.int 0), (.ref b)])
  obtain ⟨T4, h4, L4, X4, e4, N4, K4q, A4, st4⟩ := cpA X3 hx hZ hown (own_hw hw 117 rfl) (own_hw hw 120 rfl) (own_hw hw 118 rfl) (own_hw hw 119 rfl) e3 A_b_2 A_b2_2 (us := [v0, v1]) (Or.inl ⟨rfl, rfl⟩) (by decide) (by decide) (by decide) (by decide) (by decide) rfl (by decide) N3 ge_b2 (g := (mkF m 27 #[rv b, iv 0, iv 2, iv 2, rv b2] [(.int 2), (.int 0), (.ref b2), (.int 0), (.ref b)])) rfl (by rw [hml]; rfl) rfl (hb hby d25_27) (by decide) (W := 0) (by show 2 * 0 + _ ≤ _; exact Nat.le_of_eq rfl) (by decide)
  refine own_go st4 ?_
  have A_b_4 := A_b_2.keep K4q (ninS ne_b_b2 nin0)
  have O4 := O2.keep K4q (allS ge_b2 all0)
  have K4 := K2.trans K4q (allS (Or.inr sz_b2) all0)
  have A_b2_4 : Arv Z h4 b2 k2 .byte 2 [v0, v1] (.int (0 : Int32)) := A4
  show own_Go p e below _ T4 (mkF m 30 #[rv b, iv 0, iv 2, iv 2, rv b2] [])
  refine og_aload X4 hx (hb hby d25_30) rfl rfl ?_
  exact own_retA X4 hx hret hlk (hb hby d25_32) rfl rfl (by decide) (by decide) (by rw [e4]; exact ⟨b2, _, rfl, N4, K4, sz_b2, ge_b2, A_b2_4⟩)
def own_r_own_cr_0_2_4 : Room := { frames := 2, cells := 1, slots := 2, locals := 34 }
theorem own_cr_0_2_4 (l : Launch) (Z : State) (a0 : Array Value) (hw : own_W a0 Z) (b : Addr) (kb : ClassId) (dv : Value) (v0 v1 v2 v3 : Value) (h0 : Heap) (n0 : Nat) (hO : Old Z n0 h0) (Ab : Arv Z h0 b kb .byte 4 [v0, v1, v2, v3] dv) :
    own_Met l Z (⟨"java/util/Arrays", "copyOfRange", "([BII)[B"⟩ : MethodName) jdk_65_method_132_code 3 (some (.array .byte)) own_r_own_cr_0_2_4 #[(.ref b), (.int 0), (.int 2)] h0 (own_Qr_0_2_4 Z h0 n0 v0 v1 v2 v3) := by
  refine own_body (by decide +kernel) ?_
  intro p e s m below meth c T0 X0 hx hZ hby hml hown hnm hret hlk e0
  have N0 := Fr.nil n0
  refine own_cast (own_frame (L := [rv b, iv 0, iv 2]) (ls := #[rv b, iv 0, iv 2]) rfl rfl) ?_
  refine og_iloadN X0 hx (hb hby d24_0) rfl ?_
  refine og_ifN X0 hx (hb hby d24_1) (teq rfl).2 ?_
  refine og_iloadN X0 hx (hb hby d24_4) rfl ?_
  refine og_aloadN X0 hx (hb hby d24_5) rfl rfl ?_
  refine own_len X0 hx hZ e0 Ab (hb hby d24_6) ?_
  show own_Go p e below _ T0 (mkF m 7 #[rv b, iv 0, iv 2] [(.int 4), (.int 2)])
  refine og_icN X0 hx (hb hby d24_7) (feq (by decide)).1 ?_
  refine og_aloadN X0 hx (hb hby d24_10) rfl rfl ?_
  refine og_iloadN X0 hx (hb hby d24_11) rfl ?_
  refine og_iloadN X0 hx (hb hby d24_12) rfl ?_
  refine own_callS X0 hx hZ hown (own_hw hw 110 rfl) (own_hw hw 111 rfl) (own_hw hw 108 rfl) (own_hw hw 112 rfl) (by decide) (argsL := [(.ref b), (.int 0), (.int 2)]) (rest := []) (own_crb_0_2_4 l Z a0 hw b _ _ v0 v1 v2 v3 h0 n0 hO Ab) e0 (by rw [hml]; rfl) (lenOf own_pd77155 rfl) rfl (hb hby d24_13) (W := 0) (Nat.le_of_eq rfl) (by decide) ?_
  intro v1 T1 L1 X1 q1
  obtain ⟨b1, k1, rfl, N1q, K1q, z1q, g1q, A1q⟩ := q1
  have N1 := Fr.app N0 N1q
  have ne_b_b1 : b ≠ b1 := Nat.ne_of_lt (Nat.lt_of_lt_of_le Ab.lt z1q)
  have sz_b1 : h0.size ≤ b1 := Nat.le_trans (Keep.refl h0 []).1 z1q
  have A_b_1 := Ab.keep K1q nin0
  have O1 := hO.keep K1q all0
  have K1 := (Keep.refl h0 []).trans K1q all0
  show own_Go p e below _ T1 (mkF m 16 #[rv b, iv 0, iv 2] [(.ref b1)])
  exact own_retA X1 hx hret hlk (hb hby d24_16) rfl rfl (by decide) (by decide) (⟨b1, _, rfl, N1, K1, sz_b1, g1q, A1q⟩)
def own_r_own_ns_0_2_4 : Room := { frames := 3, cells := 2, slots := 6, locals := 50 }
theorem own_ns_0_2_4 (l : Launch) (Z : State) (a0 : Array Value) (hw : own_W a0 Z) (b : Addr) (kb : ClassId) (dv : Value) (v0 v1 v2 v3 : Value) (h0 : Heap) (n0 : Nat) (hO : Old Z n0 h0) (Ab : Arv Z h0 b kb .byte 4 [v0, v1, v2, v3] dv) :
    own_Met l Z (⟨"java/lang/StringLatin1", "newString", "([BII)Ljava/lang/String;"⟩ : MethodName) jdk_43_method_47_code 3 (some (.object "java/lang/String")) own_r_own_ns_0_2_4 #[(.ref b), (.int 0), (.int 2)] h0 (own_Qs2 Z h0 n0 v0 v1) := by
  refine own_body (by decide +kernel) ?_
  intro p e s m below meth c T0 X0 hx hZ hby hml hown hnm hret hlk e0
  have N0 := Fr.nil n0
  refine own_cast (own_frame (L := [rv b, iv 0, iv 2]) (ls := #[rv b, iv 0, iv 2]) rfl rfl) ?_
  refine og_iloadN X0 hx (hb hby d23_0) rfl ?_
  refine og_ifY X0 hx 7 (hb hby d23_1) (feq (by decide)).2 (by decide) (by decide) ?_
  refine own_newO X0 hx hZ hown (own_hw hw 105 rfl) (own_hw hw 8 rfl) (own_hw hw 9 rfl) e0 (hb hby d23_7) (by decide) (by decide) ?_
  intro T1 h1 b1 g1 X1 e1 E1 A1 D1
  have ne_b_b1 : b ≠ b1 := Nat.ne_of_lt (Nat.lt_of_lt_of_eq Ab.lt g1.symm)
  have ge_b1 : n0 ≤ b1 := Nat.le_trans (own_oldle hO) (Nat.le_of_eq g1.symm)
  have sz_b1 : h0.size ≤ b1 := Nat.le_trans (Keep.refl h0 []).1 (Nat.le_of_eq g1.symm)
  have A_b_1 := Ab.ext E1
  have O1 := hO.ext E1
  have K1 := (Keep.refl h0 []).ext E1
  have F_b1_value_1 : Fld Z h1 b1 "java/lang/String" "value" "[B" .null := D1 (Or.inr (own_hw hw 23 rfl)) (ty := (.array .byte)) (by decide)
  have F_b1_coder_1 : Fld Z h1 b1 "java/lang/String" "coder" "B" (.int 0) := D1 (Or.inr (own_hw hw 24 rfl)) (ty := .byte) (by decide)
  show own_Go p e below _ T1 (mkF m 10 #[rv b, iv 0, iv 2] [(.ref b1)])
  refine og_dup X1 hx (hb hby d23_10) rfl ?_
  refine og_aloadN X1 hx (hb hby d23_11) rfl rfl ?_
  refine og_iloadN X1 hx (hb hby d23_12) rfl ?_
  refine og_iloadN X1 hx (hb hby d23_13) rfl ?_
  refine og_iloadN X1 hx (hb hby d23_14) rfl ?_
  refine og_iadd X1 hx (hb hby d23_15) ?_
  show own_Go p e below _ T1 (mkF m 16 #[rv b, iv 0, iv 2] [(.int 2), (.int 0), (.ref b), (.ref b1), (.ref b1)])
  refine own_callS X1 hx hZ hown (own_hw hw 106 rfl) (own_hw hw 107 rfl) (own_hw hw 108 rfl) (own_hw hw 109 rfl) (by decide) (argsL := [(.ref b), (.int 0), (.int 2)]) (rest := [(.ref b1), (.ref b1)]) (own_cr_0_2_4 l Z a0 hw b _ _ v0 v1 v2 v3 h1 n0 O1 A_b_1) e1 (by rw [hml]; rfl) (lenOf own_pd77155 rfl) rfl (hb hby d23_16) (W := 2) (Nat.le_of_eq rfl) (by decide) ?_
  intro v2 T2 L2 X2 q2
  obtain ⟨b2, k2, rfl, N2q, K2q, z2q, g2q, A2q⟩ := q2
  have N2 := Fr.app N0 N2q
  have ne_b_b2 : b ≠ b2 := Nat.ne_of_lt (Nat.lt_of_lt_of_le A_b_1.lt z2q)
  have ne_b1_b2 : b1 ≠ b2 := Nat.ne_of_lt (Nat.lt_of_lt_of_le A1.lt z2q)
  have sz_b2 : h0.size ≤ b2 := Nat.le_trans K1.1 z2q
  have A_b_2 := A_b_1.keep K2q nin0
  have E_b1_2 := A1.keep K2q
  have F_b1_value_2 := F_b1_value_1.keep K2q nin0
  have F_b1_coder_2 := F_b1_coder_1.keep K2q nin0
  have O2 := O1.keep K2q all0
  have K2 := K1.trans K2q all0
  show own_Go p e below _ T2 (mkF m 19 #[rv b, iv 0, iv 2] [(.ref b2), (.ref b1), (.ref b1)])
  refine og_iconst X2 hx (hb hby d23_19) ?_
  refine own_callN X2 hx hZ hown (own_hw hw 121 rfl) (own_hw hw 122 rfl) (own_hw hw 123 rfl) (own_hw hw 9 rfl) (by decide) rfl (b := b1) (argsL := [(.ref b2), (.int 0)]) (rest := [(.ref b1)]) (own_si l Z a0 hw b1 b2 _ _ T2.heap n0 O2 ge_b1 E_b1_2 F_b1_value_2 F_b1_coder_2) rfl (by rw [hml]; rfl) (lenOf own_pd58512 rfl) rfl (hb hby d23_20) (W := 1) (Nat.le_of_eq rfl) (by decide) ?_
  intro v3 T3 L3 X3 q3
  obtain ⟨rfl, N3q, K3q, Fv3, Fc3⟩ := q3
  have N3 := Fr.app N2 N3q
  have A_b_3 := A_b_2.keep K3q (ninS ne_b_b1 nin0)
  have E_b1_3 := E_b1_2.keep K3q
  have A_b2_3 := A2q.keep K3q (ninS (Ne.symm ne_b1_b2) nin0)
  have O3 := O2.keep K3q (allS ge_b1 all0)
  have K3 := K2.trans K3q (allS (Or.inr sz_b1) all0)
  show own_Go p e below _ T3 (mkF m 23 #[rv b, iv 0, iv 2] [(.ref b1)])
  exact own_retA X3 hx hret hlk (hb hby d23_23) rfl rfl (by decide) (by decide) (⟨b1, b2, _, rfl, N3, K3, sz_b1, ge_b1, sz_b2, g2q, ne_b1_b2, E_b1_3, Fv3, Fc3, A_b2_3⟩)
def own_r_own_po_4_2 : Room := { frames := 5, cells := 2, slots := 6, locals := 80 }
theorem own_po_4_2 (l : Launch) (Z : State) (a0 : Array Value) (hw : own_W a0 Z) (z : Int32) (sf : Value) (t b : Addr) (kb : ClassId) (dv : Value) (c0 c1 c2 c3 : Int32) (h0 : Heap) (n0 : Nat) (hO : Old Z n0 h0) (hG : own_Gs Z z sf) (hc3 : ¬ c3 < 0 ∧ ¬ (255 : Int32) < c3) (m3 : ¬ c3 = 47) (hsl : c2 = 47) (Et : own_E Z h0 t) (Fv : own_V Z h0 t b) (Fc : own_C Z h0 t) (Ab : Arv Z h0 b kb .byte 4 [(.int c0.toInt8.toInt32), (.int c1.toInt8.toInt32), (.int c2.toInt8.toInt32), (.int c3.toInt8.toInt32)] dv) :
    own_Met l Z (⟨"com/example/svazek/svazek/PackageFolder", "placeOf", "(Ljava/lang/String;)Ljava/lang/String;"⟩ : MethodName) prog_41_method_7_code 2 (some (.object "java/lang/String")) own_r_own_po_4_2 #[(.ref t)] h0 (own_Qs2 Z h0 n0 (.int c0.toInt8.toInt32) (.int c1.toInt8.toInt32)) := by
  refine own_body (by decide +kernel) ?_
  intro p e s m below meth c T0 X0 hx hZ hby hml hown hnm hret hlk e0
  have N0 := Fr.nil n0
  refine own_cast (own_frame (L := [rv t]) (ls := #[rv t, .unset]) rfl rfl) ?_
  obtain ⟨SC, hz, SF, rf⟩ := id hG
  refine og_aloadN X0 hx (hb hby d7_0) rfl rfl ?_
  refine og_bipush X0 hx (hb hby d7_1) ?_
  refine own_callV X0 hx hZ hown (own_hw hw 36 rfl) (own_hw hw 37 rfl) (notFace_of_selects (args := #[]) (mvT hZ (own_hw hw 39 rfl))) (own_hw hw 39 rfl) (own_hw hw 38 rfl) (own_hw hw 40 rfl) (own_hw hw 9 rfl) (by decide) (b := t) (argsL := [(.int 47)]) (rest := []) (own_lic_4 l Z a0 hw z sf t b _ _ c0 c1 c2 c3 (2) h0 n0 hO hG (own_lia_4_2 l Z a0 hw b _ _ c0 c1 c2 c3 h0 n0 hc3 m3 hsl Ab) Et Fv Fc Ab) e0 Et (by rw [hml]; rfl) (lenOf own_pd49053 rfl) rfl (hb hby d7_3) (W := 0) (Nat.le_of_eq rfl) (by decide) ?_
  intro v1 T1 L1 X1 q1
  obtain ⟨rfl, N1q, e1⟩ := q1
  have N1 := Fr.app N0 N1q
  show own_Go p e below _ T1 (mkF m 6 #[rv t, .unset] [(.int 2)])
  refine og_istoreN X1 hx #[rv t, iv 2] (hb hby d7_6) rfl ?_
  refine og_iloadN X1 hx (hb hby d7_7) rfl ?_
  refine og_ifY X1 hx 16 (hb hby d7_8) (flt (by decide)).2.1 (by decide) (by decide) ?_
  refine og_aloadN X1 hx (hb hby d7_16) rfl rfl ?_
  refine og_iconst X1 hx (hb hby d7_17) ?_
  refine og_iloadN X1 hx (hb hby d7_18) rfl ?_
  refine own_callV X1 hx hZ hown (own_hw hw 89 rfl) (own_hw hw 90 rfl) (notFace_of_selects (args := #[]) (mvT hZ (own_hw hw 92 rfl))) (own_hw hw 92 rfl) (own_hw hw 91 rfl) (own_hw hw 93 rfl) (own_hw hw 9 rfl) (by decide) (b := t) (argsL := [(.int 0), (.int 2)]) (rest := []) (own_subNz2 l Z a0 hw z sf t b _ _ _ _ 2 (.int c0.toInt8.toInt32) (.int c1.toInt8.toInt32) h0 n0 hO hG (by decide) (by decide) (by decide) (own_ns_0_2_4 l Z a0 hw b _ _ (.int c0.toInt8.toInt32) (.int c1.toInt8.toInt32) (.int c2.toInt8.toInt32) (.int c3.toInt8.toInt32) h0 n0 hO Ab) Et Fv Fc Ab) e1 Et (by rw [hml]; rfl) (lenOf own_pd41291 rfl) rfl (hb hby d7_19) (W := 0) (Nat.le_of_eq rfl) (by decide) ?_
  intro v2 T2 L2 X2 q2
  obtain ⟨t2, vb2, k2, rfl, N2q, K2q, zt2, gt2, zb2, gb2, ne_t2_vb2, Et2, Ft2, Ct2, At2⟩ := q2
  have N2 := Fr.app N1 N2q
  have ne_b_t2 : b ≠ t2 := Nat.ne_of_lt (Nat.lt_of_lt_of_le Ab.lt zt2)
  have ne_t_t2 : t ≠ t2 := Nat.ne_of_lt (Nat.lt_of_lt_of_le Et.lt zt2)
  have sz_t2 : h0.size ≤ t2 := Nat.le_trans (Keep.refl h0 []).1 zt2
  have ne_b_vb2 : b ≠ vb2 := Nat.ne_of_lt (Nat.lt_of_lt_of_le Ab.lt zb2)
  have ne_t_vb2 : t ≠ vb2 := Nat.ne_of_lt (Nat.lt_of_lt_of_le Et.lt zb2)
  have sz_vb2 : h0.size ≤ vb2 := Nat.le_trans (Keep.refl h0 []).1 zb2
  have E_t_2 := Et.keep K2q
  have F_t_value_2 := Fv.keep K2q nin0
  have F_t_coder_2 := Fc.keep K2q nin0
  have A_b_2 := Ab.keep K2q nin0
  have O2 := hO.keep K2q all0
  have K2 := (Keep.refl h0 []).trans K2q all0
  show own_Go p e below _ T2 (mkF m 22 #[rv t, iv 2] [(.ref t2)])
  exact own_retA X2 hx hret hlk (hb hby d7_22) rfl rfl (by decide) (by decide) (⟨t2, vb2, _, rfl, N2, K2, sz_t2, gt2, sz_vb2, gb2, ne_t2_vb2, Et2, Ft2, Ct2, At2⟩)
theorem d6_12 : decode method_5_code 12 = .ok (.iconst 3, 1) := by decide +kernel
theorem d6_13 : decode method_5_code 13 = .ok (.ireturn, 1) := by decide +kernel
def own_r_own_ls_4_3 : Room := { frames := 0, cells := 0, slots := 0, locals := 0 }
theorem own_ls_4_3 (l : Launch) (Z : State) (a0 : Array Value) (hw : own_W a0 Z) (c0 c1 c2 c3 : Int32) (h0 : Heap) (n0 : Nat)  (hsl : c3 = 47) :
    own_Met l Z (⟨"com/example/svazek/svazek/PackageFolderPlaceOfPinLaw", "lastSlash", "(ICCCC)I"⟩ : MethodName) method_5_code 5 (some .int) own_r_own_ls_4_3 #[(.int 4), (.int c0), (.int c1), (.int c2), (.int c3)] h0 (own_Qv (some (.int (3))) h0 n0) := by
  refine own_body (by decide +kernel) ?_
  intro p e s m below meth c T0 X0 hx hZ hby hml hown hnm hret hlk e0
  have N0 := Fr.nil n0
  refine own_cast (own_frame (L := [iv 4, iv c0, iv c1, iv c2, iv c3]) (ls := #[iv 4, iv c0, iv c1, iv c2, iv c3]) rfl rfl) ?_
  refine og_iloadN X0 hx (hb hby d6_0) rfl ?_
  refine og_iconst X0 hx (hb hby d6_1) ?_
  refine og_icN X0 hx (hb hby d6_2) (tlt (by decide)).2.2.2 ?_
  refine og_iload X0 hx (hb hby d6_5) rfl ?_
  refine og_bipush X0 hx (hb hby d6_7) ?_
  refine og_icN X0 hx (hb hby d6_9) (teq hsl).2 ?_
  refine og_iconst X0 hx (hb hby d6_12) ?_
  exact own_retI X0 hx hret hlk (hb hby d6_13) rfl (by simp) (by decide) (by decide) (⟨rfl, N0, e0⟩)
theorem own_lia_4_3 (l : Launch) (Z : State) (a0 : Array Value) (hw : own_W a0 Z) (b : Addr) (kb : ClassId) (dv : Value) (c0 c1 c2 c3 : Int32) (h0 : Heap) (n0 : Nat)  (hsl : c3 = 47) (Ab : Arv Z h0 b kb .byte 4 [(.int c0.toInt8.toInt32), (.int c1.toInt8.toInt32), (.int c2.toInt8.toInt32), (.int c3.toInt8.toInt32)] dv) :
    own_Met l Z (⟨"java/lang/StringLatin1", "lastIndexOf", "([BII)I"⟩ : MethodName) jdk_43_method_27_code 4 (some .int) own_r_lia #[(.ref b), (.int 47), (.int 3)] h0 (own_Qv (some (.int (3))) h0 n0) := by
  refine own_body (by decide +kernel) ?_
  intro p e s m below meth c T0 X0 hx hZ hby hml hown hnm hret hlk e0
  have N0 := Fr.nil n0
  refine own_cast (own_frame (L := [rv b, iv 47, iv 3]) (ls := #[rv b, iv 47, iv 3, .unset]) rfl rfl) ?_
  refine og_iloadN X0 hx (hb hby d13_0) rfl ?_
  refine own_callS X0 hx hZ hown (own_hw hw 66 rfl) (own_hw hw 67 rfl) (own_hw hw 64 rfl) (own_hw hw 68 rfl) (by decide) (argsL := [(.int 47)]) (rest := []) (own_ce47 l Z a0 hw h0 n0) e0 (by rw [hml]; rfl) (lenOf own_pd97859 rfl) rfl (hb hby d13_1) (W := 0) (Nat.le_of_eq rfl) (by decide) ?_
  intro v1 T1 L1 X1 q1
  obtain ⟨rfl, N1q, e1⟩ := q1
  have N1 := Fr.app N0 N1q
  show own_Go p e below _ T1 (mkF m 4 #[rv b, iv 47, iv 3, .unset] [(.int 1)])
  refine og_ifY X1 hx 9 (hb hby d13_4) (feq (by decide)).2 (by decide) (by decide) ?_
  refine og_iloadN X1 hx (hb hby d13_9) rfl ?_
  refine og_aloadN X1 hx (hb hby d13_10) rfl rfl ?_
  refine own_len X1 hx hZ e1 Ab (hb hby d13_11) ?_
  show own_Go p e below _ T1 (mkF m 12 #[rv b, iv 47, iv 3, .unset] [(.int 4), (.int 3)])
  refine og_iconst X1 hx (hb hby d13_12) ?_
  refine og_isub X1 hx (hb hby d13_13) ?_
  show own_Go p e below _ T1 (mkF m 14 #[rv b, iv 47, iv 3, .unset] [(.int 3), (.int 3)])
  refine own_callS X1 hx hZ hown (own_hw hw 69 rfl) (own_hw hw 70 rfl) (own_hw hw 71 rfl) (own_hw hw 72 rfl) (by decide) (argsL := [(.int 3), (.int 3)]) (rest := []) (own_min_3_3 l Z a0 hw h0 n0) e1 (by rw [hml]; rfl) (lenOf own_pd23903 rfl) rfl (hb hby d13_14) (W := 0) (Nat.le_of_eq rfl) (by decide) ?_
  intro v2 T2 L2 X2 q2
  obtain ⟨rfl, N2q, e2⟩ := q2
  have N2 := Fr.app N1 N2q
  show own_Go p e below _ T2 (mkF m 17 #[rv b, iv 47, iv 3, .unset] [(.int 3)])
  refine og_istoreN X2 hx #[rv b, iv 47, iv 3, iv 3] (hb hby d13_17) rfl ?_
  refine og_iloadN X2 hx (hb hby d13_18) rfl ?_
  refine og_ifN X2 hx (hb hby d13_19) (flt (by decide)).1 ?_
  refine og_aloadN X2 hx (hb hby d13_22) rfl rfl ?_
  refine og_iloadN X2 hx (hb hby d13_23) rfl ?_
  refine own_ldB X2 hx hZ e2 Ab ⟨by decide, by decide⟩ rfl (hb hby d13_24) ?_
  show own_Go p e below _ T2 (mkF m 25 #[rv b, iv 47, iv 3, iv 3] [(.int c3.toInt8.toInt32)])
  refine og_iloadN X2 hx (hb hby d13_25) rfl ?_
  refine own_go (fun t k => XS.i2b X2.here hx rfl (hb hby d13_26) rfl k) ?_
  show own_Go p e below _ T2 (mkF m 27 #[rv b, iv 47, iv 3, iv 3] [(.int 47), (.int c3.toInt8.toInt32)])
  refine og_icN X2 hx (hb hby d13_27) (teq (by rw [hsl]; rfl)).2 ?_
  refine og_iloadN X2 hx (hb hby d13_30) rfl ?_
  exact own_retI X2 hx hret hlk (hb hby d13_31) rfl (by simp) (by decide) (by decide) (⟨rfl, N2, e2⟩)
def own_r_own_ckl_0_3 : Room := { frames := 0, cells := 0, slots := 0, locals := 0 }
theorem own_ckl_0_3 (l : Launch) (Z : State) (a0 : Array Value) (hw : own_W a0 Z)  (h0 : Heap) (n0 : Nat)  :
    own_Met l Z (⟨"java/util/Arrays", "checkLength", "(II)V"⟩ : MethodName) jdk_65_method_131_code 2 none own_r_own_ckl_0_3 #[(.int 0), (.int 3)] h0 (own_Qv none h0 n0) := by
  refine own_body (by decide +kernel) ?_
  intro p e s m below meth c T0 X0 hx hZ hby hml hown hnm hret hlk e0
  have N0 := Fr.nil n0
  refine own_cast (own_frame (L := [iv 0, iv 3]) (ls := #[iv 0, iv 3]) rfl rfl) ?_
  refine og_iloadN X0 hx (hb hby d26_0) rfl ?_
  refine og_iloadN X0 hx (hb hby d26_1) rfl ?_
  refine og_icY X0 hx 37 (hb hby d26_2) (flt (by decide)).2.1 (by decide) (by decide) ?_
  exact own_retV X0 hx hret hlk (hb hby d26_37) (by decide) (by decide) (⟨rfl, N0, e0⟩)
def own_r_own_min_4_3 : Room := { frames := 0, cells := 0, slots := 0, locals := 0 }
theorem own_min_4_3 (l : Launch) (Z : State) (a0 : Array Value) (hw : own_W a0 Z)  (h0 : Heap) (n0 : Nat)  :
    own_Met l Z (⟨"java/lang/Math", "min", "(II)I"⟩ : MethodName) jdk_29_method_69_code 2 (some .int) own_r_own_min_4_3 #[(.int 4), (.int 3)] h0 (own_Qv (some (.int (3))) h0 n0) := by
  refine own_body (by decide +kernel) ?_
  intro p e s m below meth c T0 X0 hx hZ hby hml hown hnm hret hlk e0
  have N0 := Fr.nil n0
  refine own_cast (own_frame (L := [iv 4, iv 3]) (ls := #[iv 4, iv 3]) rfl rfl) ?_
  refine og_iloadN X0 hx (hb hby d15_0) rfl ?_
  refine og_iloadN X0 hx (hb hby d15_1) rfl ?_
  refine og_icY X0 hx 9 (hb hby d15_2) (tlt (by decide)).2.2.1 (by decide) (by decide) ?_
  refine og_iloadN X0 hx (hb hby d15_9) rfl ?_
  exact own_retI X0 hx hret hlk (hb hby d15_10) rfl (by simp) (by decide) (by decide) (⟨rfl, N0, e0⟩)
def own_Qr_0_3_4 (Z : State) (h0 : Heap) (n0 : Nat) (v0 v1 v2 v3 : Value) (v : Option Value) (h : Heap) (L : List Loc) : Prop := ∃ (b : Addr) (k : ClassId), v = some (.ref b) ∧ Fr n0 L ∧ Keep h0 h [] ∧ h0.size ≤ b ∧ n0 ≤ b ∧ Arv Z h b k .byte 3 [v0, v1, v2] (.int (0 : Int32))
def own_r_own_crb_0_3_4 : Room := { frames := 1, cells := 1, slots := 3, locals := 18 }
theorem own_crb_0_3_4 (l : Launch) (Z : State) (a0 : Array Value) (hw : own_W a0 Z) (b : Addr) (kb : ClassId) (dv : Value) (v0 v1 v2 v3 : Value) (h0 : Heap) (n0 : Nat) (hO : Old Z n0 h0) (Ab : Arv Z h0 b kb .byte 4 [v0, v1, v2, v3] dv) :
    own_Met l Z (⟨"java/util/Arrays", "copyOfRangeByte", "([BII)[B"⟩ : MethodName) jdk_65_method_133_code 5 (some (.array .byte)) own_r_own_crb_0_3_4 #[(.ref b), (.int 0), (.int 3)] h0 (own_Qr_0_3_4 Z h0 n0 v0 v1 v2 v3) := by
  refine own_body (by decide +kernel) ?_
  intro p e s m below meth c T0 X0 hx hZ hby hml hown hnm hret hlk e0
  have N0 := Fr.nil n0
  refine own_cast (own_frame (L := [rv b, iv 0, iv 3]) (ls := #[rv b, iv 0, iv 3, .unset, .unset]) rfl rfl) ?_
  refine og_iloadN X0 hx (hb hby d25_0) rfl ?_
  refine og_iloadN X0 hx (hb hby d25_1) rfl ?_
  refine own_callS X0 hx hZ hown (own_hw hw 113 rfl) (own_hw hw 114 rfl) (own_hw hw 108 rfl) (own_hw hw 115 rfl) (by decide) (argsL := [(.int 0), (.int 3)]) (rest := []) (own_ckl_0_3 l Z a0 hw h0 n0) e0 (by rw [hml]; rfl) (lenOf own_pd97226 rfl) rfl (hb hby d25_2) (W := 0) (Nat.le_of_eq rfl) (by decide) ?_
  intro v1 T1 L1 X1 q1
  obtain ⟨rfl, N1q, e1⟩ := q1
  have N1 := Fr.app N0 N1q
  show own_Go p e below _ T1 (mkF m 5 #[rv b, iv 0, iv 3, .unset, .unset] [])
  refine og_iloadN X1 hx (hb hby d25_5) rfl ?_
  refine og_iloadN X1 hx (hb hby d25_6) rfl ?_
  refine og_isub X1 hx (hb hby d25_7) ?_
  refine og_istoreN X1 hx #[rv b, iv 0, iv 3, iv 3, .unset] (hb hby d25_8) rfl ?_
  refine og_iloadN X1 hx (hb hby d25_9) rfl ?_
  refine own_newP X1 hx hZ (own_hw hw 22 rfl) e1 (hb hby d25_10) (by decide) 3 (by decide) (by decide) (by decide) (by decide) ?_
  intro T2 h2 k2 b2 g2 X2 e2 E2 A2
  have ne_b_b2 : b ≠ b2 := Nat.ne_of_lt (Nat.lt_of_lt_of_eq Ab.lt g2.symm)
  have ge_b2 : n0 ≤ b2 := Nat.le_trans (own_oldle hO) (Nat.le_of_eq g2.symm)
  have sz_b2 : h0.size ≤ b2 := Nat.le_trans (Keep.refl h0 []).1 (Nat.le_of_eq g2.symm)
  have A_b_2 := Ab.ext E2
  have O2 := hO.ext E2
  have K2 := (Keep.refl h0 []).ext E2
  have A_b2_2 : Arv Z h2 b2 k2 .byte 3 [(.int (0 : Int32)), (.int (0 : Int32)), (.int (0 : Int32))] (.int (0 : Int32)) := A2
  show own_Go p e below _ T2 (mkF m 12 #[rv b, iv 0, iv 3, iv 3, .unset] [(.ref b2)])
  refine og_astore X2 hx #[rv b, iv 0, iv 3, iv 3, rv b2] (hb hby d25_12) rfl rfl ?_
  refine og_aloadN X2 hx (hb hby d25_14) rfl rfl ?_
  refine og_iloadN X2 hx (hb hby d25_15) rfl ?_
  refine og_aload X2 hx (hb hby d25_16) rfl rfl ?_
  refine og_iconst X2 hx (hb hby d25_18) ?_
  refine og_aloadN X2 hx (hb hby d25_19) rfl rfl ?_
  refine own_len X2 hx hZ e2 A_b_2 (hb hby d25_20) ?_
  show own_Go p e below _ T2 (mkF m 21 #[rv b, iv 0, iv 3, iv 3, rv b2] [(.int 4), (.int 0), (.ref b2), (.int 0), (.ref b)])
  refine og_iloadN X2 hx (hb hby d25_21) rfl ?_
  refine og_isub X2 hx (hb hby d25_22) ?_
  refine og_iloadN X2 hx (hb hby d25_23) rfl ?_
  refine own_callS X2 hx hZ hown (own_hw hw 116 rfl) (own_hw hw 70 rfl) (own_hw hw 71 rfl) (own_hw hw 72 rfl) (by decide) (argsL := [(.int 4), (.int 3)]) (rest := [(.int 0), (.ref b2), (.int 0), (.ref b)]) (own_min_4_3 l Z a0 hw h2 n0) e2 (by rw [hml]; rfl) (lenOf own_pd23903 rfl) rfl (hb hby d25_24) (W := 4) (Nat.le_of_eq rfl) (by decide) ?_
  intro v3 T3 L3 X3 q3
  obtain ⟨rfl, N3q, e3⟩ := q3
  have N3 := Fr.app N1 N3q
  show own_Go p e below _ T3 (mkF m 27 #[rv b, iv 0, iv 3, iv 3, rv b2] [(.int 3), (.int 0), (.ref b2), (.int 0), (.ref b)])
  obtain ⟨T4, h4, L4, X4, e4, N4, K4q, A4, st4⟩ := cpA X3 hx hZ hown (own_hw hw 117 rfl) (own_hw hw 120 rfl) (own_hw hw 118 rfl) (own_hw hw 119 rfl) e3 A_b_2 A_b2_2 (us := [v0, v1, v2]) (Or.inl ⟨rfl, rfl⟩) (by decide) (by decide) (by decide) (by decide) (by decide) rfl (by decide) N3 ge_b2 (g := (mkF m 27 #[rv b, iv 0, iv 3, iv 3, rv b2] [(.int 3), (.int 0), (.ref b2), (.int 0), (.ref b)])) rfl (by rw [hml]; rfl) rfl (hb hby d25_27) (by decide) (W := 0) (by show 2 * 0 + _ ≤ _; exact Nat.le_of_eq rfl) (by decide)
  refine own_go st4 ?_
  have A_b_4 := A_b_2.keep K4q (ninS ne_b_b2 nin0)
  have O4 := O2.keep K4q (allS ge_b2 all0)
  have K4 := K2.trans K4q (allS (Or.inr sz_b2) all0)
  have A_b2_4 : Arv Z h4 b2 k2 .byte 3 [v0, v1, v2] (.int (0 : Int32)) := A4
  show own_Go p e below _ T4 (mkF m 30 #[rv b, iv 0, iv 3, iv 3, rv b2] [])
  refine og_aload X4 hx (hb hby d25_30) rfl rfl ?_
  exact own_retA X4 hx hret hlk (hb hby d25_32) rfl rfl (by decide) (by decide) (by rw [e4]; exact ⟨b2, _, rfl, N4, K4, sz_b2, ge_b2, A_b2_4⟩)
def own_r_own_cr_0_3_4 : Room := { frames := 2, cells := 1, slots := 3, locals := 34 }
theorem own_cr_0_3_4 (l : Launch) (Z : State) (a0 : Array Value) (hw : own_W a0 Z) (b : Addr) (kb : ClassId) (dv : Value) (v0 v1 v2 v3 : Value) (h0 : Heap) (n0 : Nat) (hO : Old Z n0 h0) (Ab : Arv Z h0 b kb .byte 4 [v0, v1, v2, v3] dv) :
    own_Met l Z (⟨"java/util/Arrays", "copyOfRange", "([BII)[B"⟩ : MethodName) jdk_65_method_132_code 3 (some (.array .byte)) own_r_own_cr_0_3_4 #[(.ref b), (.int 0), (.int 3)] h0 (own_Qr_0_3_4 Z h0 n0 v0 v1 v2 v3) := by
  refine own_body (by decide +kernel) ?_
  intro p e s m below meth c T0 X0 hx hZ hby hml hown hnm hret hlk e0
  have N0 := Fr.nil n0
  refine own_cast (own_frame (L := [rv b, iv 0, iv 3]) (ls := #[rv b, iv 0, iv 3]) rfl rfl) ?_
  refine og_iloadN X0 hx (hb hby d24_0) rfl ?_
  refine og_ifN X0 hx (hb hby d24_1) (teq rfl).2 ?_
  refine og_iloadN X0 hx (hb hby d24_4) rfl ?_
  refine og_aloadN X0 hx (hb hby d24_5) rfl rfl ?_
  refine own_len X0 hx hZ e0 Ab (hb hby d24_6) ?_
  show own_Go p e below _ T0 (mkF m 7 #[rv b, iv 0, iv 3] [(.int 4), (.int 3)])
  refine og_icN X0 hx (hb hby d24_7) (feq (by decide)).1 ?_
  refine og_aloadN X0 hx (hb hby d24_10) rfl rfl ?_
  refine og_iloadN X0 hx (hb hby d24_11) rfl ?_
  refine og_iloadN X0 hx (hb hby d24_12) rfl ?_
  refine own_callS X0 hx hZ hown (own_hw hw 110 rfl) (own_hw hw 111 rfl) (own_hw hw 108 rfl) (own_hw hw 112 rfl) (by decide) (argsL := [(.ref b), (.int 0), (.int 3)]) (rest := []) (own_crb_0_3_4 l Z a0 hw b _ _ v0 v1 v2 v3 h0 n0 hO Ab) e0 (by rw [hml]; rfl) (lenOf own_pd77155 rfl) rfl (hb hby d24_13) (W := 0) (Nat.le_of_eq rfl) (by decide) ?_
  intro v1 T1 L1 X1 q1
  obtain ⟨b1, k1, rfl, N1q, K1q, z1q, g1q, A1q⟩ := q1
  have N1 := Fr.app N0 N1q
  have ne_b_b1 : b ≠ b1 := Nat.ne_of_lt (Nat.lt_of_lt_of_le Ab.lt z1q)
  have sz_b1 : h0.size ≤ b1 := Nat.le_trans (Keep.refl h0 []).1 z1q
  have A_b_1 := Ab.keep K1q nin0
  have O1 := hO.keep K1q all0
  have K1 := (Keep.refl h0 []).trans K1q all0
  show own_Go p e below _ T1 (mkF m 16 #[rv b, iv 0, iv 3] [(.ref b1)])
  exact own_retA X1 hx hret hlk (hb hby d24_16) rfl rfl (by decide) (by decide) (⟨b1, _, rfl, N1, K1, sz_b1, g1q, A1q⟩)
def own_r_own_ns_0_3_4 : Room := { frames := 3, cells := 2, slots := 7, locals := 50 }
theorem own_ns_0_3_4 (l : Launch) (Z : State) (a0 : Array Value) (hw : own_W a0 Z) (b : Addr) (kb : ClassId) (dv : Value) (v0 v1 v2 v3 : Value) (h0 : Heap) (n0 : Nat) (hO : Old Z n0 h0) (Ab : Arv Z h0 b kb .byte 4 [v0, v1, v2, v3] dv) :
    own_Met l Z (⟨"java/lang/StringLatin1", "newString", "([BII)Ljava/lang/String;"⟩ : MethodName) jdk_43_method_47_code 3 (some (.object "java/lang/String")) own_r_own_ns_0_3_4 #[(.ref b), (.int 0), (.int 3)] h0 (own_Qs3 Z h0 n0 v0 v1 v2) := by
  refine own_body (by decide +kernel) ?_
  intro p e s m below meth c T0 X0 hx hZ hby hml hown hnm hret hlk e0
  have N0 := Fr.nil n0
  refine own_cast (own_frame (L := [rv b, iv 0, iv 3]) (ls := #[rv b, iv 0, iv 3]) rfl rfl) ?_
  refine og_iloadN X0 hx (hb hby d23_0) rfl ?_
  refine og_ifY X0 hx 7 (hb hby d23_1) (feq (by decide)).2 (by decide) (by decide) ?_
  refine own_newO X0 hx hZ hown (own_hw hw 105 rfl) (own_hw hw 8 rfl) (own_hw hw 9 rfl) e0 (hb hby d23_7) (by decide) (by decide) ?_
  intro T1 h1 b1 g1 X1 e1 E1 A1 D1
  have ne_b_b1 : b ≠ b1 := Nat.ne_of_lt (Nat.lt_of_lt_of_eq Ab.lt g1.symm)
  have ge_b1 : n0 ≤ b1 := Nat.le_trans (own_oldle hO) (Nat.le_of_eq g1.symm)
  have sz_b1 : h0.size ≤ b1 := Nat.le_trans (Keep.refl h0 []).1 (Nat.le_of_eq g1.symm)
  have A_b_1 := Ab.ext E1
  have O1 := hO.ext E1
  have K1 := (Keep.refl h0 []).ext E1
  have F_b1_value_1 : Fld Z h1 b1 "java/lang/String" "value" "[B" .null := D1 (Or.inr (own_hw hw 23 rfl)) (ty := (.array .byte)) (by decide)
  have F_b1_coder_1 : Fld Z h1 b1 "java/lang/String" "coder" "B" (.int 0) := D1 (Or.inr (own_hw hw 24 rfl)) (ty := .byte) (by decide)
  show own_Go p e below _ T1 (mkF m 10 #[rv b, iv 0, iv 3] [(.ref b1)])
  refine og_dup X1 hx (hb hby d23_10) rfl ?_
  refine og_aloadN X1 hx (hb hby d23_11) rfl rfl ?_
  refine og_iloadN X1 hx (hb hby d23_12) rfl ?_
  refine og_iloadN X1 hx (hb hby d23_13) rfl ?_
  refine og_iloadN X1 hx (hb hby d23_14) rfl ?_
  refine og_iadd X1 hx (hb hby d23_15) ?_
  show own_Go p e below _ T1 (mkF m 16 #[rv b, iv 0, iv 3] [(.int 3), (.int 0), (.ref b), (.ref b1), (.ref b1)])
  refine own_callS X1 hx hZ hown (own_hw hw 106 rfl) (own_hw hw 107 rfl) (own_hw hw 108 rfl) (own_hw hw 109 rfl) (by decide) (argsL := [(.ref b), (.int 0), (.int 3)]) (rest := [(.ref b1), (.ref b1)]) (own_cr_0_3_4 l Z a0 hw b _ _ v0 v1 v2 v3 h1 n0 O1 A_b_1) e1 (by rw [hml]; rfl) (lenOf own_pd77155 rfl) rfl (hb hby d23_16) (W := 2) (Nat.le_of_eq rfl) (by decide) ?_
  intro v2 T2 L2 X2 q2
  obtain ⟨b2, k2, rfl, N2q, K2q, z2q, g2q, A2q⟩ := q2
  have N2 := Fr.app N0 N2q
  have ne_b_b2 : b ≠ b2 := Nat.ne_of_lt (Nat.lt_of_lt_of_le A_b_1.lt z2q)
  have ne_b1_b2 : b1 ≠ b2 := Nat.ne_of_lt (Nat.lt_of_lt_of_le A1.lt z2q)
  have sz_b2 : h0.size ≤ b2 := Nat.le_trans K1.1 z2q
  have A_b_2 := A_b_1.keep K2q nin0
  have E_b1_2 := A1.keep K2q
  have F_b1_value_2 := F_b1_value_1.keep K2q nin0
  have F_b1_coder_2 := F_b1_coder_1.keep K2q nin0
  have O2 := O1.keep K2q all0
  have K2 := K1.trans K2q all0
  show own_Go p e below _ T2 (mkF m 19 #[rv b, iv 0, iv 3] [(.ref b2), (.ref b1), (.ref b1)])
  refine og_iconst X2 hx (hb hby d23_19) ?_
  refine own_callN X2 hx hZ hown (own_hw hw 121 rfl) (own_hw hw 122 rfl) (own_hw hw 123 rfl) (own_hw hw 9 rfl) (by decide) rfl (b := b1) (argsL := [(.ref b2), (.int 0)]) (rest := [(.ref b1)]) (own_si l Z a0 hw b1 b2 _ _ T2.heap n0 O2 ge_b1 E_b1_2 F_b1_value_2 F_b1_coder_2) rfl (by rw [hml]; rfl) (lenOf own_pd58512 rfl) rfl (hb hby d23_20) (W := 1) (Nat.le_of_eq rfl) (by decide) ?_
  intro v3 T3 L3 X3 q3
  obtain ⟨rfl, N3q, K3q, Fv3, Fc3⟩ := q3
  have N3 := Fr.app N2 N3q
  have A_b_3 := A_b_2.keep K3q (ninS ne_b_b1 nin0)
  have E_b1_3 := E_b1_2.keep K3q
  have A_b2_3 := A2q.keep K3q (ninS (Ne.symm ne_b1_b2) nin0)
  have O3 := O2.keep K3q (allS ge_b1 all0)
  have K3 := K2.trans K3q (allS (Or.inr sz_b1) all0)
  show own_Go p e below _ T3 (mkF m 23 #[rv b, iv 0, iv 3] [(.ref b1)])
  exact own_retA X3 hx hret hlk (hb hby d23_23) rfl rfl (by decide) (by decide) (⟨b1, b2, _, rfl, N3, K3, sz_b1, ge_b1, sz_b2, g2q, ne_b1_b2, E_b1_3, Fv3, Fc3, A_b2_3⟩)
def own_r_own_subNz3 : Room := { frames := 4, cells := 2, slots := 7, locals := 64 }
theorem own_subNz3 (l : Launch) (Z : State) (a0 : Array Value) (hw : own_W a0 Z) (z : Int32) (sf : Value) (t b : Addr) (kb : ClassId) (dv : Value) (n : Int32) (vs : List Value) (hi : Int32) (w0 w1 w2 : Value) (h0 : Heap) (n0 : Nat) (hO : Old Z n0 h0) (hG : own_Gs Z z sf) (h2 : ¬ hi < 0) (h3 : ¬ n < hi) (hx0 : ¬ hi = n) (inn : own_Met l Z (⟨"java/lang/StringLatin1", "newString", "([BII)Ljava/lang/String;"⟩ : MethodName) jdk_43_method_47_code 3 (some (.object "java/lang/String")) own_r_own_ns_0_3_4 #[.ref b, .int 0, .int (hi - 0)] h0 (own_Qs3 Z h0 n0 w0 w1 w2)) (Et : own_E Z h0 t) (Fv : own_V Z h0 t b) (Fc : own_C Z h0 t) (Ab : Arv Z h0 b kb .byte n vs dv) :
    own_Met l Z (⟨"java/lang/String", "substring", "(II)Ljava/lang/String;"⟩ : MethodName) jdk_42_method_92_code 5 (some (.object "java/lang/String")) own_r_own_subNz3 #[(.ref t), (.int 0), (.int hi)] h0 (own_Qs3 Z h0 n0 w0 w1 w2) := by
  refine own_body (by decide +kernel) ?_
  intro p e s m below meth c T0 X0 hx hZ hby hml hown hnm hret hlk e0
  have N0 := Fr.nil n0
  refine own_cast (own_frame (L := [rv t, iv 0, iv hi]) (ls := #[rv t, iv 0, iv hi, .unset, .unset]) rfl rfl) ?_
  obtain ⟨SC, hz, SF, rf⟩ := id hG
  refine og_aloadN X0 hx (hb hby d20_0) rfl rfl ?_
  refine own_callV X0 hx hZ hown (own_hw hw 41 rfl) (own_hw hw 42 rfl) (notFace_of_selects (args := #[]) (mvT hZ (own_hw hw 44 rfl))) (own_hw hw 44 rfl) (own_hw hw 43 rfl) (own_hw hw 45 rfl) (own_hw hw 9 rfl) (by decide) (b := t) (argsL := []) (rest := []) (own_slen l Z a0 hw z sf t b _ _ _ _ h0 n0 hO hG Et Fv Fc Ab) e0 Et (by rw [hml]; rfl) (lenOf own_pd13941 rfl) rfl (hb hby d20_1) (W := 0) (Nat.le_of_eq rfl) (by decide) ?_
  intro v1 T1 L1 X1 q1
  obtain ⟨rfl, N1q, e1⟩ := q1
  have N1 := Fr.app N0 N1q
  show own_Go p e below _ T1 (mkF m 4 #[rv t, iv 0, iv hi, .unset, .unset] [(.int n)])
  refine og_istoreN X1 hx #[rv t, iv 0, iv hi, iv n, .unset] (hb hby d20_4) rfl ?_
  refine og_iloadN X1 hx (hb hby d20_5) rfl ?_
  refine og_iloadN X1 hx (hb hby d20_6) rfl ?_
  refine og_iloadN X1 hx (hb hby d20_7) rfl ?_
  refine own_callS X1 hx hZ hown (own_hw hw 94 rfl) (own_hw hw 95 rfl) (own_hw hw 9 rfl) (own_hw hw 96 rfl) (by decide) (argsL := [(.int 0), (.int hi), (.int n)]) (rest := []) (own_cbb l Z a0 hw z sf 0 hi n h0 n0 hO hG (by decide) h2 h3) e1 (by rw [hml]; rfl) (lenOf own_pd73746 rfl) rfl (hb hby d20_8) (W := 0) (Nat.le_of_eq rfl) (by decide) ?_
  intro v2 T2 L2 X2 q2
  obtain ⟨rfl, N2q, e2⟩ := q2
  have N2 := Fr.app N1 N2q
  show own_Go p e below _ T2 (mkF m 11 #[rv t, iv 0, iv hi, iv n, .unset] [])
  refine og_iloadN X2 hx (hb hby d20_11) rfl ?_
  refine og_ifN X2 hx (hb hby d20_12) (teq rfl).2 ?_
  refine og_iloadN X2 hx (hb hby d20_15) rfl ?_
  refine og_iloadN X2 hx (hb hby d20_16) rfl ?_
  refine og_icY X2 hx 22 (hb hby d20_17) (feq hx0).2 (by decide) (by decide) ?_
  refine og_iloadN X2 hx (hb hby d20_22) rfl ?_
  refine og_iloadN X2 hx (hb hby d20_23) rfl ?_
  refine og_isub X2 hx (hb hby d20_24) ?_
  refine og_istore X2 hx #[rv t, iv 0, iv hi, iv n, iv (hi - 0)] (hb hby d20_25) rfl ?_
  refine og_aloadN X2 hx (hb hby d20_27) rfl rfl ?_
  refine own_callV X2 hx hZ hown (own_hw hw 57 rfl) (own_hw hw 58 rfl) (notFace_of_selects (args := #[]) (mvT hZ (own_hw hw 60 rfl))) (own_hw hw 60 rfl) (own_hw hw 59 rfl) (own_hw hw 61 rfl) (own_hw hw 9 rfl) (by decide) (b := t) (argsL := []) (rest := []) (own_isl1 l Z a0 hw z sf t h0 n0 hO hG Fc) e2 Et (by rw [hml]; rfl) (lenOf own_pd61835 rfl) rfl (hb hby d20_28) (W := 0) (Nat.le_of_eq rfl) (by decide) ?_
  intro v3 T3 L3 X3 q3
  obtain ⟨rfl, N3q, e3⟩ := q3
  have N3 := Fr.app N2 N3q
  show own_Go p e below _ T3 (mkF m 31 #[rv t, iv 0, iv hi, iv n, iv (hi - 0)] [(.int (1 : Int32))])
  refine og_ifN X3 hx (hb hby d20_31) (feq (by decide)).1 ?_
  refine og_aloadN X3 hx (hb hby d20_34) rfl rfl ?_
  refine og_getF X3 hx hZ hown (own_hw hw 27 rfl) Via.refl e3 Fv (hb hby d20_35) ?_
  intro T4 X4 e4
  refine og_iloadN X4 hx (hb hby d20_38) rfl ?_
  refine og_iload X4 hx (hb hby d20_39) rfl ?_
  refine own_callS X4 hx hZ hown (own_hw hw 102 rfl) (own_hw hw 103 rfl) (own_hw hw 64 rfl) (own_hw hw 104 rfl) (by decide) (argsL := [(.ref b), (.int 0), (.int (hi - 0))]) (rest := []) inn e4 (by rw [hml]; rfl) (lenOf own_pd78060 rfl) rfl (hb hby d20_41) (W := 0) (Nat.le_of_eq rfl) (by decide) ?_
  intro v5 T5 L5 X5 q5
  obtain ⟨t5, vb5, k5, rfl, N5q, K5q, zt5, gt5, zb5, gb5, ne_t5_vb5, Et5, Ft5, Ct5, At5⟩ := q5
  have N5 := Fr.app N3 N5q
  have ne_b_t5 : b ≠ t5 := Nat.ne_of_lt (Nat.lt_of_lt_of_le Ab.lt zt5)
  have ne_t_t5 : t ≠ t5 := Nat.ne_of_lt (Nat.lt_of_lt_of_le Et.lt zt5)
  have sz_t5 : h0.size ≤ t5 := Nat.le_trans (Keep.refl h0 []).1 zt5
  have ne_b_vb5 : b ≠ vb5 := Nat.ne_of_lt (Nat.lt_of_lt_of_le Ab.lt zb5)
  have ne_t_vb5 : t ≠ vb5 := Nat.ne_of_lt (Nat.lt_of_lt_of_le Et.lt zb5)
  have sz_vb5 : h0.size ≤ vb5 := Nat.le_trans (Keep.refl h0 []).1 zb5
  have E_t_5 := Et.keep K5q
  have F_t_value_5 := Fv.keep K5q nin0
  have F_t_coder_5 := Fc.keep K5q nin0
  have A_b_5 := Ab.keep K5q nin0
  have O5 := hO.keep K5q all0
  have K5 := (Keep.refl h0 []).trans K5q all0
  show own_Go p e below _ T5 (mkF m 44 #[rv t, iv 0, iv hi, iv n, iv (hi - 0)] [(.ref t5)])
  refine og_goto X5 hx 57 (hb hby d20_44) (by decide) (by decide) ?_
  exact own_retA X5 hx hret hlk (hb hby d20_57) rfl rfl (by decide) (by decide) (⟨t5, vb5, _, rfl, N5, K5, sz_t5, gt5, sz_vb5, gb5, ne_t5_vb5, Et5, Ft5, Ct5, At5⟩)
def own_r_own_po_4_3 : Room := { frames := 5, cells := 2, slots := 7, locals := 80 }
theorem own_po_4_3 (l : Launch) (Z : State) (a0 : Array Value) (hw : own_W a0 Z) (z : Int32) (sf : Value) (t b : Addr) (kb : ClassId) (dv : Value) (c0 c1 c2 c3 : Int32) (h0 : Heap) (n0 : Nat) (hO : Old Z n0 h0) (hG : own_Gs Z z sf)  (hsl : c3 = 47) (Et : own_E Z h0 t) (Fv : own_V Z h0 t b) (Fc : own_C Z h0 t) (Ab : Arv Z h0 b kb .byte 4 [(.int c0.toInt8.toInt32), (.int c1.toInt8.toInt32), (.int c2.toInt8.toInt32), (.int c3.toInt8.toInt32)] dv) :
    own_Met l Z (⟨"com/example/svazek/svazek/PackageFolder", "placeOf", "(Ljava/lang/String;)Ljava/lang/String;"⟩ : MethodName) prog_41_method_7_code 2 (some (.object "java/lang/String")) own_r_own_po_4_3 #[(.ref t)] h0 (own_Qs3 Z h0 n0 (.int c0.toInt8.toInt32) (.int c1.toInt8.toInt32) (.int c2.toInt8.toInt32)) := by
  refine own_body (by decide +kernel) ?_
  intro p e s m below meth c T0 X0 hx hZ hby hml hown hnm hret hlk e0
  have N0 := Fr.nil n0
  refine own_cast (own_frame (L := [rv t]) (ls := #[rv t, .unset]) rfl rfl) ?_
  obtain ⟨SC, hz, SF, rf⟩ := id hG
  refine og_aloadN X0 hx (hb hby d7_0) rfl rfl ?_
  refine og_bipush X0 hx (hb hby d7_1) ?_
  refine own_callV X0 hx hZ hown (own_hw hw 36 rfl) (own_hw hw 37 rfl) (notFace_of_selects (args := #[]) (mvT hZ (own_hw hw 39 rfl))) (own_hw hw 39 rfl) (own_hw hw 38 rfl) (own_hw hw 40 rfl) (own_hw hw 9 rfl) (by decide) (b := t) (argsL := [(.int 47)]) (rest := []) (own_lic_4 l Z a0 hw z sf t b _ _ c0 c1 c2 c3 (3) h0 n0 hO hG (own_lia_4_3 l Z a0 hw b _ _ c0 c1 c2 c3 h0 n0 hsl Ab) Et Fv Fc Ab) e0 Et (by rw [hml]; rfl) (lenOf own_pd49053 rfl) rfl (hb hby d7_3) (W := 0) (Nat.le_of_eq rfl) (by decide) ?_
  intro v1 T1 L1 X1 q1
  obtain ⟨rfl, N1q, e1⟩ := q1
  have N1 := Fr.app N0 N1q
  show own_Go p e below _ T1 (mkF m 6 #[rv t, .unset] [(.int 3)])
  refine og_istoreN X1 hx #[rv t, iv 3] (hb hby d7_6) rfl ?_
  refine og_iloadN X1 hx (hb hby d7_7) rfl ?_
  refine og_ifY X1 hx 16 (hb hby d7_8) (flt (by decide)).2.1 (by decide) (by decide) ?_
  refine og_aloadN X1 hx (hb hby d7_16) rfl rfl ?_
  refine og_iconst X1 hx (hb hby d7_17) ?_
  refine og_iloadN X1 hx (hb hby d7_18) rfl ?_
  refine own_callV X1 hx hZ hown (own_hw hw 89 rfl) (own_hw hw 90 rfl) (notFace_of_selects (args := #[]) (mvT hZ (own_hw hw 92 rfl))) (own_hw hw 92 rfl) (own_hw hw 91 rfl) (own_hw hw 93 rfl) (own_hw hw 9 rfl) (by decide) (b := t) (argsL := [(.int 0), (.int 3)]) (rest := []) (own_subNz3 l Z a0 hw z sf t b _ _ _ _ 3 (.int c0.toInt8.toInt32) (.int c1.toInt8.toInt32) (.int c2.toInt8.toInt32) h0 n0 hO hG (by decide) (by decide) (by decide) (own_ns_0_3_4 l Z a0 hw b _ _ (.int c0.toInt8.toInt32) (.int c1.toInt8.toInt32) (.int c2.toInt8.toInt32) (.int c3.toInt8.toInt32) h0 n0 hO Ab) Et Fv Fc Ab) e1 Et (by rw [hml]; rfl) (lenOf own_pd41291 rfl) rfl (hb hby d7_19) (W := 0) (Nat.le_of_eq rfl) (by decide) ?_
  intro v2 T2 L2 X2 q2
  obtain ⟨t2, vb2, k2, rfl, N2q, K2q, zt2, gt2, zb2, gb2, ne_t2_vb2, Et2, Ft2, Ct2, At2⟩ := q2
  have N2 := Fr.app N1 N2q
  have ne_b_t2 : b ≠ t2 := Nat.ne_of_lt (Nat.lt_of_lt_of_le Ab.lt zt2)
  have ne_t_t2 : t ≠ t2 := Nat.ne_of_lt (Nat.lt_of_lt_of_le Et.lt zt2)
  have sz_t2 : h0.size ≤ t2 := Nat.le_trans (Keep.refl h0 []).1 zt2
  have ne_b_vb2 : b ≠ vb2 := Nat.ne_of_lt (Nat.lt_of_lt_of_le Ab.lt zb2)
  have ne_t_vb2 : t ≠ vb2 := Nat.ne_of_lt (Nat.lt_of_lt_of_le Et.lt zb2)
  have sz_vb2 : h0.size ≤ vb2 := Nat.le_trans (Keep.refl h0 []).1 zb2
  have E_t_2 := Et.keep K2q
  have F_t_value_2 := Fv.keep K2q nin0
  have F_t_coder_2 := Fc.keep K2q nin0
  have A_b_2 := Ab.keep K2q nin0
  have O2 := hO.keep K2q all0
  have K2 := (Keep.refl h0 []).trans K2q all0
  show own_Go p e below _ T2 (mkF m 22 #[rv t, iv 3] [(.ref t2)])
  exact own_retA X2 hx hret hlk (hb hby d7_22) rfl rfl (by decide) (by decide) (⟨t2, vb2, _, rfl, N2, K2, sz_t2, gt2, sz_vb2, gb2, ne_t2_vb2, Et2, Ft2, Ct2, At2⟩)
theorem own_last1 (c0 : Int32) : (c0 = 47) ∨ (¬ c0 = 47 ∧ True) := by
  by_cases h0 : c0 = 47
  · exact Or.inl h0
  exact Or.inr ⟨h0, trivial⟩
theorem own_last2 (c0 c1 : Int32) : (c1 = 47) ∨ (¬ c1 = 47 ∧ c0 = 47) ∨ (¬ c1 = 47 ∧ ¬ c0 = 47 ∧ True) := by
  by_cases h1 : c1 = 47
  · exact Or.inl h1
  by_cases h0 : c0 = 47
  · exact Or.inr (Or.inl ⟨h1, h0⟩)
  exact Or.inr (Or.inr ⟨h1, h0, trivial⟩)
theorem own_last3 (c0 c1 c2 : Int32) : (c2 = 47) ∨ (¬ c2 = 47 ∧ c1 = 47) ∨ (¬ c2 = 47 ∧ ¬ c1 = 47 ∧ c0 = 47) ∨ (¬ c2 = 47 ∧ ¬ c1 = 47 ∧ ¬ c0 = 47 ∧ True) := by
  by_cases h2 : c2 = 47
  · exact Or.inl h2
  by_cases h1 : c1 = 47
  · exact Or.inr (Or.inl ⟨h2, h1⟩)
  by_cases h0 : c0 = 47
  · exact Or.inr (Or.inr (Or.inl ⟨h2, h1, h0⟩))
  exact Or.inr (Or.inr (Or.inr ⟨h2, h1, h0, trivial⟩))
theorem own_last4 (c0 c1 c2 c3 : Int32) : (c3 = 47) ∨ (¬ c3 = 47 ∧ c2 = 47) ∨ (¬ c3 = 47 ∧ ¬ c2 = 47 ∧ c1 = 47) ∨ (¬ c3 = 47 ∧ ¬ c2 = 47 ∧ ¬ c1 = 47 ∧ c0 = 47) ∨ (¬ c3 = 47 ∧ ¬ c2 = 47 ∧ ¬ c1 = 47 ∧ ¬ c0 = 47 ∧ True) := by
  by_cases h3 : c3 = 47
  · exact Or.inl h3
  by_cases h2 : c2 = 47
  · exact Or.inr (Or.inl ⟨h3, h2⟩)
  by_cases h1 : c1 = 47
  · exact Or.inr (Or.inr (Or.inl ⟨h3, h2, h1⟩))
  by_cases h0 : c0 = 47
  · exact Or.inr (Or.inr (Or.inr (Or.inl ⟨h3, h2, h1, h0⟩)))
  exact Or.inr (Or.inr (Or.inr (Or.inr ⟨h3, h2, h1, h0, trivial⟩)))
theorem d31_0 : decode jdk_41_method_11_code 0 = .ok (.iload_n 0, 1) := by decide +kernel
theorem d31_1 : decode jdk_41_method_11_code 1 = .ok (.ifCond .lt 8, 3) := by decide +kernel
theorem d31_4 : decode jdk_41_method_11_code 4 = .ok (.iload_n 0, 1) := by decide +kernel
theorem d31_5 : decode jdk_41_method_11_code 5 = .ok (.iload_n 1, 1) := by decide +kernel
theorem d31_6 : decode jdk_41_method_11_code 6 = .ok (.if_icmp .lt 10, 3) := by decide +kernel
theorem d31_16 : decode jdk_41_method_11_code 16 = .ok (.iload_n 0, 1) := by decide +kernel
theorem d31_17 : decode jdk_41_method_11_code 17 = .ok (.ireturn, 1) := by decide +kernel
def own_r_own_pck : Room := { frames := 0, cells := 0, slots := 0, locals := 0 }
theorem own_pck (l : Launch) (Z : State) (a0 : Array Value) (hw : own_W a0 Z) (i n : Int32) (sf : Value) (h0 : Heap) (n0 : Nat) (rf : sf.isRef = true) (h1 : ¬ i < 0) (h2 : i < n) :
    own_Met l Z (⟨"jdk/internal/util/Preconditions", "checkIndex", "(IILjava/util/function/BiFunction;)I"⟩ : MethodName) jdk_41_method_11_code 3 (some .int) own_r_own_pck #[(.int i), (.int n), sf] h0 (own_Qv (some (.int i)) h0 n0) := by
  refine own_body (by decide +kernel) ?_
  intro p e s m below meth c T0 X0 hx hZ hby hml hown hnm hret hlk e0
  have N0 := Fr.nil n0
  refine own_cast (own_frame (L := [iv i, iv n, .val sf]) (ls := #[iv i, iv n, .val sf]) (congrArg (fun q => iv i :: iv n :: q) (own_laid1 rf)) rfl) ?_
  refine og_iloadN X0 hx (hb hby d31_0) rfl ?_
  refine og_ifN X0 hx (hb hby d31_1) (flt h1).1 ?_
  refine og_iloadN X0 hx (hb hby d31_4) rfl ?_
  refine og_iloadN X0 hx (hb hby d31_5) rfl ?_
  refine og_icY X0 hx 16 (hb hby d31_6) (tlt h2).1 (by decide) (by decide) ?_
  refine og_iloadN X0 hx (hb hby d31_16) rfl ?_
  exact own_retI X0 hx hret hlk (hb hby d31_17) rfl (by simp) (by decide) (by decide) (⟨rfl, N0, e0⟩)
theorem d30_0 : decode jdk_42_method_155_code 0 = .ok (.iload_n 0, 1) := by decide +kernel
theorem d30_1 : decode jdk_42_method_155_code 1 = .ok (.iload_n 1, 1) := by decide +kernel
theorem d30_2 : decode jdk_42_method_155_code 2 = .ok (.getstatic 1053, 3) := by decide +kernel
theorem d30_5 : decode jdk_42_method_155_code 5 = .ok (.invokestatic 1059, 3) := by decide +kernel
theorem d30_8 : decode jdk_42_method_155_code 8 = .ok (.pop, 1) := by decide +kernel
theorem d30_9 : decode jdk_42_method_155_code 9 = .ok (.return_, 1) := by decide +kernel
theorem own_pd6315 : parseMethodDescriptor "(IILjava/util/function/BiFunction;)I" = some ⟨[.int, .int, (.object "java/util/function/BiFunction")], some .int⟩ := by decide +kernel
def own_r_own_sck : Room := { frames := 1, cells := 0, slots := 0, locals := 14 }
theorem own_sck (l : Launch) (Z : State) (a0 : Array Value) (hw : own_W a0 Z) (z : Int32) (sf : Value) (i n : Int32) (h0 : Heap) (n0 : Nat) (hO : Old Z n0 h0) (hG : own_Gs Z z sf) (h1 : ¬ i < 0) (h2 : i < n) :
    own_Met l Z (⟨"java/lang/String", "checkIndex", "(II)V"⟩ : MethodName) jdk_42_method_155_code 2 none own_r_own_sck #[(.int i), (.int n)] h0 (own_Qv none h0 n0) := by
  refine own_body (by decide +kernel) ?_
  intro p e s m below meth c T0 X0 hx hZ hby hml hown hnm hret hlk e0
  have N0 := Fr.nil n0
  refine own_cast (own_frame (L := [iv i, iv n]) (ls := #[iv i, iv n]) rfl rfl) ?_
  obtain ⟨SC, hz, SF, rf⟩ := id hG
  refine og_iloadN X0 hx (hb hby d30_0) rfl ?_
  refine og_iloadN X0 hx (hb hby d30_1) rfl ?_
  refine og_getS X0 hx hZ hown (own_hw hw 97 rfl) Via.refl e0 (SF.ext hO.2) (hb hby d30_2) ?_
  intro T1 X1 e1
  show own_Go p e below _ T1 (mkF m 5 #[iv i, iv n] [sf, (.int n), (.int i)])
  refine own_callS X1 hx hZ hown (own_hw hw 136 rfl) (own_hw hw 137 rfl) (own_hw hw 98 rfl) (own_hw hw 138 rfl) (by decide) (argsL := [(.int i), (.int n), sf]) (rest := []) (own_pck l Z a0 hw i n sf h0 n0 rf h1 h2) e1 (by rw [hml]; rfl) (lenOf own_pd6315 rfl) rfl (hb hby d30_5) (W := 0) (Nat.le_of_eq rfl) (by decide) ?_
  intro v2 T2 L2 X2 q2
  obtain ⟨rfl, N2q, e2⟩ := q2
  have N2 := Fr.app N0 N2q
  show own_Go p e below _ T2 (mkF m 8 #[iv i, iv n] [(.int i)])
  refine og_pop X2 hx (hb hby d30_8) rfl ?_
  exact own_retV X2 hx hret hlk (hb hby d30_9) (by decide) (by decide) (⟨rfl, N2, e2⟩)
theorem d29_0 : decode jdk_43_method_2_code 0 = .ok (.iload_n 1, 1) := by decide +kernel
theorem d29_1 : decode jdk_43_method_2_code 1 = .ok (.aload_n 0, 1) := by decide +kernel
theorem d29_2 : decode jdk_43_method_2_code 2 = .ok (.arraylength, 1) := by decide +kernel
theorem d29_3 : decode jdk_43_method_2_code 3 = .ok (.invokestatic 9, 3) := by decide +kernel
theorem d29_6 : decode jdk_43_method_2_code 6 = .ok (.aload_n 0, 1) := by decide +kernel
theorem d29_7 : decode jdk_43_method_2_code 7 = .ok (.iload_n 1, 1) := by decide +kernel
theorem d29_8 : decode jdk_43_method_2_code 8 = .ok (.baload, 1) := by decide +kernel
theorem d29_9 : decode jdk_43_method_2_code 9 = .ok (.sipush 255, 3) := by decide +kernel
theorem d29_12 : decode jdk_43_method_2_code 12 = .ok (.iand, 1) := by decide +kernel
theorem d29_13 : decode jdk_43_method_2_code 13 = .ok (.i2c, 1) := by decide +kernel
theorem d29_14 : decode jdk_43_method_2_code 14 = .ok (.ireturn, 1) := by decide +kernel
def own_r_own_lca_0_1 : Room := { frames := 2, cells := 0, slots := 0, locals := 27 }
theorem own_lca_0_1 (l : Launch) (Z : State) (a0 : Array Value) (hw : own_W a0 Z) (z : Int32) (sf : Value) (b : Addr) (kb : ClassId) (dv : Value) (ch : Int32) (h0 : Heap) (n0 : Nat) (hO : Old Z n0 h0) (hG : own_Gs Z z sf) (hc : ¬ ch < 0 ∧ ¬ (255 : Int32) < ch) (Ab : Arv Z h0 b kb .byte 1 [(.int ch.toInt8.toInt32)] dv) :
    own_Met l Z (⟨"java/lang/StringLatin1", "charAt", "([BI)C"⟩ : MethodName) jdk_43_method_2_code 2 (some .char) own_r_own_lca_0_1 #[(.ref b), (.int 0)] h0 (own_Qv (some (.int ch)) h0 n0) := by
  refine own_body (by decide +kernel) ?_
  intro p e s m below meth c T0 X0 hx hZ hby hml hown hnm hret hlk e0
  have N0 := Fr.nil n0
  refine own_cast (own_frame (L := [rv b, iv 0]) (ls := #[rv b, iv 0]) rfl rfl) ?_
  obtain ⟨SC, hz, SF, rf⟩ := id hG
  refine og_iloadN X0 hx (hb hby d29_0) rfl ?_
  refine og_aloadN X0 hx (hb hby d29_1) rfl rfl ?_
  refine own_len X0 hx hZ e0 Ab (hb hby d29_2) ?_
  show own_Go p e below _ T0 (mkF m 3 #[rv b, iv 0] [(.int 1), (.int 0)])
  refine own_callS X0 hx hZ hown (own_hw hw 133 rfl) (own_hw hw 134 rfl) (own_hw hw 9 rfl) (own_hw hw 135 rfl) (by decide) (argsL := [(.int 0), (.int 1)]) (rest := []) (own_sck l Z a0 hw z sf 0 1 h0 n0 hO hG (by decide) (by decide)) e0 (by rw [hml]; rfl) (lenOf own_pd97226 rfl) rfl (hb hby d29_3) (W := 0) (Nat.le_of_eq rfl) (by decide) ?_
  intro v1 T1 L1 X1 q1
  obtain ⟨rfl, N1q, e1⟩ := q1
  have N1 := Fr.app N0 N1q
  show own_Go p e below _ T1 (mkF m 6 #[rv b, iv 0] [])
  refine og_aloadN X1 hx (hb hby d29_6) rfl rfl ?_
  refine og_iloadN X1 hx (hb hby d29_7) rfl ?_
  refine own_ldB X1 hx hZ e1 Ab ⟨by decide, by decide⟩ rfl (hb hby d29_8) ?_
  show own_Go p e below _ T1 (mkF m 9 #[rv b, iv 0] [(.int ch.toInt8.toInt32)])
  refine og_sipush X1 hx (hb hby d29_9) ?_
  refine og_iand X1 hx (hb hby d29_12) ?_
  show own_Go p e below _ T1 (mkF m 13 #[rv b, iv 0] [(.int (ch.toInt8.toInt32 &&& 255))])
  rw [own_rt ch hc]
  show own_Go p e below _ T1 (mkF m 13 #[rv b, iv 0] [(.int ch)])
  refine own_go (fun t k => XS.i2c X1.here hx rfl (hb hby d29_13) rfl k) ?_
  show own_Go p e below _ T1 (mkF m 14 #[rv b, iv 0] [(.int (ch.toUInt32.toUInt16.toUInt32.toInt32))])
  rw [own_ic ch hc]
  show own_Go p e below _ T1 (mkF m 14 #[rv b, iv 0] [(.int ch)])
  exact own_retI X1 hx hret hlk (hb hby d29_14) (own_nc ch hc) (by simp) (by decide) (by decide) (⟨rfl, N1, e1⟩)
theorem d28_0 : decode jdk_42_method_56_code 0 = .ok (.aload_n 0, 1) := by decide +kernel
theorem d28_1 : decode jdk_42_method_56_code 1 = .ok (.invokevirtual 492, 3) := by decide +kernel
theorem d28_4 : decode jdk_42_method_56_code 4 = .ok (.ifCond .eq 12, 3) := by decide +kernel
theorem d28_7 : decode jdk_42_method_56_code 7 = .ok (.aload_n 0, 1) := by decide +kernel
theorem d28_8 : decode jdk_42_method_56_code 8 = .ok (.getfield 9, 3) := by decide +kernel
theorem d28_11 : decode jdk_42_method_56_code 11 = .ok (.iload_n 1, 1) := by decide +kernel
theorem d28_12 : decode jdk_42_method_56_code 12 = .ok (.invokestatic 495, 3) := by decide +kernel
theorem d28_15 : decode jdk_42_method_56_code 15 = .ok (.ireturn, 1) := by decide +kernel
theorem own_pd27418 : parseMethodDescriptor "([BI)C" = some ⟨[(.array .byte), .int], some .char⟩ := by decide +kernel
def own_r_own_ca_0_1 : Room := { frames := 3, cells := 0, slots := 0, locals := 40 }
theorem own_ca_0_1 (l : Launch) (Z : State) (a0 : Array Value) (hw : own_W a0 Z) (z : Int32) (sf : Value) (t b : Addr) (kb : ClassId) (dv : Value) (ch : Int32) (h0 : Heap) (n0 : Nat) (hO : Old Z n0 h0) (hG : own_Gs Z z sf) (hc : ¬ ch < 0 ∧ ¬ (255 : Int32) < ch) (Et : own_E Z h0 t) (Fv : own_V Z h0 t b) (Fc : own_C Z h0 t) (Ab : Arv Z h0 b kb .byte 1 [(.int ch.toInt8.toInt32)] dv) :
    own_Met l Z (⟨"java/lang/String", "charAt", "(I)C"⟩ : MethodName) jdk_42_method_56_code 2 (some .char) own_r_own_ca_0_1 #[(.ref t), (.int 0)] h0 (own_Qv (some (.int ch)) h0 n0) := by
  refine own_body (by decide +kernel) ?_
  intro p e s m below meth c T0 X0 hx hZ hby hml hown hnm hret hlk e0
  have N0 := Fr.nil n0
  refine own_cast (own_frame (L := [rv t, iv 0]) (ls := #[rv t, iv 0]) rfl rfl) ?_
  obtain ⟨SC, hz, SF, rf⟩ := id hG
  refine og_aloadN X0 hx (hb hby d28_0) rfl rfl ?_
  refine own_callV X0 hx hZ hown (own_hw hw 57 rfl) (own_hw hw 58 rfl) (notFace_of_selects (args := #[]) (mvT hZ (own_hw hw 60 rfl))) (own_hw hw 60 rfl) (own_hw hw 59 rfl) (own_hw hw 61 rfl) (own_hw hw 9 rfl) (by decide) (b := t) (argsL := []) (rest := []) (own_isl1 l Z a0 hw z sf t h0 n0 hO hG Fc) e0 Et (by rw [hml]; rfl) (lenOf own_pd61835 rfl) rfl (hb hby d28_1) (W := 0) (Nat.le_of_eq rfl) (by decide) ?_
  intro v1 T1 L1 X1 q1
  obtain ⟨rfl, N1q, e1⟩ := q1
  have N1 := Fr.app N0 N1q
  show own_Go p e below _ T1 (mkF m 4 #[rv t, iv 0] [(.int (1 : Int32))])
  refine og_ifN X1 hx (hb hby d28_4) (feq (by decide)).1 ?_
  refine og_aloadN X1 hx (hb hby d28_7) rfl rfl ?_
  refine og_getF X1 hx hZ hown (own_hw hw 27 rfl) Via.refl e1 Fv (hb hby d28_8) ?_
  intro T2 X2 e2
  refine og_iloadN X2 hx (hb hby d28_11) rfl ?_
  refine own_callS X2 hx hZ hown (own_hw hw 130 rfl) (own_hw hw 131 rfl) (own_hw hw 64 rfl) (own_hw hw 132 rfl) (by decide) (argsL := [(.ref b), (.int 0)]) (rest := []) (own_lca_0_1 l Z a0 hw z sf b _ _ ch h0 n0 hO hG hc Ab) e2 (by rw [hml]; rfl) (lenOf own_pd27418 rfl) rfl (hb hby d28_12) (W := 0) (Nat.le_of_eq rfl) (by decide) ?_
  intro v3 T3 L3 X3 q3
  obtain ⟨rfl, N3q, e3⟩ := q3
  have N3 := Fr.app N1 N3q
  show own_Go p e below _ T3 (mkF m 15 #[rv t, iv 0] [(.int ch)])
  exact own_retI X3 hx hret hlk (hb hby d28_15) (own_nc ch hc) (by simp) (by decide) (by decide) (⟨rfl, N3, e3⟩)
def own_r_own_lca_0_2 : Room := { frames := 2, cells := 0, slots := 0, locals := 27 }
theorem own_lca_0_2 (l : Launch) (Z : State) (a0 : Array Value) (hw : own_W a0 Z) (z : Int32) (sf : Value) (b : Addr) (kb : ClassId) (dv : Value) (ch : Int32) (v1 : Value) (h0 : Heap) (n0 : Nat) (hO : Old Z n0 h0) (hG : own_Gs Z z sf) (hc : ¬ ch < 0 ∧ ¬ (255 : Int32) < ch) (Ab : Arv Z h0 b kb .byte 2 [(.int ch.toInt8.toInt32), v1] dv) :
    own_Met l Z (⟨"java/lang/StringLatin1", "charAt", "([BI)C"⟩ : MethodName) jdk_43_method_2_code 2 (some .char) own_r_own_lca_0_2 #[(.ref b), (.int 0)] h0 (own_Qv (some (.int ch)) h0 n0) := by
  refine own_body (by decide +kernel) ?_
  intro p e s m below meth c T0 X0 hx hZ hby hml hown hnm hret hlk e0
  have N0 := Fr.nil n0
  refine own_cast (own_frame (L := [rv b, iv 0]) (ls := #[rv b, iv 0]) rfl rfl) ?_
  obtain ⟨SC, hz, SF, rf⟩ := id hG
  refine og_iloadN X0 hx (hb hby d29_0) rfl ?_
  refine og_aloadN X0 hx (hb hby d29_1) rfl rfl ?_
  refine own_len X0 hx hZ e0 Ab (hb hby d29_2) ?_
  show own_Go p e below _ T0 (mkF m 3 #[rv b, iv 0] [(.int 2), (.int 0)])
  refine own_callS X0 hx hZ hown (own_hw hw 133 rfl) (own_hw hw 134 rfl) (own_hw hw 9 rfl) (own_hw hw 135 rfl) (by decide) (argsL := [(.int 0), (.int 2)]) (rest := []) (own_sck l Z a0 hw z sf 0 2 h0 n0 hO hG (by decide) (by decide)) e0 (by rw [hml]; rfl) (lenOf own_pd97226 rfl) rfl (hb hby d29_3) (W := 0) (Nat.le_of_eq rfl) (by decide) ?_
  intro v1 T1 L1 X1 q1
  obtain ⟨rfl, N1q, e1⟩ := q1
  have N1 := Fr.app N0 N1q
  show own_Go p e below _ T1 (mkF m 6 #[rv b, iv 0] [])
  refine og_aloadN X1 hx (hb hby d29_6) rfl rfl ?_
  refine og_iloadN X1 hx (hb hby d29_7) rfl ?_
  refine own_ldB X1 hx hZ e1 Ab ⟨by decide, by decide⟩ rfl (hb hby d29_8) ?_
  show own_Go p e below _ T1 (mkF m 9 #[rv b, iv 0] [(.int ch.toInt8.toInt32)])
  refine og_sipush X1 hx (hb hby d29_9) ?_
  refine og_iand X1 hx (hb hby d29_12) ?_
  show own_Go p e below _ T1 (mkF m 13 #[rv b, iv 0] [(.int (ch.toInt8.toInt32 &&& 255))])
  rw [own_rt ch hc]
  show own_Go p e below _ T1 (mkF m 13 #[rv b, iv 0] [(.int ch)])
  refine own_go (fun t k => XS.i2c X1.here hx rfl (hb hby d29_13) rfl k) ?_
  show own_Go p e below _ T1 (mkF m 14 #[rv b, iv 0] [(.int (ch.toUInt32.toUInt16.toUInt32.toInt32))])
  rw [own_ic ch hc]
  show own_Go p e below _ T1 (mkF m 14 #[rv b, iv 0] [(.int ch)])
  exact own_retI X1 hx hret hlk (hb hby d29_14) (own_nc ch hc) (by simp) (by decide) (by decide) (⟨rfl, N1, e1⟩)
def own_r_own_ca_0_2 : Room := { frames := 3, cells := 0, slots := 0, locals := 40 }
theorem own_ca_0_2 (l : Launch) (Z : State) (a0 : Array Value) (hw : own_W a0 Z) (z : Int32) (sf : Value) (t b : Addr) (kb : ClassId) (dv : Value) (ch : Int32) (v1 : Value) (h0 : Heap) (n0 : Nat) (hO : Old Z n0 h0) (hG : own_Gs Z z sf) (hc : ¬ ch < 0 ∧ ¬ (255 : Int32) < ch) (Et : own_E Z h0 t) (Fv : own_V Z h0 t b) (Fc : own_C Z h0 t) (Ab : Arv Z h0 b kb .byte 2 [(.int ch.toInt8.toInt32), v1] dv) :
    own_Met l Z (⟨"java/lang/String", "charAt", "(I)C"⟩ : MethodName) jdk_42_method_56_code 2 (some .char) own_r_own_ca_0_2 #[(.ref t), (.int 0)] h0 (own_Qv (some (.int ch)) h0 n0) := by
  refine own_body (by decide +kernel) ?_
  intro p e s m below meth c T0 X0 hx hZ hby hml hown hnm hret hlk e0
  have N0 := Fr.nil n0
  refine own_cast (own_frame (L := [rv t, iv 0]) (ls := #[rv t, iv 0]) rfl rfl) ?_
  obtain ⟨SC, hz, SF, rf⟩ := id hG
  refine og_aloadN X0 hx (hb hby d28_0) rfl rfl ?_
  refine own_callV X0 hx hZ hown (own_hw hw 57 rfl) (own_hw hw 58 rfl) (notFace_of_selects (args := #[]) (mvT hZ (own_hw hw 60 rfl))) (own_hw hw 60 rfl) (own_hw hw 59 rfl) (own_hw hw 61 rfl) (own_hw hw 9 rfl) (by decide) (b := t) (argsL := []) (rest := []) (own_isl1 l Z a0 hw z sf t h0 n0 hO hG Fc) e0 Et (by rw [hml]; rfl) (lenOf own_pd61835 rfl) rfl (hb hby d28_1) (W := 0) (Nat.le_of_eq rfl) (by decide) ?_
  intro v1 T1 L1 X1 q1
  obtain ⟨rfl, N1q, e1⟩ := q1
  have N1 := Fr.app N0 N1q
  show own_Go p e below _ T1 (mkF m 4 #[rv t, iv 0] [(.int (1 : Int32))])
  refine og_ifN X1 hx (hb hby d28_4) (feq (by decide)).1 ?_
  refine og_aloadN X1 hx (hb hby d28_7) rfl rfl ?_
  refine og_getF X1 hx hZ hown (own_hw hw 27 rfl) Via.refl e1 Fv (hb hby d28_8) ?_
  intro T2 X2 e2
  refine og_iloadN X2 hx (hb hby d28_11) rfl ?_
  refine own_callS X2 hx hZ hown (own_hw hw 130 rfl) (own_hw hw 131 rfl) (own_hw hw 64 rfl) (own_hw hw 132 rfl) (by decide) (argsL := [(.ref b), (.int 0)]) (rest := []) (own_lca_0_2 l Z a0 hw z sf b _ _ ch v1 h0 n0 hO hG hc Ab) e2 (by rw [hml]; rfl) (lenOf own_pd27418 rfl) rfl (hb hby d28_12) (W := 0) (Nat.le_of_eq rfl) (by decide) ?_
  intro v3 T3 L3 X3 q3
  obtain ⟨rfl, N3q, e3⟩ := q3
  have N3 := Fr.app N1 N3q
  show own_Go p e below _ T3 (mkF m 15 #[rv t, iv 0] [(.int ch)])
  exact own_retI X3 hx hret hlk (hb hby d28_15) (own_nc ch hc) (by simp) (by decide) (by decide) (⟨rfl, N3, e3⟩)
def own_r_own_lca_1_2 : Room := { frames := 2, cells := 0, slots := 0, locals := 27 }
theorem own_lca_1_2 (l : Launch) (Z : State) (a0 : Array Value) (hw : own_W a0 Z) (z : Int32) (sf : Value) (b : Addr) (kb : ClassId) (dv : Value) (ch : Int32) (v0 : Value) (h0 : Heap) (n0 : Nat) (hO : Old Z n0 h0) (hG : own_Gs Z z sf) (hc : ¬ ch < 0 ∧ ¬ (255 : Int32) < ch) (Ab : Arv Z h0 b kb .byte 2 [v0, (.int ch.toInt8.toInt32)] dv) :
    own_Met l Z (⟨"java/lang/StringLatin1", "charAt", "([BI)C"⟩ : MethodName) jdk_43_method_2_code 2 (some .char) own_r_own_lca_1_2 #[(.ref b), (.int 1)] h0 (own_Qv (some (.int ch)) h0 n0) := by
  refine own_body (by decide +kernel) ?_
  intro p e s m below meth c T0 X0 hx hZ hby hml hown hnm hret hlk e0
  have N0 := Fr.nil n0
  refine own_cast (own_frame (L := [rv b, iv 1]) (ls := #[rv b, iv 1]) rfl rfl) ?_
  obtain ⟨SC, hz, SF, rf⟩ := id hG
  refine og_iloadN X0 hx (hb hby d29_0) rfl ?_
  refine og_aloadN X0 hx (hb hby d29_1) rfl rfl ?_
  refine own_len X0 hx hZ e0 Ab (hb hby d29_2) ?_
  show own_Go p e below _ T0 (mkF m 3 #[rv b, iv 1] [(.int 2), (.int 1)])
  refine own_callS X0 hx hZ hown (own_hw hw 133 rfl) (own_hw hw 134 rfl) (own_hw hw 9 rfl) (own_hw hw 135 rfl) (by decide) (argsL := [(.int 1), (.int 2)]) (rest := []) (own_sck l Z a0 hw z sf 1 2 h0 n0 hO hG (by decide) (by decide)) e0 (by rw [hml]; rfl) (lenOf own_pd97226 rfl) rfl (hb hby d29_3) (W := 0) (Nat.le_of_eq rfl) (by decide) ?_
  intro v1 T1 L1 X1 q1
  obtain ⟨rfl, N1q, e1⟩ := q1
  have N1 := Fr.app N0 N1q
  show own_Go p e below _ T1 (mkF m 6 #[rv b, iv 1] [])
  refine og_aloadN X1 hx (hb hby d29_6) rfl rfl ?_
  refine og_iloadN X1 hx (hb hby d29_7) rfl ?_
  refine own_ldB X1 hx hZ e1 Ab ⟨by decide, by decide⟩ rfl (hb hby d29_8) ?_
  show own_Go p e below _ T1 (mkF m 9 #[rv b, iv 1] [(.int ch.toInt8.toInt32)])
  refine og_sipush X1 hx (hb hby d29_9) ?_
  refine og_iand X1 hx (hb hby d29_12) ?_
  show own_Go p e below _ T1 (mkF m 13 #[rv b, iv 1] [(.int (ch.toInt8.toInt32 &&& 255))])
  rw [own_rt ch hc]
  show own_Go p e below _ T1 (mkF m 13 #[rv b, iv 1] [(.int ch)])
  refine own_go (fun t k => XS.i2c X1.here hx rfl (hb hby d29_13) rfl k) ?_
  show own_Go p e below _ T1 (mkF m 14 #[rv b, iv 1] [(.int (ch.toUInt32.toUInt16.toUInt32.toInt32))])
  rw [own_ic ch hc]
  show own_Go p e below _ T1 (mkF m 14 #[rv b, iv 1] [(.int ch)])
  exact own_retI X1 hx hret hlk (hb hby d29_14) (own_nc ch hc) (by simp) (by decide) (by decide) (⟨rfl, N1, e1⟩)
def own_r_own_ca_1_2 : Room := { frames := 3, cells := 0, slots := 0, locals := 40 }
theorem own_ca_1_2 (l : Launch) (Z : State) (a0 : Array Value) (hw : own_W a0 Z) (z : Int32) (sf : Value) (t b : Addr) (kb : ClassId) (dv : Value) (ch : Int32) (v0 : Value) (h0 : Heap) (n0 : Nat) (hO : Old Z n0 h0) (hG : own_Gs Z z sf) (hc : ¬ ch < 0 ∧ ¬ (255 : Int32) < ch) (Et : own_E Z h0 t) (Fv : own_V Z h0 t b) (Fc : own_C Z h0 t) (Ab : Arv Z h0 b kb .byte 2 [v0, (.int ch.toInt8.toInt32)] dv) :
    own_Met l Z (⟨"java/lang/String", "charAt", "(I)C"⟩ : MethodName) jdk_42_method_56_code 2 (some .char) own_r_own_ca_1_2 #[(.ref t), (.int 1)] h0 (own_Qv (some (.int ch)) h0 n0) := by
  refine own_body (by decide +kernel) ?_
  intro p e s m below meth c T0 X0 hx hZ hby hml hown hnm hret hlk e0
  have N0 := Fr.nil n0
  refine own_cast (own_frame (L := [rv t, iv 1]) (ls := #[rv t, iv 1]) rfl rfl) ?_
  obtain ⟨SC, hz, SF, rf⟩ := id hG
  refine og_aloadN X0 hx (hb hby d28_0) rfl rfl ?_
  refine own_callV X0 hx hZ hown (own_hw hw 57 rfl) (own_hw hw 58 rfl) (notFace_of_selects (args := #[]) (mvT hZ (own_hw hw 60 rfl))) (own_hw hw 60 rfl) (own_hw hw 59 rfl) (own_hw hw 61 rfl) (own_hw hw 9 rfl) (by decide) (b := t) (argsL := []) (rest := []) (own_isl1 l Z a0 hw z sf t h0 n0 hO hG Fc) e0 Et (by rw [hml]; rfl) (lenOf own_pd61835 rfl) rfl (hb hby d28_1) (W := 0) (Nat.le_of_eq rfl) (by decide) ?_
  intro v1 T1 L1 X1 q1
  obtain ⟨rfl, N1q, e1⟩ := q1
  have N1 := Fr.app N0 N1q
  show own_Go p e below _ T1 (mkF m 4 #[rv t, iv 1] [(.int (1 : Int32))])
  refine og_ifN X1 hx (hb hby d28_4) (feq (by decide)).1 ?_
  refine og_aloadN X1 hx (hb hby d28_7) rfl rfl ?_
  refine og_getF X1 hx hZ hown (own_hw hw 27 rfl) Via.refl e1 Fv (hb hby d28_8) ?_
  intro T2 X2 e2
  refine og_iloadN X2 hx (hb hby d28_11) rfl ?_
  refine own_callS X2 hx hZ hown (own_hw hw 130 rfl) (own_hw hw 131 rfl) (own_hw hw 64 rfl) (own_hw hw 132 rfl) (by decide) (argsL := [(.ref b), (.int 1)]) (rest := []) (own_lca_1_2 l Z a0 hw z sf b _ _ ch v0 h0 n0 hO hG hc Ab) e2 (by rw [hml]; rfl) (lenOf own_pd27418 rfl) rfl (hb hby d28_12) (W := 0) (Nat.le_of_eq rfl) (by decide) ?_
  intro v3 T3 L3 X3 q3
  obtain ⟨rfl, N3q, e3⟩ := q3
  have N3 := Fr.app N1 N3q
  show own_Go p e below _ T3 (mkF m 15 #[rv t, iv 1] [(.int ch)])
  exact own_retI X3 hx hret hlk (hb hby d28_15) (own_nc ch hc) (by simp) (by decide) (by decide) (⟨rfl, N3, e3⟩)
def own_r_own_lca_0_3 : Room := { frames := 2, cells := 0, slots := 0, locals := 27 }
theorem own_lca_0_3 (l : Launch) (Z : State) (a0 : Array Value) (hw : own_W a0 Z) (z : Int32) (sf : Value) (b : Addr) (kb : ClassId) (dv : Value) (ch : Int32) (v1 v2 : Value) (h0 : Heap) (n0 : Nat) (hO : Old Z n0 h0) (hG : own_Gs Z z sf) (hc : ¬ ch < 0 ∧ ¬ (255 : Int32) < ch) (Ab : Arv Z h0 b kb .byte 3 [(.int ch.toInt8.toInt32), v1, v2] dv) :
    own_Met l Z (⟨"java/lang/StringLatin1", "charAt", "([BI)C"⟩ : MethodName) jdk_43_method_2_code 2 (some .char) own_r_own_lca_0_3 #[(.ref b), (.int 0)] h0 (own_Qv (some (.int ch)) h0 n0) := by
  refine own_body (by decide +kernel) ?_
  intro p e s m below meth c T0 X0 hx hZ hby hml hown hnm hret hlk e0
  have N0 := Fr.nil n0
  refine own_cast (own_frame (L := [rv b, iv 0]) (ls := #[rv b, iv 0]) rfl rfl) ?_
  obtain ⟨SC, hz, SF, rf⟩ := id hG
  refine og_iloadN X0 hx (hb hby d29_0) rfl ?_
  refine og_aloadN X0 hx (hb hby d29_1) rfl rfl ?_
  refine own_len X0 hx hZ e0 Ab (hb hby d29_2) ?_
  show own_Go p e below _ T0 (mkF m 3 #[rv b, iv 0] [(.int 3), (.int 0)])
  refine own_callS X0 hx hZ hown (own_hw hw 133 rfl) (own_hw hw 134 rfl) (own_hw hw 9 rfl) (own_hw hw 135 rfl) (by decide) (argsL := [(.int 0), (.int 3)]) (rest := []) (own_sck l Z a0 hw z sf 0 3 h0 n0 hO hG (by decide) (by decide)) e0 (by rw [hml]; rfl) (lenOf own_pd97226 rfl) rfl (hb hby d29_3) (W := 0) (Nat.le_of_eq rfl) (by decide) ?_
  intro v1 T1 L1 X1 q1
  obtain ⟨rfl, N1q, e1⟩ := q1
  have N1 := Fr.app N0 N1q
  show own_Go p e below _ T1 (mkF m 6 #[rv b, iv 0] [])
  refine og_aloadN X1 hx (hb hby d29_6) rfl rfl ?_
  refine og_iloadN X1 hx (hb hby d29_7) rfl ?_
  refine own_ldB X1 hx hZ e1 Ab ⟨by decide, by decide⟩ rfl (hb hby d29_8) ?_
  show own_Go p e below _ T1 (mkF m 9 #[rv b, iv 0] [(.int ch.toInt8.toInt32)])
  refine og_sipush X1 hx (hb hby d29_9) ?_
  refine og_iand X1 hx (hb hby d29_12) ?_
  show own_Go p e below _ T1 (mkF m 13 #[rv b, iv 0] [(.int (ch.toInt8.toInt32 &&& 255))])
  rw [own_rt ch hc]
  show own_Go p e below _ T1 (mkF m 13 #[rv b, iv 0] [(.int ch)])
  refine own_go (fun t k => XS.i2c X1.here hx rfl (hb hby d29_13) rfl k) ?_
  show own_Go p e below _ T1 (mkF m 14 #[rv b, iv 0] [(.int (ch.toUInt32.toUInt16.toUInt32.toInt32))])
  rw [own_ic ch hc]
  show own_Go p e below _ T1 (mkF m 14 #[rv b, iv 0] [(.int ch)])
  exact own_retI X1 hx hret hlk (hb hby d29_14) (own_nc ch hc) (by simp) (by decide) (by decide) (⟨rfl, N1, e1⟩)
def own_r_own_ca_0_3 : Room := { frames := 3, cells := 0, slots := 0, locals := 40 }
theorem own_ca_0_3 (l : Launch) (Z : State) (a0 : Array Value) (hw : own_W a0 Z) (z : Int32) (sf : Value) (t b : Addr) (kb : ClassId) (dv : Value) (ch : Int32) (v1 v2 : Value) (h0 : Heap) (n0 : Nat) (hO : Old Z n0 h0) (hG : own_Gs Z z sf) (hc : ¬ ch < 0 ∧ ¬ (255 : Int32) < ch) (Et : own_E Z h0 t) (Fv : own_V Z h0 t b) (Fc : own_C Z h0 t) (Ab : Arv Z h0 b kb .byte 3 [(.int ch.toInt8.toInt32), v1, v2] dv) :
    own_Met l Z (⟨"java/lang/String", "charAt", "(I)C"⟩ : MethodName) jdk_42_method_56_code 2 (some .char) own_r_own_ca_0_3 #[(.ref t), (.int 0)] h0 (own_Qv (some (.int ch)) h0 n0) := by
  refine own_body (by decide +kernel) ?_
  intro p e s m below meth c T0 X0 hx hZ hby hml hown hnm hret hlk e0
  have N0 := Fr.nil n0
  refine own_cast (own_frame (L := [rv t, iv 0]) (ls := #[rv t, iv 0]) rfl rfl) ?_
  obtain ⟨SC, hz, SF, rf⟩ := id hG
  refine og_aloadN X0 hx (hb hby d28_0) rfl rfl ?_
  refine own_callV X0 hx hZ hown (own_hw hw 57 rfl) (own_hw hw 58 rfl) (notFace_of_selects (args := #[]) (mvT hZ (own_hw hw 60 rfl))) (own_hw hw 60 rfl) (own_hw hw 59 rfl) (own_hw hw 61 rfl) (own_hw hw 9 rfl) (by decide) (b := t) (argsL := []) (rest := []) (own_isl1 l Z a0 hw z sf t h0 n0 hO hG Fc) e0 Et (by rw [hml]; rfl) (lenOf own_pd61835 rfl) rfl (hb hby d28_1) (W := 0) (Nat.le_of_eq rfl) (by decide) ?_
  intro v1 T1 L1 X1 q1
  obtain ⟨rfl, N1q, e1⟩ := q1
  have N1 := Fr.app N0 N1q
  show own_Go p e below _ T1 (mkF m 4 #[rv t, iv 0] [(.int (1 : Int32))])
  refine og_ifN X1 hx (hb hby d28_4) (feq (by decide)).1 ?_
  refine og_aloadN X1 hx (hb hby d28_7) rfl rfl ?_
  refine og_getF X1 hx hZ hown (own_hw hw 27 rfl) Via.refl e1 Fv (hb hby d28_8) ?_
  intro T2 X2 e2
  refine og_iloadN X2 hx (hb hby d28_11) rfl ?_
  refine own_callS X2 hx hZ hown (own_hw hw 130 rfl) (own_hw hw 131 rfl) (own_hw hw 64 rfl) (own_hw hw 132 rfl) (by decide) (argsL := [(.ref b), (.int 0)]) (rest := []) (own_lca_0_3 l Z a0 hw z sf b _ _ ch v1 v2 h0 n0 hO hG hc Ab) e2 (by rw [hml]; rfl) (lenOf own_pd27418 rfl) rfl (hb hby d28_12) (W := 0) (Nat.le_of_eq rfl) (by decide) ?_
  intro v3 T3 L3 X3 q3
  obtain ⟨rfl, N3q, e3⟩ := q3
  have N3 := Fr.app N1 N3q
  show own_Go p e below _ T3 (mkF m 15 #[rv t, iv 0] [(.int ch)])
  exact own_retI X3 hx hret hlk (hb hby d28_15) (own_nc ch hc) (by simp) (by decide) (by decide) (⟨rfl, N3, e3⟩)
def own_r_own_lca_1_3 : Room := { frames := 2, cells := 0, slots := 0, locals := 27 }
theorem own_lca_1_3 (l : Launch) (Z : State) (a0 : Array Value) (hw : own_W a0 Z) (z : Int32) (sf : Value) (b : Addr) (kb : ClassId) (dv : Value) (ch : Int32) (v0 v2 : Value) (h0 : Heap) (n0 : Nat) (hO : Old Z n0 h0) (hG : own_Gs Z z sf) (hc : ¬ ch < 0 ∧ ¬ (255 : Int32) < ch) (Ab : Arv Z h0 b kb .byte 3 [v0, (.int ch.toInt8.toInt32), v2] dv) :
    own_Met l Z (⟨"java/lang/StringLatin1", "charAt", "([BI)C"⟩ : MethodName) jdk_43_method_2_code 2 (some .char) own_r_own_lca_1_3 #[(.ref b), (.int 1)] h0 (own_Qv (some (.int ch)) h0 n0) := by
  refine own_body (by decide +kernel) ?_
  intro p e s m below meth c T0 X0 hx hZ hby hml hown hnm hret hlk e0
  have N0 := Fr.nil n0
  refine own_cast (own_frame (L := [rv b, iv 1]) (ls := #[rv b, iv 1]) rfl rfl) ?_
  obtain ⟨SC, hz, SF, rf⟩ := id hG
  refine og_iloadN X0 hx (hb hby d29_0) rfl ?_
  refine og_aloadN X0 hx (hb hby d29_1) rfl rfl ?_
  refine own_len X0 hx hZ e0 Ab (hb hby d29_2) ?_
  show own_Go p e below _ T0 (mkF m 3 #[rv b, iv 1] [(.int 3), (.int 1)])
  refine own_callS X0 hx hZ hown (own_hw hw 133 rfl) (own_hw hw 134 rfl) (own_hw hw 9 rfl) (own_hw hw 135 rfl) (by decide) (argsL := [(.int 1), (.int 3)]) (rest := []) (own_sck l Z a0 hw z sf 1 3 h0 n0 hO hG (by decide) (by decide)) e0 (by rw [hml]; rfl) (lenOf own_pd97226 rfl) rfl (hb hby d29_3) (W := 0) (Nat.le_of_eq rfl) (by decide) ?_
  intro v1 T1 L1 X1 q1
  obtain ⟨rfl, N1q, e1⟩ := q1
  have N1 := Fr.app N0 N1q
  show own_Go p e below _ T1 (mkF m 6 #[rv b, iv 1] [])
  refine og_aloadN X1 hx (hb hby d29_6) rfl rfl ?_
  refine og_iloadN X1 hx (hb hby d29_7) rfl ?_
  refine own_ldB X1 hx hZ e1 Ab ⟨by decide, by decide⟩ rfl (hb hby d29_8) ?_
  show own_Go p e below _ T1 (mkF m 9 #[rv b, iv 1] [(.int ch.toInt8.toInt32)])
  refine og_sipush X1 hx (hb hby d29_9) ?_
  refine og_iand X1 hx (hb hby d29_12) ?_
  show own_Go p e below _ T1 (mkF m 13 #[rv b, iv 1] [(.int (ch.toInt8.toInt32 &&& 255))])
  rw [own_rt ch hc]
  show own_Go p e below _ T1 (mkF m 13 #[rv b, iv 1] [(.int ch)])
  refine own_go (fun t k => XS.i2c X1.here hx rfl (hb hby d29_13) rfl k) ?_
  show own_Go p e below _ T1 (mkF m 14 #[rv b, iv 1] [(.int (ch.toUInt32.toUInt16.toUInt32.toInt32))])
  rw [own_ic ch hc]
  show own_Go p e below _ T1 (mkF m 14 #[rv b, iv 1] [(.int ch)])
  exact own_retI X1 hx hret hlk (hb hby d29_14) (own_nc ch hc) (by simp) (by decide) (by decide) (⟨rfl, N1, e1⟩)
def own_r_own_ca_1_3 : Room := { frames := 3, cells := 0, slots := 0, locals := 40 }
theorem own_ca_1_3 (l : Launch) (Z : State) (a0 : Array Value) (hw : own_W a0 Z) (z : Int32) (sf : Value) (t b : Addr) (kb : ClassId) (dv : Value) (ch : Int32) (v0 v2 : Value) (h0 : Heap) (n0 : Nat) (hO : Old Z n0 h0) (hG : own_Gs Z z sf) (hc : ¬ ch < 0 ∧ ¬ (255 : Int32) < ch) (Et : own_E Z h0 t) (Fv : own_V Z h0 t b) (Fc : own_C Z h0 t) (Ab : Arv Z h0 b kb .byte 3 [v0, (.int ch.toInt8.toInt32), v2] dv) :
    own_Met l Z (⟨"java/lang/String", "charAt", "(I)C"⟩ : MethodName) jdk_42_method_56_code 2 (some .char) own_r_own_ca_1_3 #[(.ref t), (.int 1)] h0 (own_Qv (some (.int ch)) h0 n0) := by
  refine own_body (by decide +kernel) ?_
  intro p e s m below meth c T0 X0 hx hZ hby hml hown hnm hret hlk e0
  have N0 := Fr.nil n0
  refine own_cast (own_frame (L := [rv t, iv 1]) (ls := #[rv t, iv 1]) rfl rfl) ?_
  obtain ⟨SC, hz, SF, rf⟩ := id hG
  refine og_aloadN X0 hx (hb hby d28_0) rfl rfl ?_
  refine own_callV X0 hx hZ hown (own_hw hw 57 rfl) (own_hw hw 58 rfl) (notFace_of_selects (args := #[]) (mvT hZ (own_hw hw 60 rfl))) (own_hw hw 60 rfl) (own_hw hw 59 rfl) (own_hw hw 61 rfl) (own_hw hw 9 rfl) (by decide) (b := t) (argsL := []) (rest := []) (own_isl1 l Z a0 hw z sf t h0 n0 hO hG Fc) e0 Et (by rw [hml]; rfl) (lenOf own_pd61835 rfl) rfl (hb hby d28_1) (W := 0) (Nat.le_of_eq rfl) (by decide) ?_
  intro v1 T1 L1 X1 q1
  obtain ⟨rfl, N1q, e1⟩ := q1
  have N1 := Fr.app N0 N1q
  show own_Go p e below _ T1 (mkF m 4 #[rv t, iv 1] [(.int (1 : Int32))])
  refine og_ifN X1 hx (hb hby d28_4) (feq (by decide)).1 ?_
  refine og_aloadN X1 hx (hb hby d28_7) rfl rfl ?_
  refine og_getF X1 hx hZ hown (own_hw hw 27 rfl) Via.refl e1 Fv (hb hby d28_8) ?_
  intro T2 X2 e2
  refine og_iloadN X2 hx (hb hby d28_11) rfl ?_
  refine own_callS X2 hx hZ hown (own_hw hw 130 rfl) (own_hw hw 131 rfl) (own_hw hw 64 rfl) (own_hw hw 132 rfl) (by decide) (argsL := [(.ref b), (.int 1)]) (rest := []) (own_lca_1_3 l Z a0 hw z sf b _ _ ch v0 v2 h0 n0 hO hG hc Ab) e2 (by rw [hml]; rfl) (lenOf own_pd27418 rfl) rfl (hb hby d28_12) (W := 0) (Nat.le_of_eq rfl) (by decide) ?_
  intro v3 T3 L3 X3 q3
  obtain ⟨rfl, N3q, e3⟩ := q3
  have N3 := Fr.app N1 N3q
  show own_Go p e below _ T3 (mkF m 15 #[rv t, iv 1] [(.int ch)])
  exact own_retI X3 hx hret hlk (hb hby d28_15) (own_nc ch hc) (by simp) (by decide) (by decide) (⟨rfl, N3, e3⟩)
def own_r_own_lca_2_3 : Room := { frames := 2, cells := 0, slots := 0, locals := 27 }
theorem own_lca_2_3 (l : Launch) (Z : State) (a0 : Array Value) (hw : own_W a0 Z) (z : Int32) (sf : Value) (b : Addr) (kb : ClassId) (dv : Value) (ch : Int32) (v0 v1 : Value) (h0 : Heap) (n0 : Nat) (hO : Old Z n0 h0) (hG : own_Gs Z z sf) (hc : ¬ ch < 0 ∧ ¬ (255 : Int32) < ch) (Ab : Arv Z h0 b kb .byte 3 [v0, v1, (.int ch.toInt8.toInt32)] dv) :
    own_Met l Z (⟨"java/lang/StringLatin1", "charAt", "([BI)C"⟩ : MethodName) jdk_43_method_2_code 2 (some .char) own_r_own_lca_2_3 #[(.ref b), (.int 2)] h0 (own_Qv (some (.int ch)) h0 n0) := by
  refine own_body (by decide +kernel) ?_
  intro p e s m below meth c T0 X0 hx hZ hby hml hown hnm hret hlk e0
  have N0 := Fr.nil n0
  refine own_cast (own_frame (L := [rv b, iv 2]) (ls := #[rv b, iv 2]) rfl rfl) ?_
  obtain ⟨SC, hz, SF, rf⟩ := id hG
  refine og_iloadN X0 hx (hb hby d29_0) rfl ?_
  refine og_aloadN X0 hx (hb hby d29_1) rfl rfl ?_
  refine own_len X0 hx hZ e0 Ab (hb hby d29_2) ?_
  show own_Go p e below _ T0 (mkF m 3 #[rv b, iv 2] [(.int 3), (.int 2)])
  refine own_callS X0 hx hZ hown (own_hw hw 133 rfl) (own_hw hw 134 rfl) (own_hw hw 9 rfl) (own_hw hw 135 rfl) (by decide) (argsL := [(.int 2), (.int 3)]) (rest := []) (own_sck l Z a0 hw z sf 2 3 h0 n0 hO hG (by decide) (by decide)) e0 (by rw [hml]; rfl) (lenOf own_pd97226 rfl) rfl (hb hby d29_3) (W := 0) (Nat.le_of_eq rfl) (by decide) ?_
  intro v1 T1 L1 X1 q1
  obtain ⟨rfl, N1q, e1⟩ := q1
  have N1 := Fr.app N0 N1q
  show own_Go p e below _ T1 (mkF m 6 #[rv b, iv 2] [])
  refine og_aloadN X1 hx (hb hby d29_6) rfl rfl ?_
  refine og_iloadN X1 hx (hb hby d29_7) rfl ?_
  refine own_ldB X1 hx hZ e1 Ab ⟨by decide, by decide⟩ rfl (hb hby d29_8) ?_
  show own_Go p e below _ T1 (mkF m 9 #[rv b, iv 2] [(.int ch.toInt8.toInt32)])
  refine og_sipush X1 hx (hb hby d29_9) ?_
  refine og_iand X1 hx (hb hby d29_12) ?_
  show own_Go p e below _ T1 (mkF m 13 #[rv b, iv 2] [(.int (ch.toInt8.toInt32 &&& 255))])
  rw [own_rt ch hc]
  show own_Go p e below _ T1 (mkF m 13 #[rv b, iv 2] [(.int ch)])
  refine own_go (fun t k => XS.i2c X1.here hx rfl (hb hby d29_13) rfl k) ?_
  show own_Go p e below _ T1 (mkF m 14 #[rv b, iv 2] [(.int (ch.toUInt32.toUInt16.toUInt32.toInt32))])
  rw [own_ic ch hc]
  show own_Go p e below _ T1 (mkF m 14 #[rv b, iv 2] [(.int ch)])
  exact own_retI X1 hx hret hlk (hb hby d29_14) (own_nc ch hc) (by simp) (by decide) (by decide) (⟨rfl, N1, e1⟩)
def own_r_own_ca_2_3 : Room := { frames := 3, cells := 0, slots := 0, locals := 40 }
theorem own_ca_2_3 (l : Launch) (Z : State) (a0 : Array Value) (hw : own_W a0 Z) (z : Int32) (sf : Value) (t b : Addr) (kb : ClassId) (dv : Value) (ch : Int32) (v0 v1 : Value) (h0 : Heap) (n0 : Nat) (hO : Old Z n0 h0) (hG : own_Gs Z z sf) (hc : ¬ ch < 0 ∧ ¬ (255 : Int32) < ch) (Et : own_E Z h0 t) (Fv : own_V Z h0 t b) (Fc : own_C Z h0 t) (Ab : Arv Z h0 b kb .byte 3 [v0, v1, (.int ch.toInt8.toInt32)] dv) :
    own_Met l Z (⟨"java/lang/String", "charAt", "(I)C"⟩ : MethodName) jdk_42_method_56_code 2 (some .char) own_r_own_ca_2_3 #[(.ref t), (.int 2)] h0 (own_Qv (some (.int ch)) h0 n0) := by
  refine own_body (by decide +kernel) ?_
  intro p e s m below meth c T0 X0 hx hZ hby hml hown hnm hret hlk e0
  have N0 := Fr.nil n0
  refine own_cast (own_frame (L := [rv t, iv 2]) (ls := #[rv t, iv 2]) rfl rfl) ?_
  obtain ⟨SC, hz, SF, rf⟩ := id hG
  refine og_aloadN X0 hx (hb hby d28_0) rfl rfl ?_
  refine own_callV X0 hx hZ hown (own_hw hw 57 rfl) (own_hw hw 58 rfl) (notFace_of_selects (args := #[]) (mvT hZ (own_hw hw 60 rfl))) (own_hw hw 60 rfl) (own_hw hw 59 rfl) (own_hw hw 61 rfl) (own_hw hw 9 rfl) (by decide) (b := t) (argsL := []) (rest := []) (own_isl1 l Z a0 hw z sf t h0 n0 hO hG Fc) e0 Et (by rw [hml]; rfl) (lenOf own_pd61835 rfl) rfl (hb hby d28_1) (W := 0) (Nat.le_of_eq rfl) (by decide) ?_
  intro v1 T1 L1 X1 q1
  obtain ⟨rfl, N1q, e1⟩ := q1
  have N1 := Fr.app N0 N1q
  show own_Go p e below _ T1 (mkF m 4 #[rv t, iv 2] [(.int (1 : Int32))])
  refine og_ifN X1 hx (hb hby d28_4) (feq (by decide)).1 ?_
  refine og_aloadN X1 hx (hb hby d28_7) rfl rfl ?_
  refine og_getF X1 hx hZ hown (own_hw hw 27 rfl) Via.refl e1 Fv (hb hby d28_8) ?_
  intro T2 X2 e2
  refine og_iloadN X2 hx (hb hby d28_11) rfl ?_
  refine own_callS X2 hx hZ hown (own_hw hw 130 rfl) (own_hw hw 131 rfl) (own_hw hw 64 rfl) (own_hw hw 132 rfl) (by decide) (argsL := [(.ref b), (.int 2)]) (rest := []) (own_lca_2_3 l Z a0 hw z sf b _ _ ch v0 v1 h0 n0 hO hG hc Ab) e2 (by rw [hml]; rfl) (lenOf own_pd27418 rfl) rfl (hb hby d28_12) (W := 0) (Nat.le_of_eq rfl) (by decide) ?_
  intro v3 T3 L3 X3 q3
  obtain ⟨rfl, N3q, e3⟩ := q3
  have N3 := Fr.app N1 N3q
  show own_Go p e below _ T3 (mkF m 15 #[rv t, iv 2] [(.int ch)])
  exact own_retI X3 hx hret hlk (hb hby d28_15) (own_nc ch hc) (by simp) (by decide) (by decide) (⟨rfl, N3, e3⟩)
theorem d16_0 : decode jdk_42_method_55_code 0 = .ok (.aload_n 0, 1) := by decide +kernel
theorem d16_1 : decode jdk_42_method_55_code 1 = .ok (.getfield 9, 3) := by decide +kernel
theorem d16_4 : decode jdk_42_method_55_code 4 = .ok (.arraylength, 1) := by decide +kernel
theorem d16_5 : decode jdk_42_method_55_code 5 = .ok (.ifCond .ne 7, 3) := by decide +kernel
theorem d16_8 : decode jdk_42_method_55_code 8 = .ok (.iconst 1, 1) := by decide +kernel
theorem d16_9 : decode jdk_42_method_55_code 9 = .ok (.goto 4, 3) := by decide +kernel
theorem d16_13 : decode jdk_42_method_55_code 13 = .ok (.ireturn, 1) := by decide +kernel
def own_r_own_ie0 : Room := { frames := 0, cells := 0, slots := 0, locals := 0 }
theorem own_ie0 (l : Launch) (Z : State) (a0 : Array Value) (hw : own_W a0 Z) (t b : Addr) (kb : ClassId) (dv : Value) (h0 : Heap) (n0 : Nat) (Fv : own_V Z h0 t b) (Ab : Arv Z h0 b kb .byte 0 [] dv) :
    own_Met l Z (⟨"java/lang/String", "isEmpty", "()Z"⟩ : MethodName) jdk_42_method_55_code 1 (some .boolean) own_r_own_ie0 #[(.ref t)] h0 (own_Qv (some (.int 1)) h0 n0) := by
  refine own_body (by decide +kernel) ?_
  intro p e s m below meth c T0 X0 hx hZ hby hml hown hnm hret hlk e0
  have N0 := Fr.nil n0
  refine own_cast (own_frame (L := [rv t]) (ls := #[rv t]) rfl rfl) ?_
  refine og_aloadN X0 hx (hb hby d16_0) rfl rfl ?_
  refine og_getF X0 hx hZ hown (own_hw hw 27 rfl) Via.refl e0 Fv (hb hby d16_1) ?_
  intro T1 X1 e1
  show own_Go p e below _ T1 (mkF m 4 #[rv t] [(.ref b)])
  refine own_len X1 hx hZ e1 Ab (hb hby d16_4) ?_
  show own_Go p e below _ T1 (mkF m 5 #[rv t] [(.int 0)])
  refine og_ifN X1 hx (hb hby d16_5) (teq rfl).2 ?_
  refine og_iconst X1 hx (hb hby d16_8) ?_
  refine og_goto X1 hx 13 (hb hby d16_9) (by decide) (by decide) ?_
  exact own_retI X1 hx hret hlk (hb hby d16_13) rfl (by simp) (by decide) (by decide) (⟨rfl, N0, e1⟩)
theorem own_pd47939 : parseMethodDescriptor "(I)C" = some ⟨[.int], some .char⟩ := by decide +kernel
theorem own_pd95007 : parseMethodDescriptor "(ICCCC)Ljava/lang/String;" = some ⟨[.int, .char, .char, .char, .char], some (.object "java/lang/String")⟩ := by decide +kernel
theorem own_pd17966 : parseMethodDescriptor "(ICCCC)I" = some ⟨[.int, .char, .char, .char, .char], some .int⟩ := by decide +kernel
theorem own_pd11897 : parseMethodDescriptor "(Ljava/lang/String;)Ljava/lang/String;" = some ⟨[(.object "java/lang/String")], some (.object "java/lang/String")⟩ := by decide +kernel
theorem own_rm0 (l : Launch) (Z : State) (a0 : Array Value) (hw : own_W a0 Z) (p1 p2 p3 p4 p5 : Int32) (z : Int32) (sf : Value) (h0 : Heap) (n0 : Nat) (hO : Old Z n0 h0) (hG : own_Gs Z z sf) :
    own_MetH l Z own_EL x code maxLocals ret room_1 #[(.int p1), (.int p2), (.int p3), (.int p4), (.int p5)] h0 (own_Q1 n0) := by
  refine own_bodyH (by decide +kernel) ?_
  intro p e s m below meth c T0 X0 hx hZ hby hml hown hnm hret hlk e0 hS hk C0
  have hwS : ∀ a ∈ Bundle.stringAtoms, a.before a0 Z = true := fun d hd => hw d ((by decide +kernel : ∀ d ∈ Bundle.stringAtoms, d ∈ tables_1) d hd)
  have N0 := Fr.nil n0
  refine own_cast (own_frame (L := [iv p1, iv p2, iv p3, iv p4, iv p5]) (ls := #[iv p1, iv p2, iv p3, iv p4, iv p5, .unset, .unset, .unset, .unset, .unset, .unset, .unset, .unset]) rfl rfl) ?_
  obtain ⟨SC, hz, SF, rf⟩ := id hG
  refine og_iload X0 hx (hb hby at_0) rfl ?_
  refine og_bipush X0 hx (hb hby at_2) ?_
  refine og_iand X0 hx (hb hby at_4) ?_
  refine og_iconst X0 hx (hb hby at_5) ?_
  refine og_iremM X0 hx (hb hby at_6) (by decide) ?_
  show own_Go p e below _ T0 (mkF m 7 #[iv p1, iv p2, iv p3, iv p4, iv p5, .unset, .unset, .unset, .unset, .unset, .unset, .unset, .unset] [(.int ((p5 &&& 7) % 5))])
  refine og_istore X0 hx #[iv p1, iv p2, iv p3, iv p4, iv p5, iv ((p5 &&& 7) % 5), .unset, .unset, .unset, .unset, .unset, .unset, .unset] (hb hby at_7) rfl ?_
  refine og_iloadN X0 hx (hb hby at_9) rfl ?_
  refine own_callS X0 hx hZ hown (own_hw hw 0 rfl) (own_hw hw 1 rfl) (own_hw hw 2 rfl) (own_hw hw 3 rfl) (by decide) (argsL := [(.int p1)]) (rest := []) (own_chr l Z a0 hw p1 h0 n0) e0 (by rw [hml]; rfl) (lenOf own_pd47939 rfl) rfl (hb hby at_10) (W := 0) (Nat.le_of_eq rfl) (by decide) ?_
  intro v1 T1 L1 X1 q1
  obtain ⟨c1, rfl, N1q, e1, hc1⟩ := q1
  have N1 := Fr.app N0 N1q
  show own_Go p e below _ T1 (mkF m 13 #[iv p1, iv p2, iv p3, iv p4, iv p5, iv ((p5 &&& 7) % 5), .unset, .unset, .unset, .unset, .unset, .unset, .unset] [(.int c1)])
  refine og_istore X1 hx #[iv p1, iv p2, iv p3, iv p4, iv p5, iv ((p5 &&& 7) % 5), iv c1, .unset, .unset, .unset, .unset, .unset, .unset] (hb hby at_13) rfl ?_
  refine og_iloadN X1 hx (hb hby at_15) rfl ?_
  refine own_callS X1 hx hZ hown (own_hw hw 0 rfl) (own_hw hw 1 rfl) (own_hw hw 2 rfl) (own_hw hw 3 rfl) (by decide) (argsL := [(.int p2)]) (rest := []) (own_chr l Z a0 hw p2 h0 n0) e1 (by rw [hml]; rfl) (lenOf own_pd47939 rfl) rfl (hb hby at_16) (W := 0) (Nat.le_of_eq rfl) (by decide) ?_
  intro v2 T2 L2 X2 q2
  obtain ⟨c2, rfl, N2q, e2, hc2⟩ := q2
  have N2 := Fr.app N1 N2q
  show own_Go p e below _ T2 (mkF m 19 #[iv p1, iv p2, iv p3, iv p4, iv p5, iv ((p5 &&& 7) % 5), iv c1, .unset, .unset, .unset, .unset, .unset, .unset] [(.int c2)])
  refine og_istore X2 hx #[iv p1, iv p2, iv p3, iv p4, iv p5, iv ((p5 &&& 7) % 5), iv c1, iv c2, .unset, .unset, .unset, .unset, .unset] (hb hby at_19) rfl ?_
  refine og_iloadN X2 hx (hb hby at_21) rfl ?_
  refine own_callS X2 hx hZ hown (own_hw hw 0 rfl) (own_hw hw 1 rfl) (own_hw hw 2 rfl) (own_hw hw 3 rfl) (by decide) (argsL := [(.int p3)]) (rest := []) (own_chr l Z a0 hw p3 h0 n0) e2 (by rw [hml]; rfl) (lenOf own_pd47939 rfl) rfl (hb hby at_22) (W := 0) (Nat.le_of_eq rfl) (by decide) ?_
  intro v3 T3 L3 X3 q3
  obtain ⟨c3, rfl, N3q, e3, hc3⟩ := q3
  have N3 := Fr.app N2 N3q
  show own_Go p e below _ T3 (mkF m 25 #[iv p1, iv p2, iv p3, iv p4, iv p5, iv ((p5 &&& 7) % 5), iv c1, iv c2, .unset, .unset, .unset, .unset, .unset] [(.int c3)])
  refine og_istore X3 hx #[iv p1, iv p2, iv p3, iv p4, iv p5, iv ((p5 &&& 7) % 5), iv c1, iv c2, iv c3, .unset, .unset, .unset, .unset] (hb hby at_25) rfl ?_
  refine og_iloadN X3 hx (hb hby at_27) rfl ?_
  refine own_callS X3 hx hZ hown (own_hw hw 0 rfl) (own_hw hw 1 rfl) (own_hw hw 2 rfl) (own_hw hw 3 rfl) (by decide) (argsL := [(.int p4)]) (rest := []) (own_chr l Z a0 hw p4 h0 n0) e3 (by rw [hml]; rfl) (lenOf own_pd47939 rfl) rfl (hb hby at_28) (W := 0) (Nat.le_of_eq rfl) (by decide) ?_
  intro v4 T4 L4 X4 q4
  obtain ⟨c4, rfl, N4q, e4, hc4⟩ := q4
  have N4 := Fr.app N3 N4q
  show own_Go p e below _ T4 (mkF m 31 #[iv p1, iv p2, iv p3, iv p4, iv p5, iv ((p5 &&& 7) % 5), iv c1, iv c2, iv c3, .unset, .unset, .unset, .unset] [(.int c4)])
  refine og_istore X4 hx #[iv p1, iv p2, iv p3, iv p4, iv p5, iv ((p5 &&& 7) % 5), iv c1, iv c2, iv c3, iv c4, .unset, .unset, .unset] (hb hby at_31) rfl ?_
  show own_Go p e below _ T4 (mkF m 33 #[iv p1, iv p2, iv p3, iv p4, iv p5, iv ((p5 &&& 7) % 5), iv c1, iv c2, iv c3, iv c4, .unset, .unset, .unset] [])
  rcases own_cases p5 with h | h | h | h | h
  · rw [h]
    show own_Go p e below _ T4 (mkF m 33 #[iv p1, iv p2, iv p3, iv p4, iv p5, iv 0, iv c1, iv c2, iv c3, iv c4, .unset, .unset, .unset] [])
    refine og_iload X4 hx (hb hby at_33) rfl ?_
    show own_Go p e below _ T4 (mkF m 35 #[iv p1, iv p2, iv p3, iv p4, iv p5, iv 0, iv c1, iv c2, iv c3, iv c4, .unset, .unset, .unset] [(.int 0)])
    refine og_iload X4 hx (hb hby at_35) rfl ?_
    refine og_iload X4 hx (hb hby at_37) rfl ?_
    refine og_iload X4 hx (hb hby at_39) rfl ?_
    refine og_iload X4 hx (hb hby at_41) rfl ?_
    refine own_callSH X4 hx hZ hown (own_hw hw 4 rfl) (own_hw hw 5 rfl) (own_hw hw 2 rfl) (own_hw hw 6 rfl) (by decide) (argsL := [(.int 0), (.int c1), (.int c2), (.int c3), (.int c4)]) (rest := []) (own_mk0 l Z a0 hw c1 c2 c3 c4 h0 n0 hO) (own_EW hw) C0.1 hS hk e4 (by rw [hml]; rfl) (lenOf own_pd95007 rfl) rfl (hb hby at_43) (W := 0) (Nat.le_of_eq rfl) (by decide) ?_
    intro v5 T5 L5 X5 hS5 hZ5 hown5 C5q q5
    obtain ⟨t5, vb5, k5, rfl, N5q, K5q, zt5, gt5, Et5, Ft5, Ct5, At5⟩ := q5
    have N5 := Fr.app N4 N5q
    have C5 := C0.trans C5q
    have O5 := hO.keep K5q all0
    show own_Go p e below _ T5 (mkF m 46 #[iv p1, iv p2, iv p3, iv p4, iv p5, iv 0, iv c1, iv c2, iv c3, iv c4, .unset, .unset, .unset] [(.ref t5)])
    refine og_astore X5 hx #[iv p1, iv p2, iv p3, iv p4, iv p5, iv 0, iv c1, iv c2, iv c3, iv c4, rv t5, .unset, .unset] (hb hby at_46) rfl rfl ?_
    refine og_iload X5 hx (hb hby at_48) rfl ?_
    refine og_iload X5 hx (hb hby at_50) rfl ?_
    refine og_iload X5 hx (hb hby at_52) rfl ?_
    refine og_iload X5 hx (hb hby at_54) rfl ?_
    refine og_iload X5 hx (hb hby at_56) rfl ?_
    refine own_callS X5 hx hZ5 hown5 (own_hw hw 29 rfl) (own_hw hw 30 rfl) (own_hw hw 2 rfl) (own_hw hw 31 rfl) (by decide) (argsL := [(.int 0), (.int c1), (.int c2), (.int c3), (.int c4)]) (rest := []) (own_ls_0_m1 l Z a0 hw c1 c2 c3 c4 T5.heap n0) rfl (by rw [hml]; rfl) (lenOf own_pd17966 rfl) rfl (hb hby at_58) (W := 0) (Nat.le_of_eq rfl) (by decide) ?_
    intro v6 T6 L6 X6 q6
    obtain ⟨rfl, N6q, e6⟩ := q6
    have N6 := Fr.app N5 N6q
    show own_Go p e below _ T6 (mkF m 61 #[iv p1, iv p2, iv p3, iv p4, iv p5, iv 0, iv c1, iv c2, iv c3, iv c4, rv t5, .unset, .unset] [(.int (-1))])
    refine og_istore X6 hx #[iv p1, iv p2, iv p3, iv p4, iv p5, iv 0, iv c1, iv c2, iv c3, iv c4, rv t5, iv (-1), .unset] (hb hby at_61) rfl ?_
    refine og_aload X6 hx (hb hby at_63) rfl rfl ?_
    refine own_callSH X6 hx hZ5 hown5 (own_hw hw 32 rfl) (own_hw hw 33 rfl) (own_hw hw 34 rfl) (own_hw hw 35 rfl) (by decide) (argsL := [(.ref t5)]) (rest := []) (own_po_0_m1 l Z a0 hw z sf t5 vb5 _ _ T5.heap n0 O5 hG Et5 Ft5 Ct5 At5) (own_EW hw) C5.1 hS5 (Nat.le_refl _) e6 (by rw [hml]; rfl) (lenOf own_pd11897 rfl) rfl (hb hby at_65) (W := 0) (Nat.le_of_eq rfl) (by decide) ?_
    intro v7 T7 L7 X7 hS7 hZ7 hown7 C7q q7
    obtain ⟨t7, vb7, k7, rfl, N7q, K7q, Et7, Ft7, Ct7, At7⟩ := q7
    have N7 := Fr.app N6 N7q
    have C7 := C5.trans C7q
    have E_t5_7 := Et5.keep K7q
    have F_t5_value_7 := Ft5.keep K7q nin0
    have F_t5_coder_7 := Ct5.keep K7q nin0
    have A_vb5_7 := At5.keep K7q nin0
    have O7 := O5.keep K7q all0
    show own_Go p e below _ T7 (mkF m 68 #[iv p1, iv p2, iv p3, iv p4, iv p5, iv 0, iv c1, iv c2, iv c3, iv c4, rv t5, iv (-1), .unset] [(.ref t7)])
    refine og_astore X7 hx #[iv p1, iv p2, iv p3, iv p4, iv p5, iv 0, iv c1, iv c2, iv c3, iv c4, rv t5, iv (-1), rv t7] (hb hby at_68) rfl rfl ?_
    refine og_aload X7 hx (hb hby at_70) rfl rfl ?_
    refine og_ifnonnullY X7 hx 77 (hb hby at_72) (by decide) (by decide) ?_
    show own_Go p e below _ T7 (mkF m 77 #[iv p1, iv p2, iv p3, iv p4, iv p5, iv 0, iv c1, iv c2, iv c3, iv c4, rv t5, iv (-1), rv t7] [])
    refine og_iload X7 hx (hb hby at_77) rfl ?_
    refine og_ifN X7 hx (hb hby at_79) (tlt (by decide)).2.1 ?_
    refine og_aload X7 hx (hb hby at_82) rfl rfl ?_
    refine own_callV X7 hx hZ7 hown7 (own_hw hw 74 rfl) (own_hw hw 75 rfl) (notFace_of_selects (args := #[]) (mvT hZ7 (own_hw hw 77 rfl))) (own_hw hw 77 rfl) (own_hw hw 76 rfl) (own_hw hw 78 rfl) (own_hw hw 9 rfl) (by decide) (b := t7) (argsL := []) (rest := []) (own_ie0 l Z a0 hw t7 vb7 _ _ T7.heap n0 Ft7 At7) rfl Et7 (by rw [hml]; rfl) (lenOf own_pd61835 rfl) rfl (hb hby at_84) (W := 0) (Nat.le_of_eq rfl) (by decide) ?_
    intro v8 T8 L8 X8 q8
    obtain ⟨rfl, N8q, e8⟩ := q8
    have N8 := Fr.app N7 N8q
    show own_Go p e below _ T8 (mkF m 87 #[iv p1, iv p2, iv p3, iv p4, iv p5, iv 0, iv c1, iv c2, iv c3, iv c4, rv t5, iv (-1), rv t7] [(.int 1)])
    exact own_retIH X8 hx hret hlk (hb hby at_87) rfl (by simp) hZ7 (own_EW hw) C7 e8 hS7 (Nat.le_refl _) (by decide) (by decide) (⟨rfl, N8⟩)
  · rw [h]
    show own_Go p e below _ T4 (mkF m 33 #[iv p1, iv p2, iv p3, iv p4, iv p5, iv 1, iv c1, iv c2, iv c3, iv c4, .unset, .unset, .unset] [])
    refine og_iload X4 hx (hb hby at_33) rfl ?_
    show own_Go p e below _ T4 (mkF m 35 #[iv p1, iv p2, iv p3, iv p4, iv p5, iv 1, iv c1, iv c2, iv c3, iv c4, .unset, .unset, .unset] [(.int 1)])
    rcases own_last1 c1 with k0 | ⟨m0, -⟩
    · show own_Go p e below _ T4 (mkF m 35 #[iv p1, iv p2, iv p3, iv p4, iv p5, iv 1, iv c1, iv c2, iv c3, iv c4, .unset, .unset, .unset] [(.int 1)])
      refine og_iload X4 hx (hb hby at_35) rfl ?_
      refine og_iload X4 hx (hb hby at_37) rfl ?_
      refine og_iload X4 hx (hb hby at_39) rfl ?_
      refine og_iload X4 hx (hb hby at_41) rfl ?_
      refine own_callS X4 hx hZ hown (own_hw hw 4 rfl) (own_hw hw 5 rfl) (own_hw hw 2 rfl) (own_hw hw 6 rfl) (by decide) (argsL := [(.int 1), (.int c1), (.int c2), (.int c3), (.int c4)]) (rest := []) (own_mk1 l Z a0 hw c1 c2 c3 c4 z h0 n0 hO SC hz hc1 hc2 hc3 hc4) e4 (by rw [hml]; rfl) (lenOf own_pd95007 rfl) rfl (hb hby at_43) (W := 0) (Nat.le_of_eq rfl) (by decide) ?_
      intro v9 T9 L9 X9 q9
      obtain ⟨t9, vb9, k9, rfl, N9q, K9q, zt9, gt9, zb9, gb9, ne_t9_vb9, Et9, Ft9, Ct9, At9⟩ := q9
      have N9 := Fr.app N4 N9q
      have hk9 := Nat.le_trans hk K9q.1
      have hs9 : ∀ x ∈ ([] : List Addr), Safe Z own_EL s.vm h0 x := sf0
      have C9 := C0.trans (CHr.keep K9q hs9 C0.1)
      have O9 := hO.keep K9q all0
      show own_Go p e below _ T9 (mkF m 46 #[iv p1, iv p2, iv p3, iv p4, iv p5, iv 1, iv c1, iv c2, iv c3, iv c4, .unset, .unset, .unset] [(.ref t9)])
      refine og_astore X9 hx #[iv p1, iv p2, iv p3, iv p4, iv p5, iv 1, iv c1, iv c2, iv c3, iv c4, rv t9, .unset, .unset] (hb hby at_46) rfl rfl ?_
      refine og_iload X9 hx (hb hby at_48) rfl ?_
      refine og_iload X9 hx (hb hby at_50) rfl ?_
      refine og_iload X9 hx (hb hby at_52) rfl ?_
      refine og_iload X9 hx (hb hby at_54) rfl ?_
      refine og_iload X9 hx (hb hby at_56) rfl ?_
      refine own_callS X9 hx hZ hown (own_hw hw 29 rfl) (own_hw hw 30 rfl) (own_hw hw 2 rfl) (own_hw hw 31 rfl) (by decide) (argsL := [(.int 1), (.int c1), (.int c2), (.int c3), (.int c4)]) (rest := []) (own_ls_1_0 l Z a0 hw c1 c2 c3 c4 T9.heap n0 k0) rfl (by rw [hml]; rfl) (lenOf own_pd17966 rfl) rfl (hb hby at_58) (W := 0) (Nat.le_of_eq rfl) (by decide) ?_
      intro v10 T10 L10 X10 q10
      obtain ⟨rfl, N10q, e10⟩ := q10
      have N10 := Fr.app N9 N10q
      show own_Go p e below _ T10 (mkF m 61 #[iv p1, iv p2, iv p3, iv p4, iv p5, iv 1, iv c1, iv c2, iv c3, iv c4, rv t9, .unset, .unset] [(.int 0)])
      refine og_istore X10 hx #[iv p1, iv p2, iv p3, iv p4, iv p5, iv 1, iv c1, iv c2, iv c3, iv c4, rv t9, iv 0, .unset] (hb hby at_61) rfl ?_
      refine og_aload X10 hx (hb hby at_63) rfl rfl ?_
      refine own_callSH X10 hx hZ hown (own_hw hw 32 rfl) (own_hw hw 33 rfl) (own_hw hw 34 rfl) (own_hw hw 35 rfl) (by decide) (argsL := [(.ref t9)]) (rest := []) (own_po_1_0 l Z a0 hw z sf t9 vb9 _ _ c1 T9.heap n0 O9 hG k0 Et9 Ft9 Ct9 At9) (own_EW hw) C9.1 hS hk9 e10 (by rw [hml]; rfl) (lenOf own_pd11897 rfl) rfl (hb hby at_65) (W := 0) (Nat.le_of_eq rfl) (by decide) ?_
      intro v11 T11 L11 X11 hS11 hZ11 hown11 C11q q11
      obtain ⟨t11, vb11, k11, rfl, N11q, K11q, Et11, Ft11, Ct11, At11⟩ := q11
      have N11 := Fr.app N10 N11q
      have C11 := C9.trans C11q
      have E_t9_11 := Et9.keep K11q
      have F_t9_value_11 := Ft9.keep K11q nin0
      have F_t9_coder_11 := Ct9.keep K11q nin0
      have A_vb9_11 := At9.keep K11q nin0
      have O11 := O9.keep K11q all0
      show own_Go p e below _ T11 (mkF m 68 #[iv p1, iv p2, iv p3, iv p4, iv p5, iv 1, iv c1, iv c2, iv c3, iv c4, rv t9, iv 0, .unset] [(.ref t11)])
      refine og_astore X11 hx #[iv p1, iv p2, iv p3, iv p4, iv p5, iv 1, iv c1, iv c2, iv c3, iv c4, rv t9, iv 0, rv t11] (hb hby at_68) rfl rfl ?_
      refine og_aload X11 hx (hb hby at_70) rfl rfl ?_
      refine og_ifnonnullY X11 hx 77 (hb hby at_72) (by decide) (by decide) ?_
      show own_Go p e below _ T11 (mkF m 77 #[iv p1, iv p2, iv p3, iv p4, iv p5, iv 1, iv c1, iv c2, iv c3, iv c4, rv t9, iv 0, rv t11] [])
      refine og_iload X11 hx (hb hby at_77) rfl ?_
      refine og_ifY X11 hx 88 (hb hby at_79) (flt (by decide)).2.1 (by decide) (by decide) ?_
      refine og_aload X11 hx (hb hby at_88) rfl rfl ?_
      refine own_callV X11 hx hZ11 hown11 (own_hw hw 124 rfl) (own_hw hw 42 rfl) (notFace_of_selects (args := #[]) (mvT hZ11 (own_hw hw 44 rfl))) (own_hw hw 44 rfl) (own_hw hw 43 rfl) (own_hw hw 45 rfl) (own_hw hw 9 rfl) (by decide) (b := t11) (argsL := []) (rest := []) (own_slen l Z a0 hw z sf t11 vb11 _ _ _ _ T11.heap n0 O11 hG Et11 Ft11 Ct11 At11) rfl Et11 (by rw [hml]; rfl) (lenOf own_pd13941 rfl) rfl (hb hby at_90) (W := 0) (Nat.le_of_eq rfl) (by decide) ?_
      intro v12 T12 L12 X12 q12
      obtain ⟨rfl, N12q, e12⟩ := q12
      have N12 := Fr.app N11 N12q
      show own_Go p e below _ T12 (mkF m 93 #[iv p1, iv p2, iv p3, iv p4, iv p5, iv 1, iv c1, iv c2, iv c3, iv c4, rv t9, iv 0, rv t11] [(.int 0)])
      refine og_iload X12 hx (hb hby at_93) rfl ?_
      refine og_icY X12 hx 100 (hb hby at_95) (teq rfl).1 (by decide) (by decide) ?_
      refine og_iload X12 hx (hb hby at_100) rfl ?_
      refine og_iconst X12 hx (hb hby at_102) ?_
      refine og_icY X12 hx 117 (hb hby at_103) (tlt (by decide)).1 (by decide) (by decide) ?_
      refine og_iload X12 hx (hb hby at_117) rfl ?_
      refine og_iconst X12 hx (hb hby at_119) ?_
      refine og_icY X12 hx 134 (hb hby at_120) (tlt (by decide)).1 (by decide) (by decide) ?_
      refine og_iload X12 hx (hb hby at_134) rfl ?_
      refine og_iconst X12 hx (hb hby at_136) ?_
      refine og_icY X12 hx 151 (hb hby at_137) (tlt (by decide)).1 (by decide) (by decide) ?_
      refine og_iconst X12 hx (hb hby at_151) ?_
      refine og_goto X12 hx 156 (hb hby at_152) (by decide) (by decide) ?_
      exact own_retIH X12 hx hret hlk (hb hby at_156) rfl (by simp) hZ11 (own_EW hw) C11 e12 hS11 (Nat.le_refl _) (by decide) (by decide) (⟨rfl, N12⟩)
    · show own_Go p e below _ T4 (mkF m 35 #[iv p1, iv p2, iv p3, iv p4, iv p5, iv 1, iv c1, iv c2, iv c3, iv c4, .unset, .unset, .unset] [(.int 1)])
      refine og_iload X4 hx (hb hby at_35) rfl ?_
      refine og_iload X4 hx (hb hby at_37) rfl ?_
      refine og_iload X4 hx (hb hby at_39) rfl ?_
      refine og_iload X4 hx (hb hby at_41) rfl ?_
      refine own_callS X4 hx hZ hown (own_hw hw 4 rfl) (own_hw hw 5 rfl) (own_hw hw 2 rfl) (own_hw hw 6 rfl) (by decide) (argsL := [(.int 1), (.int c1), (.int c2), (.int c3), (.int c4)]) (rest := []) (own_mk1 l Z a0 hw c1 c2 c3 c4 z h0 n0 hO SC hz hc1 hc2 hc3 hc4) e4 (by rw [hml]; rfl) (lenOf own_pd95007 rfl) rfl (hb hby at_43) (W := 0) (Nat.le_of_eq rfl) (by decide) ?_
      intro v13 T13 L13 X13 q13
      obtain ⟨t13, vb13, k13, rfl, N13q, K13q, zt13, gt13, zb13, gb13, ne_t13_vb13, Et13, Ft13, Ct13, At13⟩ := q13
      have N13 := Fr.app N4 N13q
      have hk13 := Nat.le_trans hk K13q.1
      have hs13 : ∀ x ∈ ([] : List Addr), Safe Z own_EL s.vm h0 x := sf0
      have C13 := C0.trans (CHr.keep K13q hs13 C0.1)
      have O13 := hO.keep K13q all0
      show own_Go p e below _ T13 (mkF m 46 #[iv p1, iv p2, iv p3, iv p4, iv p5, iv 1, iv c1, iv c2, iv c3, iv c4, .unset, .unset, .unset] [(.ref t13)])
      refine og_astore X13 hx #[iv p1, iv p2, iv p3, iv p4, iv p5, iv 1, iv c1, iv c2, iv c3, iv c4, rv t13, .unset, .unset] (hb hby at_46) rfl rfl ?_
      refine og_iload X13 hx (hb hby at_48) rfl ?_
      refine og_iload X13 hx (hb hby at_50) rfl ?_
      refine og_iload X13 hx (hb hby at_52) rfl ?_
      refine og_iload X13 hx (hb hby at_54) rfl ?_
      refine og_iload X13 hx (hb hby at_56) rfl ?_
      refine own_callS X13 hx hZ hown (own_hw hw 29 rfl) (own_hw hw 30 rfl) (own_hw hw 2 rfl) (own_hw hw 31 rfl) (by decide) (argsL := [(.int 1), (.int c1), (.int c2), (.int c3), (.int c4)]) (rest := []) (own_ls_1_m1 l Z a0 hw c1 c2 c3 c4 T13.heap n0 m0) rfl (by rw [hml]; rfl) (lenOf own_pd17966 rfl) rfl (hb hby at_58) (W := 0) (Nat.le_of_eq rfl) (by decide) ?_
      intro v14 T14 L14 X14 q14
      obtain ⟨rfl, N14q, e14⟩ := q14
      have N14 := Fr.app N13 N14q
      show own_Go p e below _ T14 (mkF m 61 #[iv p1, iv p2, iv p3, iv p4, iv p5, iv 1, iv c1, iv c2, iv c3, iv c4, rv t13, .unset, .unset] [(.int (-1))])
      refine og_istore X14 hx #[iv p1, iv p2, iv p3, iv p4, iv p5, iv 1, iv c1, iv c2, iv c3, iv c4, rv t13, iv (-1), .unset] (hb hby at_61) rfl ?_
      refine og_aload X14 hx (hb hby at_63) rfl rfl ?_
      refine own_callSH X14 hx hZ hown (own_hw hw 32 rfl) (own_hw hw 33 rfl) (own_hw hw 34 rfl) (own_hw hw 35 rfl) (by decide) (argsL := [(.ref t13)]) (rest := []) (own_po_1_m1 l Z a0 hw z sf t13 vb13 _ _ c1 T13.heap n0 O13 hG hc1 m0 Et13 Ft13 Ct13 At13) (own_EW hw) C13.1 hS hk13 e14 (by rw [hml]; rfl) (lenOf own_pd11897 rfl) rfl (hb hby at_65) (W := 0) (Nat.le_of_eq rfl) (by decide) ?_
      intro v15 T15 L15 X15 hS15 hZ15 hown15 C15q q15
      obtain ⟨t15, vb15, k15, rfl, N15q, K15q, Et15, Ft15, Ct15, At15⟩ := q15
      have N15 := Fr.app N14 N15q
      have C15 := C13.trans C15q
      have E_t13_15 := Et13.keep K15q
      have F_t13_value_15 := Ft13.keep K15q nin0
      have F_t13_coder_15 := Ct13.keep K15q nin0
      have A_vb13_15 := At13.keep K15q nin0
      have O15 := O13.keep K15q all0
      show own_Go p e below _ T15 (mkF m 68 #[iv p1, iv p2, iv p3, iv p4, iv p5, iv 1, iv c1, iv c2, iv c3, iv c4, rv t13, iv (-1), .unset] [(.ref t15)])
      refine og_astore X15 hx #[iv p1, iv p2, iv p3, iv p4, iv p5, iv 1, iv c1, iv c2, iv c3, iv c4, rv t13, iv (-1), rv t15] (hb hby at_68) rfl rfl ?_
      refine og_aload X15 hx (hb hby at_70) rfl rfl ?_
      refine og_ifnonnullY X15 hx 77 (hb hby at_72) (by decide) (by decide) ?_
      show own_Go p e below _ T15 (mkF m 77 #[iv p1, iv p2, iv p3, iv p4, iv p5, iv 1, iv c1, iv c2, iv c3, iv c4, rv t13, iv (-1), rv t15] [])
      refine og_iload X15 hx (hb hby at_77) rfl ?_
      refine og_ifN X15 hx (hb hby at_79) (tlt (by decide)).2.1 ?_
      refine og_aload X15 hx (hb hby at_82) rfl rfl ?_
      refine own_callV X15 hx hZ15 hown15 (own_hw hw 74 rfl) (own_hw hw 75 rfl) (notFace_of_selects (args := #[]) (mvT hZ15 (own_hw hw 77 rfl))) (own_hw hw 77 rfl) (own_hw hw 76 rfl) (own_hw hw 78 rfl) (own_hw hw 9 rfl) (by decide) (b := t15) (argsL := []) (rest := []) (own_ie0 l Z a0 hw t15 vb15 _ _ T15.heap n0 Ft15 At15) rfl Et15 (by rw [hml]; rfl) (lenOf own_pd61835 rfl) rfl (hb hby at_84) (W := 0) (Nat.le_of_eq rfl) (by decide) ?_
      intro v16 T16 L16 X16 q16
      obtain ⟨rfl, N16q, e16⟩ := q16
      have N16 := Fr.app N15 N16q
      show own_Go p e below _ T16 (mkF m 87 #[iv p1, iv p2, iv p3, iv p4, iv p5, iv 1, iv c1, iv c2, iv c3, iv c4, rv t13, iv (-1), rv t15] [(.int 1)])
      exact own_retIH X16 hx hret hlk (hb hby at_87) rfl (by simp) hZ15 (own_EW hw) C15 e16 hS15 (Nat.le_refl _) (by decide) (by decide) (⟨rfl, N16⟩)
  · rw [h]
    show own_Go p e below _ T4 (mkF m 33 #[iv p1, iv p2, iv p3, iv p4, iv p5, iv 2, iv c1, iv c2, iv c3, iv c4, .unset, .unset, .unset] [])
    refine og_iload X4 hx (hb hby at_33) rfl ?_
    show own_Go p e below _ T4 (mkF m 35 #[iv p1, iv p2, iv p3, iv p4, iv p5, iv 2, iv c1, iv c2, iv c3, iv c4, .unset, .unset, .unset] [(.int 2)])
    rcases own_last2 c1 c2 with k1 | ⟨m1, k0⟩ | ⟨m1, m0, -⟩
    · show own_Go p e below _ T4 (mkF m 35 #[iv p1, iv p2, iv p3, iv p4, iv p5, iv 2, iv c1, iv c2, iv c3, iv c4, .unset, .unset, .unset] [(.int 2)])
      refine og_iload X4 hx (hb hby at_35) rfl ?_
      refine og_iload X4 hx (hb hby at_37) rfl ?_
      refine og_iload X4 hx (hb hby at_39) rfl ?_
      refine og_iload X4 hx (hb hby at_41) rfl ?_
      refine own_callS X4 hx hZ hown (own_hw hw 4 rfl) (own_hw hw 5 rfl) (own_hw hw 2 rfl) (own_hw hw 6 rfl) (by decide) (argsL := [(.int 2), (.int c1), (.int c2), (.int c3), (.int c4)]) (rest := []) (own_mk2 l Z a0 hw c1 c2 c3 c4 z h0 n0 hO SC hz hc1 hc2 hc3 hc4) e4 (by rw [hml]; rfl) (lenOf own_pd95007 rfl) rfl (hb hby at_43) (W := 0) (Nat.le_of_eq rfl) (by decide) ?_
      intro v17 T17 L17 X17 q17
      obtain ⟨t17, vb17, k17, rfl, N17q, K17q, zt17, gt17, zb17, gb17, ne_t17_vb17, Et17, Ft17, Ct17, At17⟩ := q17
      have N17 := Fr.app N4 N17q
      have hk17 := Nat.le_trans hk K17q.1
      have hs17 : ∀ x ∈ ([] : List Addr), Safe Z own_EL s.vm h0 x := sf0
      have C17 := C0.trans (CHr.keep K17q hs17 C0.1)
      have O17 := hO.keep K17q all0
      show own_Go p e below _ T17 (mkF m 46 #[iv p1, iv p2, iv p3, iv p4, iv p5, iv 2, iv c1, iv c2, iv c3, iv c4, .unset, .unset, .unset] [(.ref t17)])
      refine og_astore X17 hx #[iv p1, iv p2, iv p3, iv p4, iv p5, iv 2, iv c1, iv c2, iv c3, iv c4, rv t17, .unset, .unset] (hb hby at_46) rfl rfl ?_
      refine og_iload X17 hx (hb hby at_48) rfl ?_
      refine og_iload X17 hx (hb hby at_50) rfl ?_
      refine og_iload X17 hx (hb hby at_52) rfl ?_
      refine og_iload X17 hx (hb hby at_54) rfl ?_
      refine og_iload X17 hx (hb hby at_56) rfl ?_
      refine own_callS X17 hx hZ hown (own_hw hw 29 rfl) (own_hw hw 30 rfl) (own_hw hw 2 rfl) (own_hw hw 31 rfl) (by decide) (argsL := [(.int 2), (.int c1), (.int c2), (.int c3), (.int c4)]) (rest := []) (own_ls_2_1 l Z a0 hw c1 c2 c3 c4 T17.heap n0 k1) rfl (by rw [hml]; rfl) (lenOf own_pd17966 rfl) rfl (hb hby at_58) (W := 0) (Nat.le_of_eq rfl) (by decide) ?_
      intro v18 T18 L18 X18 q18
      obtain ⟨rfl, N18q, e18⟩ := q18
      have N18 := Fr.app N17 N18q
      show own_Go p e below _ T18 (mkF m 61 #[iv p1, iv p2, iv p3, iv p4, iv p5, iv 2, iv c1, iv c2, iv c3, iv c4, rv t17, .unset, .unset] [(.int 1)])
      refine og_istore X18 hx #[iv p1, iv p2, iv p3, iv p4, iv p5, iv 2, iv c1, iv c2, iv c3, iv c4, rv t17, iv 1, .unset] (hb hby at_61) rfl ?_
      refine og_aload X18 hx (hb hby at_63) rfl rfl ?_
      refine own_callS X18 hx hZ hown (own_hw hw 32 rfl) (own_hw hw 33 rfl) (own_hw hw 34 rfl) (own_hw hw 35 rfl) (by decide) (argsL := [(.ref t17)]) (rest := []) (own_po_2_1 l Z a0 hw z sf t17 vb17 _ _ c1 c2 T17.heap n0 O17 hG k1 Et17 Ft17 Ct17 At17) e18 (by rw [hml]; rfl) (lenOf own_pd11897 rfl) rfl (hb hby at_65) (W := 0) (Nat.le_of_eq rfl) (by decide) ?_
      intro v19 T19 L19 X19 q19
      obtain ⟨t19, vb19, k19, rfl, N19q, K19q, zt19, gt19, zb19, gb19, ne_t19_vb19, Et19, Ft19, Ct19, At19⟩ := q19
      have N19 := Fr.app N18 N19q
      have ne_t17_t19 : t17 ≠ t19 := Nat.ne_of_lt (Nat.lt_of_lt_of_le Et17.lt zt19)
      have ne_vb17_t19 : vb17 ≠ t19 := Nat.ne_of_lt (Nat.lt_of_lt_of_le At17.lt zt19)
      have ne_t17_vb19 : t17 ≠ vb19 := Nat.ne_of_lt (Nat.lt_of_lt_of_le Et17.lt zb19)
      have ne_vb17_vb19 : vb17 ≠ vb19 := Nat.ne_of_lt (Nat.lt_of_lt_of_le At17.lt zb19)
      have hk19 := Nat.le_trans hk17 K19q.1
      have hs19 : ∀ x ∈ ([] : List Addr), Safe Z own_EL s.vm T17.heap x := sf0
      have C19 := C17.trans (CHr.keep K19q hs19 C17.1)
      have E_t17_19 := Et17.keep K19q
      have F_t17_value_19 := Ft17.keep K19q nin0
      have F_t17_coder_19 := Ct17.keep K19q nin0
      have A_vb17_19 := At17.keep K19q nin0
      have O19 := O17.keep K19q all0
      show own_Go p e below _ T19 (mkF m 68 #[iv p1, iv p2, iv p3, iv p4, iv p5, iv 2, iv c1, iv c2, iv c3, iv c4, rv t17, iv 1, .unset] [(.ref t19)])
      refine og_astore X19 hx #[iv p1, iv p2, iv p3, iv p4, iv p5, iv 2, iv c1, iv c2, iv c3, iv c4, rv t17, iv 1, rv t19] (hb hby at_68) rfl rfl ?_
      refine og_aload X19 hx (hb hby at_70) rfl rfl ?_
      refine og_ifnonnullY X19 hx 77 (hb hby at_72) (by decide) (by decide) ?_
      show own_Go p e below _ T19 (mkF m 77 #[iv p1, iv p2, iv p3, iv p4, iv p5, iv 2, iv c1, iv c2, iv c3, iv c4, rv t17, iv 1, rv t19] [])
      refine og_iload X19 hx (hb hby at_77) rfl ?_
      refine og_ifY X19 hx 88 (hb hby at_79) (flt (by decide)).2.1 (by decide) (by decide) ?_
      refine og_aload X19 hx (hb hby at_88) rfl rfl ?_
      refine own_callV X19 hx hZ hown (own_hw hw 124 rfl) (own_hw hw 42 rfl) (notFace_of_selects (args := #[]) (mvT hZ (own_hw hw 44 rfl))) (own_hw hw 44 rfl) (own_hw hw 43 rfl) (own_hw hw 45 rfl) (own_hw hw 9 rfl) (by decide) (b := t19) (argsL := []) (rest := []) (own_slen l Z a0 hw z sf t19 vb19 _ _ _ _ T19.heap n0 O19 hG Et19 Ft19 Ct19 At19) rfl Et19 (by rw [hml]; rfl) (lenOf own_pd13941 rfl) rfl (hb hby at_90) (W := 0) (Nat.le_of_eq rfl) (by decide) ?_
      intro v20 T20 L20 X20 q20
      obtain ⟨rfl, N20q, e20⟩ := q20
      have N20 := Fr.app N19 N20q
      show own_Go p e below _ T20 (mkF m 93 #[iv p1, iv p2, iv p3, iv p4, iv p5, iv 2, iv c1, iv c2, iv c3, iv c4, rv t17, iv 1, rv t19] [(.int 1)])
      refine og_iload X20 hx (hb hby at_93) rfl ?_
      refine og_icY X20 hx 100 (hb hby at_95) (teq rfl).1 (by decide) (by decide) ?_
      refine og_iload X20 hx (hb hby at_100) rfl ?_
      refine og_iconst X20 hx (hb hby at_102) ?_
      refine og_icN X20 hx (hb hby at_103) (flt (by decide)).1 ?_
      refine og_aload X20 hx (hb hby at_106) rfl rfl ?_
      refine og_iconst X20 hx (hb hby at_108) ?_
      refine own_callV X20 hx hZ hown (own_hw hw 125 rfl) (own_hw hw 126 rfl) (notFace_of_selects (args := #[]) (mvT hZ (own_hw hw 128 rfl))) (own_hw hw 128 rfl) (own_hw hw 127 rfl) (own_hw hw 129 rfl) (own_hw hw 9 rfl) (by decide) (b := t19) (argsL := [(.int 0)]) (rest := []) (own_ca_0_1 l Z a0 hw z sf t19 vb19 _ _ c1 T19.heap n0 O19 hG hc1 Et19 Ft19 Ct19 At19) e20 Et19 (by rw [hml]; rfl) (lenOf own_pd47939 rfl) rfl (hb hby at_109) (W := 0) (Nat.le_of_eq rfl) (by decide) ?_
      intro v21 T21 L21 X21 q21
      obtain ⟨rfl, N21q, e21⟩ := q21
      have N21 := Fr.app N20 N21q
      show own_Go p e below _ T21 (mkF m 112 #[iv p1, iv p2, iv p3, iv p4, iv p5, iv 2, iv c1, iv c2, iv c3, iv c4, rv t17, iv 1, rv t19] [(.int c1)])
      refine og_iload X21 hx (hb hby at_112) rfl ?_
      refine og_icN X21 hx (hb hby at_114) (teq rfl).2 ?_
      refine og_iload X21 hx (hb hby at_117) rfl ?_
      refine og_iconst X21 hx (hb hby at_119) ?_
      refine og_icY X21 hx 134 (hb hby at_120) (tlt (by decide)).1 (by decide) (by decide) ?_
      refine og_iload X21 hx (hb hby at_134) rfl ?_
      refine og_iconst X21 hx (hb hby at_136) ?_
      refine og_icY X21 hx 151 (hb hby at_137) (tlt (by decide)).1 (by decide) (by decide) ?_
      refine og_iconst X21 hx (hb hby at_151) ?_
      refine og_goto X21 hx 156 (hb hby at_152) (by decide) (by decide) ?_
      exact own_retIH X21 hx hret hlk (hb hby at_156) rfl (by simp) hZ (own_EW hw) C19 e21 hS hk19 (by decide) (by decide) (⟨rfl, N21⟩)
    · show own_Go p e below _ T4 (mkF m 35 #[iv p1, iv p2, iv p3, iv p4, iv p5, iv 2, iv c1, iv c2, iv c3, iv c4, .unset, .unset, .unset] [(.int 2)])
      refine og_iload X4 hx (hb hby at_35) rfl ?_
      refine og_iload X4 hx (hb hby at_37) rfl ?_
      refine og_iload X4 hx (hb hby at_39) rfl ?_
      refine og_iload X4 hx (hb hby at_41) rfl ?_
      refine own_callS X4 hx hZ hown (own_hw hw 4 rfl) (own_hw hw 5 rfl) (own_hw hw 2 rfl) (own_hw hw 6 rfl) (by decide) (argsL := [(.int 2), (.int c1), (.int c2), (.int c3), (.int c4)]) (rest := []) (own_mk2 l Z a0 hw c1 c2 c3 c4 z h0 n0 hO SC hz hc1 hc2 hc3 hc4) e4 (by rw [hml]; rfl) (lenOf own_pd95007 rfl) rfl (hb hby at_43) (W := 0) (Nat.le_of_eq rfl) (by decide) ?_
      intro v22 T22 L22 X22 q22
      obtain ⟨t22, vb22, k22, rfl, N22q, K22q, zt22, gt22, zb22, gb22, ne_t22_vb22, Et22, Ft22, Ct22, At22⟩ := q22
      have N22 := Fr.app N4 N22q
      have hk22 := Nat.le_trans hk K22q.1
      have hs22 : ∀ x ∈ ([] : List Addr), Safe Z own_EL s.vm h0 x := sf0
      have C22 := C0.trans (CHr.keep K22q hs22 C0.1)
      have O22 := hO.keep K22q all0
      show own_Go p e below _ T22 (mkF m 46 #[iv p1, iv p2, iv p3, iv p4, iv p5, iv 2, iv c1, iv c2, iv c3, iv c4, .unset, .unset, .unset] [(.ref t22)])
      refine og_astore X22 hx #[iv p1, iv p2, iv p3, iv p4, iv p5, iv 2, iv c1, iv c2, iv c3, iv c4, rv t22, .unset, .unset] (hb hby at_46) rfl rfl ?_
      refine og_iload X22 hx (hb hby at_48) rfl ?_
      refine og_iload X22 hx (hb hby at_50) rfl ?_
      refine og_iload X22 hx (hb hby at_52) rfl ?_
      refine og_iload X22 hx (hb hby at_54) rfl ?_
      refine og_iload X22 hx (hb hby at_56) rfl ?_
      refine own_callS X22 hx hZ hown (own_hw hw 29 rfl) (own_hw hw 30 rfl) (own_hw hw 2 rfl) (own_hw hw 31 rfl) (by decide) (argsL := [(.int 2), (.int c1), (.int c2), (.int c3), (.int c4)]) (rest := []) (own_ls_2_0 l Z a0 hw c1 c2 c3 c4 T22.heap n0 m1 k0) rfl (by rw [hml]; rfl) (lenOf own_pd17966 rfl) rfl (hb hby at_58) (W := 0) (Nat.le_of_eq rfl) (by decide) ?_
      intro v23 T23 L23 X23 q23
      obtain ⟨rfl, N23q, e23⟩ := q23
      have N23 := Fr.app N22 N23q
      show own_Go p e below _ T23 (mkF m 61 #[iv p1, iv p2, iv p3, iv p4, iv p5, iv 2, iv c1, iv c2, iv c3, iv c4, rv t22, .unset, .unset] [(.int 0)])
      refine og_istore X23 hx #[iv p1, iv p2, iv p3, iv p4, iv p5, iv 2, iv c1, iv c2, iv c3, iv c4, rv t22, iv 0, .unset] (hb hby at_61) rfl ?_
      refine og_aload X23 hx (hb hby at_63) rfl rfl ?_
      refine own_callSH X23 hx hZ hown (own_hw hw 32 rfl) (own_hw hw 33 rfl) (own_hw hw 34 rfl) (own_hw hw 35 rfl) (by decide) (argsL := [(.ref t22)]) (rest := []) (own_po_2_0 l Z a0 hw z sf t22 vb22 _ _ c1 c2 T22.heap n0 O22 hG hc2 m1 k0 Et22 Ft22 Ct22 At22) (own_EW hw) C22.1 hS hk22 e23 (by rw [hml]; rfl) (lenOf own_pd11897 rfl) rfl (hb hby at_65) (W := 0) (Nat.le_of_eq rfl) (by decide) ?_
      intro v24 T24 L24 X24 hS24 hZ24 hown24 C24q q24
      obtain ⟨t24, vb24, k24, rfl, N24q, K24q, Et24, Ft24, Ct24, At24⟩ := q24
      have N24 := Fr.app N23 N24q
      have C24 := C22.trans C24q
      have E_t22_24 := Et22.keep K24q
      have F_t22_value_24 := Ft22.keep K24q nin0
      have F_t22_coder_24 := Ct22.keep K24q nin0
      have A_vb22_24 := At22.keep K24q nin0
      have O24 := O22.keep K24q all0
      show own_Go p e below _ T24 (mkF m 68 #[iv p1, iv p2, iv p3, iv p4, iv p5, iv 2, iv c1, iv c2, iv c3, iv c4, rv t22, iv 0, .unset] [(.ref t24)])
      refine og_astore X24 hx #[iv p1, iv p2, iv p3, iv p4, iv p5, iv 2, iv c1, iv c2, iv c3, iv c4, rv t22, iv 0, rv t24] (hb hby at_68) rfl rfl ?_
      refine og_aload X24 hx (hb hby at_70) rfl rfl ?_
      refine og_ifnonnullY X24 hx 77 (hb hby at_72) (by decide) (by decide) ?_
      show own_Go p e below _ T24 (mkF m 77 #[iv p1, iv p2, iv p3, iv p4, iv p5, iv 2, iv c1, iv c2, iv c3, iv c4, rv t22, iv 0, rv t24] [])
      refine og_iload X24 hx (hb hby at_77) rfl ?_
      refine og_ifY X24 hx 88 (hb hby at_79) (flt (by decide)).2.1 (by decide) (by decide) ?_
      refine og_aload X24 hx (hb hby at_88) rfl rfl ?_
      refine own_callV X24 hx hZ24 hown24 (own_hw hw 124 rfl) (own_hw hw 42 rfl) (notFace_of_selects (args := #[]) (mvT hZ24 (own_hw hw 44 rfl))) (own_hw hw 44 rfl) (own_hw hw 43 rfl) (own_hw hw 45 rfl) (own_hw hw 9 rfl) (by decide) (b := t24) (argsL := []) (rest := []) (own_slen l Z a0 hw z sf t24 vb24 _ _ _ _ T24.heap n0 O24 hG Et24 Ft24 Ct24 At24) rfl Et24 (by rw [hml]; rfl) (lenOf own_pd13941 rfl) rfl (hb hby at_90) (W := 0) (Nat.le_of_eq rfl) (by decide) ?_
      intro v25 T25 L25 X25 q25
      obtain ⟨rfl, N25q, e25⟩ := q25
      have N25 := Fr.app N24 N25q
      show own_Go p e below _ T25 (mkF m 93 #[iv p1, iv p2, iv p3, iv p4, iv p5, iv 2, iv c1, iv c2, iv c3, iv c4, rv t22, iv 0, rv t24] [(.int 0)])
      refine og_iload X25 hx (hb hby at_93) rfl ?_
      refine og_icY X25 hx 100 (hb hby at_95) (teq rfl).1 (by decide) (by decide) ?_
      refine og_iload X25 hx (hb hby at_100) rfl ?_
      refine og_iconst X25 hx (hb hby at_102) ?_
      refine og_icY X25 hx 117 (hb hby at_103) (tlt (by decide)).1 (by decide) (by decide) ?_
      refine og_iload X25 hx (hb hby at_117) rfl ?_
      refine og_iconst X25 hx (hb hby at_119) ?_
      refine og_icY X25 hx 134 (hb hby at_120) (tlt (by decide)).1 (by decide) (by decide) ?_
      refine og_iload X25 hx (hb hby at_134) rfl ?_
      refine og_iconst X25 hx (hb hby at_136) ?_
      refine og_icY X25 hx 151 (hb hby at_137) (tlt (by decide)).1 (by decide) (by decide) ?_
      refine og_iconst X25 hx (hb hby at_151) ?_
      refine og_goto X25 hx 156 (hb hby at_152) (by decide) (by decide) ?_
      exact own_retIH X25 hx hret hlk (hb hby at_156) rfl (by simp) hZ24 (own_EW hw) C24 e25 hS24 (Nat.le_refl _) (by decide) (by decide) (⟨rfl, N25⟩)
    · show own_Go p e below _ T4 (mkF m 35 #[iv p1, iv p2, iv p3, iv p4, iv p5, iv 2, iv c1, iv c2, iv c3, iv c4, .unset, .unset, .unset] [(.int 2)])
      refine og_iload X4 hx (hb hby at_35) rfl ?_
      refine og_iload X4 hx (hb hby at_37) rfl ?_
      refine og_iload X4 hx (hb hby at_39) rfl ?_
      refine og_iload X4 hx (hb hby at_41) rfl ?_
      refine own_callS X4 hx hZ hown (own_hw hw 4 rfl) (own_hw hw 5 rfl) (own_hw hw 2 rfl) (own_hw hw 6 rfl) (by decide) (argsL := [(.int 2), (.int c1), (.int c2), (.int c3), (.int c4)]) (rest := []) (own_mk2 l Z a0 hw c1 c2 c3 c4 z h0 n0 hO SC hz hc1 hc2 hc3 hc4) e4 (by rw [hml]; rfl) (lenOf own_pd95007 rfl) rfl (hb hby at_43) (W := 0) (Nat.le_of_eq rfl) (by decide) ?_
      intro v26 T26 L26 X26 q26
      obtain ⟨t26, vb26, k26, rfl, N26q, K26q, zt26, gt26, zb26, gb26, ne_t26_vb26, Et26, Ft26, Ct26, At26⟩ := q26
      have N26 := Fr.app N4 N26q
      have hk26 := Nat.le_trans hk K26q.1
      have hs26 : ∀ x ∈ ([] : List Addr), Safe Z own_EL s.vm h0 x := sf0
      have C26 := C0.trans (CHr.keep K26q hs26 C0.1)
      have O26 := hO.keep K26q all0
      show own_Go p e below _ T26 (mkF m 46 #[iv p1, iv p2, iv p3, iv p4, iv p5, iv 2, iv c1, iv c2, iv c3, iv c4, .unset, .unset, .unset] [(.ref t26)])
      refine og_astore X26 hx #[iv p1, iv p2, iv p3, iv p4, iv p5, iv 2, iv c1, iv c2, iv c3, iv c4, rv t26, .unset, .unset] (hb hby at_46) rfl rfl ?_
      refine og_iload X26 hx (hb hby at_48) rfl ?_
      refine og_iload X26 hx (hb hby at_50) rfl ?_
      refine og_iload X26 hx (hb hby at_52) rfl ?_
      refine og_iload X26 hx (hb hby at_54) rfl ?_
      refine og_iload X26 hx (hb hby at_56) rfl ?_
      refine own_callS X26 hx hZ hown (own_hw hw 29 rfl) (own_hw hw 30 rfl) (own_hw hw 2 rfl) (own_hw hw 31 rfl) (by decide) (argsL := [(.int 2), (.int c1), (.int c2), (.int c3), (.int c4)]) (rest := []) (own_ls_2_m1 l Z a0 hw c1 c2 c3 c4 T26.heap n0 m0 m1) rfl (by rw [hml]; rfl) (lenOf own_pd17966 rfl) rfl (hb hby at_58) (W := 0) (Nat.le_of_eq rfl) (by decide) ?_
      intro v27 T27 L27 X27 q27
      obtain ⟨rfl, N27q, e27⟩ := q27
      have N27 := Fr.app N26 N27q
      show own_Go p e below _ T27 (mkF m 61 #[iv p1, iv p2, iv p3, iv p4, iv p5, iv 2, iv c1, iv c2, iv c3, iv c4, rv t26, .unset, .unset] [(.int (-1))])
      refine og_istore X27 hx #[iv p1, iv p2, iv p3, iv p4, iv p5, iv 2, iv c1, iv c2, iv c3, iv c4, rv t26, iv (-1), .unset] (hb hby at_61) rfl ?_
      refine og_aload X27 hx (hb hby at_63) rfl rfl ?_
      refine own_callSH X27 hx hZ hown (own_hw hw 32 rfl) (own_hw hw 33 rfl) (own_hw hw 34 rfl) (own_hw hw 35 rfl) (by decide) (argsL := [(.ref t26)]) (rest := []) (own_po_2_m1 l Z a0 hw z sf t26 vb26 _ _ c1 c2 T26.heap n0 O26 hG hc1 m0 hc2 m1 Et26 Ft26 Ct26 At26) (own_EW hw) C26.1 hS hk26 e27 (by rw [hml]; rfl) (lenOf own_pd11897 rfl) rfl (hb hby at_65) (W := 0) (Nat.le_of_eq rfl) (by decide) ?_
      intro v28 T28 L28 X28 hS28 hZ28 hown28 C28q q28
      obtain ⟨t28, vb28, k28, rfl, N28q, K28q, Et28, Ft28, Ct28, At28⟩ := q28
      have N28 := Fr.app N27 N28q
      have C28 := C26.trans C28q
      have E_t26_28 := Et26.keep K28q
      have F_t26_value_28 := Ft26.keep K28q nin0
      have F_t26_coder_28 := Ct26.keep K28q nin0
      have A_vb26_28 := At26.keep K28q nin0
      have O28 := O26.keep K28q all0
      show own_Go p e below _ T28 (mkF m 68 #[iv p1, iv p2, iv p3, iv p4, iv p5, iv 2, iv c1, iv c2, iv c3, iv c4, rv t26, iv (-1), .unset] [(.ref t28)])
      refine og_astore X28 hx #[iv p1, iv p2, iv p3, iv p4, iv p5, iv 2, iv c1, iv c2, iv c3, iv c4, rv t26, iv (-1), rv t28] (hb hby at_68) rfl rfl ?_
      refine og_aload X28 hx (hb hby at_70) rfl rfl ?_
      refine og_ifnonnullY X28 hx 77 (hb hby at_72) (by decide) (by decide) ?_
      show own_Go p e below _ T28 (mkF m 77 #[iv p1, iv p2, iv p3, iv p4, iv p5, iv 2, iv c1, iv c2, iv c3, iv c4, rv t26, iv (-1), rv t28] [])
      refine og_iload X28 hx (hb hby at_77) rfl ?_
      refine og_ifN X28 hx (hb hby at_79) (tlt (by decide)).2.1 ?_
      refine og_aload X28 hx (hb hby at_82) rfl rfl ?_
      refine own_callV X28 hx hZ28 hown28 (own_hw hw 74 rfl) (own_hw hw 75 rfl) (notFace_of_selects (args := #[]) (mvT hZ28 (own_hw hw 77 rfl))) (own_hw hw 77 rfl) (own_hw hw 76 rfl) (own_hw hw 78 rfl) (own_hw hw 9 rfl) (by decide) (b := t28) (argsL := []) (rest := []) (own_ie0 l Z a0 hw t28 vb28 _ _ T28.heap n0 Ft28 At28) rfl Et28 (by rw [hml]; rfl) (lenOf own_pd61835 rfl) rfl (hb hby at_84) (W := 0) (Nat.le_of_eq rfl) (by decide) ?_
      intro v29 T29 L29 X29 q29
      obtain ⟨rfl, N29q, e29⟩ := q29
      have N29 := Fr.app N28 N29q
      show own_Go p e below _ T29 (mkF m 87 #[iv p1, iv p2, iv p3, iv p4, iv p5, iv 2, iv c1, iv c2, iv c3, iv c4, rv t26, iv (-1), rv t28] [(.int 1)])
      exact own_retIH X29 hx hret hlk (hb hby at_87) rfl (by simp) hZ28 (own_EW hw) C28 e29 hS28 (Nat.le_refl _) (by decide) (by decide) (⟨rfl, N29⟩)
  · rw [h]
    show own_Go p e below _ T4 (mkF m 33 #[iv p1, iv p2, iv p3, iv p4, iv p5, iv 3, iv c1, iv c2, iv c3, iv c4, .unset, .unset, .unset] [])
    refine og_iload X4 hx (hb hby at_33) rfl ?_
    show own_Go p e below _ T4 (mkF m 35 #[iv p1, iv p2, iv p3, iv p4, iv p5, iv 3, iv c1, iv c2, iv c3, iv c4, .unset, .unset, .unset] [(.int 3)])
    rcases own_last3 c1 c2 c3 with k2 | ⟨m2, k1⟩ | ⟨m2, m1, k0⟩ | ⟨m2, m1, m0, -⟩
    · show own_Go p e below _ T4 (mkF m 35 #[iv p1, iv p2, iv p3, iv p4, iv p5, iv 3, iv c1, iv c2, iv c3, iv c4, .unset, .unset, .unset] [(.int 3)])
      refine og_iload X4 hx (hb hby at_35) rfl ?_
      refine og_iload X4 hx (hb hby at_37) rfl ?_
      refine og_iload X4 hx (hb hby at_39) rfl ?_
      refine og_iload X4 hx (hb hby at_41) rfl ?_
      refine own_callS X4 hx hZ hown (own_hw hw 4 rfl) (own_hw hw 5 rfl) (own_hw hw 2 rfl) (own_hw hw 6 rfl) (by decide) (argsL := [(.int 3), (.int c1), (.int c2), (.int c3), (.int c4)]) (rest := []) (own_mk3 l Z a0 hw c1 c2 c3 c4 z h0 n0 hO SC hz hc1 hc2 hc3 hc4) e4 (by rw [hml]; rfl) (lenOf own_pd95007 rfl) rfl (hb hby at_43) (W := 0) (Nat.le_of_eq rfl) (by decide) ?_
      intro v30 T30 L30 X30 q30
      obtain ⟨t30, vb30, k30, rfl, N30q, K30q, zt30, gt30, zb30, gb30, ne_t30_vb30, Et30, Ft30, Ct30, At30⟩ := q30
      have N30 := Fr.app N4 N30q
      have hk30 := Nat.le_trans hk K30q.1
      have hs30 : ∀ x ∈ ([] : List Addr), Safe Z own_EL s.vm h0 x := sf0
      have C30 := C0.trans (CHr.keep K30q hs30 C0.1)
      have O30 := hO.keep K30q all0
      show own_Go p e below _ T30 (mkF m 46 #[iv p1, iv p2, iv p3, iv p4, iv p5, iv 3, iv c1, iv c2, iv c3, iv c4, .unset, .unset, .unset] [(.ref t30)])
      refine og_astore X30 hx #[iv p1, iv p2, iv p3, iv p4, iv p5, iv 3, iv c1, iv c2, iv c3, iv c4, rv t30, .unset, .unset] (hb hby at_46) rfl rfl ?_
      refine og_iload X30 hx (hb hby at_48) rfl ?_
      refine og_iload X30 hx (hb hby at_50) rfl ?_
      refine og_iload X30 hx (hb hby at_52) rfl ?_
      refine og_iload X30 hx (hb hby at_54) rfl ?_
      refine og_iload X30 hx (hb hby at_56) rfl ?_
      refine own_callS X30 hx hZ hown (own_hw hw 29 rfl) (own_hw hw 30 rfl) (own_hw hw 2 rfl) (own_hw hw 31 rfl) (by decide) (argsL := [(.int 3), (.int c1), (.int c2), (.int c3), (.int c4)]) (rest := []) (own_ls_3_2 l Z a0 hw c1 c2 c3 c4 T30.heap n0 k2) rfl (by rw [hml]; rfl) (lenOf own_pd17966 rfl) rfl (hb hby at_58) (W := 0) (Nat.le_of_eq rfl) (by decide) ?_
      intro v31 T31 L31 X31 q31
      obtain ⟨rfl, N31q, e31⟩ := q31
      have N31 := Fr.app N30 N31q
      show own_Go p e below _ T31 (mkF m 61 #[iv p1, iv p2, iv p3, iv p4, iv p5, iv 3, iv c1, iv c2, iv c3, iv c4, rv t30, .unset, .unset] [(.int 2)])
      refine og_istore X31 hx #[iv p1, iv p2, iv p3, iv p4, iv p5, iv 3, iv c1, iv c2, iv c3, iv c4, rv t30, iv 2, .unset] (hb hby at_61) rfl ?_
      refine og_aload X31 hx (hb hby at_63) rfl rfl ?_
      refine own_callS X31 hx hZ hown (own_hw hw 32 rfl) (own_hw hw 33 rfl) (own_hw hw 34 rfl) (own_hw hw 35 rfl) (by decide) (argsL := [(.ref t30)]) (rest := []) (own_po_3_2 l Z a0 hw z sf t30 vb30 _ _ c1 c2 c3 T30.heap n0 O30 hG k2 Et30 Ft30 Ct30 At30) e31 (by rw [hml]; rfl) (lenOf own_pd11897 rfl) rfl (hb hby at_65) (W := 0) (Nat.le_of_eq rfl) (by decide) ?_
      intro v32 T32 L32 X32 q32
      obtain ⟨t32, vb32, k32, rfl, N32q, K32q, zt32, gt32, zb32, gb32, ne_t32_vb32, Et32, Ft32, Ct32, At32⟩ := q32
      have N32 := Fr.app N31 N32q
      have ne_t30_t32 : t30 ≠ t32 := Nat.ne_of_lt (Nat.lt_of_lt_of_le Et30.lt zt32)
      have ne_vb30_t32 : vb30 ≠ t32 := Nat.ne_of_lt (Nat.lt_of_lt_of_le At30.lt zt32)
      have ne_t30_vb32 : t30 ≠ vb32 := Nat.ne_of_lt (Nat.lt_of_lt_of_le Et30.lt zb32)
      have ne_vb30_vb32 : vb30 ≠ vb32 := Nat.ne_of_lt (Nat.lt_of_lt_of_le At30.lt zb32)
      have hk32 := Nat.le_trans hk30 K32q.1
      have hs32 : ∀ x ∈ ([] : List Addr), Safe Z own_EL s.vm T30.heap x := sf0
      have C32 := C30.trans (CHr.keep K32q hs32 C30.1)
      have E_t30_32 := Et30.keep K32q
      have F_t30_value_32 := Ft30.keep K32q nin0
      have F_t30_coder_32 := Ct30.keep K32q nin0
      have A_vb30_32 := At30.keep K32q nin0
      have O32 := O30.keep K32q all0
      show own_Go p e below _ T32 (mkF m 68 #[iv p1, iv p2, iv p3, iv p4, iv p5, iv 3, iv c1, iv c2, iv c3, iv c4, rv t30, iv 2, .unset] [(.ref t32)])
      refine og_astore X32 hx #[iv p1, iv p2, iv p3, iv p4, iv p5, iv 3, iv c1, iv c2, iv c3, iv c4, rv t30, iv 2, rv t32] (hb hby at_68) rfl rfl ?_
      refine og_aload X32 hx (hb hby at_70) rfl rfl ?_
      refine og_ifnonnullY X32 hx 77 (hb hby at_72) (by decide) (by decide) ?_
      show own_Go p e below _ T32 (mkF m 77 #[iv p1, iv p2, iv p3, iv p4, iv p5, iv 3, iv c1, iv c2, iv c3, iv c4, rv t30, iv 2, rv t32] [])
      refine og_iload X32 hx (hb hby at_77) rfl ?_
      refine og_ifY X32 hx 88 (hb hby at_79) (flt (by decide)).2.1 (by decide) (by decide) ?_
      refine og_aload X32 hx (hb hby at_88) rfl rfl ?_
      refine own_callV X32 hx hZ hown (own_hw hw 124 rfl) (own_hw hw 42 rfl) (notFace_of_selects (args := #[]) (mvT hZ (own_hw hw 44 rfl))) (own_hw hw 44 rfl) (own_hw hw 43 rfl) (own_hw hw 45 rfl) (own_hw hw 9 rfl) (by decide) (b := t32) (argsL := []) (rest := []) (own_slen l Z a0 hw z sf t32 vb32 _ _ _ _ T32.heap n0 O32 hG Et32 Ft32 Ct32 At32) rfl Et32 (by rw [hml]; rfl) (lenOf own_pd13941 rfl) rfl (hb hby at_90) (W := 0) (Nat.le_of_eq rfl) (by decide) ?_
      intro v33 T33 L33 X33 q33
      obtain ⟨rfl, N33q, e33⟩ := q33
      have N33 := Fr.app N32 N33q
      show own_Go p e below _ T33 (mkF m 93 #[iv p1, iv p2, iv p3, iv p4, iv p5, iv 3, iv c1, iv c2, iv c3, iv c4, rv t30, iv 2, rv t32] [(.int 2)])
      refine og_iload X33 hx (hb hby at_93) rfl ?_
      refine og_icY X33 hx 100 (hb hby at_95) (teq rfl).1 (by decide) (by decide) ?_
      refine og_iload X33 hx (hb hby at_100) rfl ?_
      refine og_iconst X33 hx (hb hby at_102) ?_
      refine og_icN X33 hx (hb hby at_103) (flt (by decide)).1 ?_
      refine og_aload X33 hx (hb hby at_106) rfl rfl ?_
      refine og_iconst X33 hx (hb hby at_108) ?_
      refine own_callV X33 hx hZ hown (own_hw hw 125 rfl) (own_hw hw 126 rfl) (notFace_of_selects (args := #[]) (mvT hZ (own_hw hw 128 rfl))) (own_hw hw 128 rfl) (own_hw hw 127 rfl) (own_hw hw 129 rfl) (own_hw hw 9 rfl) (by decide) (b := t32) (argsL := [(.int 0)]) (rest := []) (own_ca_0_2 l Z a0 hw z sf t32 vb32 _ _ c1 (.int c2.toInt8.toInt32) T32.heap n0 O32 hG hc1 Et32 Ft32 Ct32 At32) e33 Et32 (by rw [hml]; rfl) (lenOf own_pd47939 rfl) rfl (hb hby at_109) (W := 0) (Nat.le_of_eq rfl) (by decide) ?_
      intro v34 T34 L34 X34 q34
      obtain ⟨rfl, N34q, e34⟩ := q34
      have N34 := Fr.app N33 N34q
      show own_Go p e below _ T34 (mkF m 112 #[iv p1, iv p2, iv p3, iv p4, iv p5, iv 3, iv c1, iv c2, iv c3, iv c4, rv t30, iv 2, rv t32] [(.int c1)])
      refine og_iload X34 hx (hb hby at_112) rfl ?_
      refine og_icN X34 hx (hb hby at_114) (teq rfl).2 ?_
      refine og_iload X34 hx (hb hby at_117) rfl ?_
      refine og_iconst X34 hx (hb hby at_119) ?_
      refine og_icN X34 hx (hb hby at_120) (flt (by decide)).1 ?_
      refine og_aload X34 hx (hb hby at_123) rfl rfl ?_
      refine og_iconst X34 hx (hb hby at_125) ?_
      refine own_callV X34 hx hZ hown (own_hw hw 125 rfl) (own_hw hw 126 rfl) (notFace_of_selects (args := #[]) (mvT hZ (own_hw hw 128 rfl))) (own_hw hw 128 rfl) (own_hw hw 127 rfl) (own_hw hw 129 rfl) (own_hw hw 9 rfl) (by decide) (b := t32) (argsL := [(.int 1)]) (rest := []) (own_ca_1_2 l Z a0 hw z sf t32 vb32 _ _ c2 (.int c1.toInt8.toInt32) T32.heap n0 O32 hG hc2 Et32 Ft32 Ct32 At32) e34 Et32 (by rw [hml]; rfl) (lenOf own_pd47939 rfl) rfl (hb hby at_126) (W := 0) (Nat.le_of_eq rfl) (by decide) ?_
      intro v35 T35 L35 X35 q35
      obtain ⟨rfl, N35q, e35⟩ := q35
      have N35 := Fr.app N34 N35q
      show own_Go p e below _ T35 (mkF m 129 #[iv p1, iv p2, iv p3, iv p4, iv p5, iv 3, iv c1, iv c2, iv c3, iv c4, rv t30, iv 2, rv t32] [(.int c2)])
      refine og_iload X35 hx (hb hby at_129) rfl ?_
      refine og_icN X35 hx (hb hby at_131) (teq rfl).2 ?_
      refine og_iload X35 hx (hb hby at_134) rfl ?_
      refine og_iconst X35 hx (hb hby at_136) ?_
      refine og_icY X35 hx 151 (hb hby at_137) (tlt (by decide)).1 (by decide) (by decide) ?_
      refine og_iconst X35 hx (hb hby at_151) ?_
      refine og_goto X35 hx 156 (hb hby at_152) (by decide) (by decide) ?_
      exact own_retIH X35 hx hret hlk (hb hby at_156) rfl (by simp) hZ (own_EW hw) C32 e35 hS hk32 (by decide) (by decide) (⟨rfl, N35⟩)
    · show own_Go p e below _ T4 (mkF m 35 #[iv p1, iv p2, iv p3, iv p4, iv p5, iv 3, iv c1, iv c2, iv c3, iv c4, .unset, .unset, .unset] [(.int 3)])
      refine og_iload X4 hx (hb hby at_35) rfl ?_
      refine og_iload X4 hx (hb hby at_37) rfl ?_
      refine og_iload X4 hx (hb hby at_39) rfl ?_
      refine og_iload X4 hx (hb hby at_41) rfl ?_
      refine own_callS X4 hx hZ hown (own_hw hw 4 rfl) (own_hw hw 5 rfl) (own_hw hw 2 rfl) (own_hw hw 6 rfl) (by decide) (argsL := [(.int 3), (.int c1), (.int c2), (.int c3), (.int c4)]) (rest := []) (own_mk3 l Z a0 hw c1 c2 c3 c4 z h0 n0 hO SC hz hc1 hc2 hc3 hc4) e4 (by rw [hml]; rfl) (lenOf own_pd95007 rfl) rfl (hb hby at_43) (W := 0) (Nat.le_of_eq rfl) (by decide) ?_
      intro v36 T36 L36 X36 q36
      obtain ⟨t36, vb36, k36, rfl, N36q, K36q, zt36, gt36, zb36, gb36, ne_t36_vb36, Et36, Ft36, Ct36, At36⟩ := q36
      have N36 := Fr.app N4 N36q
      have hk36 := Nat.le_trans hk K36q.1
      have hs36 : ∀ x ∈ ([] : List Addr), Safe Z own_EL s.vm h0 x := sf0
      have C36 := C0.trans (CHr.keep K36q hs36 C0.1)
      have O36 := hO.keep K36q all0
      show own_Go p e below _ T36 (mkF m 46 #[iv p1, iv p2, iv p3, iv p4, iv p5, iv 3, iv c1, iv c2, iv c3, iv c4, .unset, .unset, .unset] [(.ref t36)])
      refine og_astore X36 hx #[iv p1, iv p2, iv p3, iv p4, iv p5, iv 3, iv c1, iv c2, iv c3, iv c4, rv t36, .unset, .unset] (hb hby at_46) rfl rfl ?_
      refine og_iload X36 hx (hb hby at_48) rfl ?_
      refine og_iload X36 hx (hb hby at_50) rfl ?_
      refine og_iload X36 hx (hb hby at_52) rfl ?_
      refine og_iload X36 hx (hb hby at_54) rfl ?_
      refine og_iload X36 hx (hb hby at_56) rfl ?_
      refine own_callS X36 hx hZ hown (own_hw hw 29 rfl) (own_hw hw 30 rfl) (own_hw hw 2 rfl) (own_hw hw 31 rfl) (by decide) (argsL := [(.int 3), (.int c1), (.int c2), (.int c3), (.int c4)]) (rest := []) (own_ls_3_1 l Z a0 hw c1 c2 c3 c4 T36.heap n0 m2 k1) rfl (by rw [hml]; rfl) (lenOf own_pd17966 rfl) rfl (hb hby at_58) (W := 0) (Nat.le_of_eq rfl) (by decide) ?_
      intro v37 T37 L37 X37 q37
      obtain ⟨rfl, N37q, e37⟩ := q37
      have N37 := Fr.app N36 N37q
      show own_Go p e below _ T37 (mkF m 61 #[iv p1, iv p2, iv p3, iv p4, iv p5, iv 3, iv c1, iv c2, iv c3, iv c4, rv t36, .unset, .unset] [(.int 1)])
      refine og_istore X37 hx #[iv p1, iv p2, iv p3, iv p4, iv p5, iv 3, iv c1, iv c2, iv c3, iv c4, rv t36, iv 1, .unset] (hb hby at_61) rfl ?_
      refine og_aload X37 hx (hb hby at_63) rfl rfl ?_
      refine own_callS X37 hx hZ hown (own_hw hw 32 rfl) (own_hw hw 33 rfl) (own_hw hw 34 rfl) (own_hw hw 35 rfl) (by decide) (argsL := [(.ref t36)]) (rest := []) (own_po_3_1 l Z a0 hw z sf t36 vb36 _ _ c1 c2 c3 T36.heap n0 O36 hG hc3 m2 k1 Et36 Ft36 Ct36 At36) e37 (by rw [hml]; rfl) (lenOf own_pd11897 rfl) rfl (hb hby at_65) (W := 0) (Nat.le_of_eq rfl) (by decide) ?_
      intro v38 T38 L38 X38 q38
      obtain ⟨t38, vb38, k38, rfl, N38q, K38q, zt38, gt38, zb38, gb38, ne_t38_vb38, Et38, Ft38, Ct38, At38⟩ := q38
      have N38 := Fr.app N37 N38q
      have ne_t36_t38 : t36 ≠ t38 := Nat.ne_of_lt (Nat.lt_of_lt_of_le Et36.lt zt38)
      have ne_vb36_t38 : vb36 ≠ t38 := Nat.ne_of_lt (Nat.lt_of_lt_of_le At36.lt zt38)
      have ne_t36_vb38 : t36 ≠ vb38 := Nat.ne_of_lt (Nat.lt_of_lt_of_le Et36.lt zb38)
      have ne_vb36_vb38 : vb36 ≠ vb38 := Nat.ne_of_lt (Nat.lt_of_lt_of_le At36.lt zb38)
      have hk38 := Nat.le_trans hk36 K38q.1
      have hs38 : ∀ x ∈ ([] : List Addr), Safe Z own_EL s.vm T36.heap x := sf0
      have C38 := C36.trans (CHr.keep K38q hs38 C36.1)
      have E_t36_38 := Et36.keep K38q
      have F_t36_value_38 := Ft36.keep K38q nin0
      have F_t36_coder_38 := Ct36.keep K38q nin0
      have A_vb36_38 := At36.keep K38q nin0
      have O38 := O36.keep K38q all0
      show own_Go p e below _ T38 (mkF m 68 #[iv p1, iv p2, iv p3, iv p4, iv p5, iv 3, iv c1, iv c2, iv c3, iv c4, rv t36, iv 1, .unset] [(.ref t38)])
      refine og_astore X38 hx #[iv p1, iv p2, iv p3, iv p4, iv p5, iv 3, iv c1, iv c2, iv c3, iv c4, rv t36, iv 1, rv t38] (hb hby at_68) rfl rfl ?_
      refine og_aload X38 hx (hb hby at_70) rfl rfl ?_
      refine og_ifnonnullY X38 hx 77 (hb hby at_72) (by decide) (by decide) ?_
      show own_Go p e below _ T38 (mkF m 77 #[iv p1, iv p2, iv p3, iv p4, iv p5, iv 3, iv c1, iv c2, iv c3, iv c4, rv t36, iv 1, rv t38] [])
      refine og_iload X38 hx (hb hby at_77) rfl ?_
      refine og_ifY X38 hx 88 (hb hby at_79) (flt (by decide)).2.1 (by decide) (by decide) ?_
      refine og_aload X38 hx (hb hby at_88) rfl rfl ?_
      refine own_callV X38 hx hZ hown (own_hw hw 124 rfl) (own_hw hw 42 rfl) (notFace_of_selects (args := #[]) (mvT hZ (own_hw hw 44 rfl))) (own_hw hw 44 rfl) (own_hw hw 43 rfl) (own_hw hw 45 rfl) (own_hw hw 9 rfl) (by decide) (b := t38) (argsL := []) (rest := []) (own_slen l Z a0 hw z sf t38 vb38 _ _ _ _ T38.heap n0 O38 hG Et38 Ft38 Ct38 At38) rfl Et38 (by rw [hml]; rfl) (lenOf own_pd13941 rfl) rfl (hb hby at_90) (W := 0) (Nat.le_of_eq rfl) (by decide) ?_
      intro v39 T39 L39 X39 q39
      obtain ⟨rfl, N39q, e39⟩ := q39
      have N39 := Fr.app N38 N39q
      show own_Go p e below _ T39 (mkF m 93 #[iv p1, iv p2, iv p3, iv p4, iv p5, iv 3, iv c1, iv c2, iv c3, iv c4, rv t36, iv 1, rv t38] [(.int 1)])
      refine og_iload X39 hx (hb hby at_93) rfl ?_
      refine og_icY X39 hx 100 (hb hby at_95) (teq rfl).1 (by decide) (by decide) ?_
      refine og_iload X39 hx (hb hby at_100) rfl ?_
      refine og_iconst X39 hx (hb hby at_102) ?_
      refine og_icN X39 hx (hb hby at_103) (flt (by decide)).1 ?_
      refine og_aload X39 hx (hb hby at_106) rfl rfl ?_
      refine og_iconst X39 hx (hb hby at_108) ?_
      refine own_callV X39 hx hZ hown (own_hw hw 125 rfl) (own_hw hw 126 rfl) (notFace_of_selects (args := #[]) (mvT hZ (own_hw hw 128 rfl))) (own_hw hw 128 rfl) (own_hw hw 127 rfl) (own_hw hw 129 rfl) (own_hw hw 9 rfl) (by decide) (b := t38) (argsL := [(.int 0)]) (rest := []) (own_ca_0_1 l Z a0 hw z sf t38 vb38 _ _ c1 T38.heap n0 O38 hG hc1 Et38 Ft38 Ct38 At38) e39 Et38 (by rw [hml]; rfl) (lenOf own_pd47939 rfl) rfl (hb hby at_109) (W := 0) (Nat.le_of_eq rfl) (by decide) ?_
      intro v40 T40 L40 X40 q40
      obtain ⟨rfl, N40q, e40⟩ := q40
      have N40 := Fr.app N39 N40q
      show own_Go p e below _ T40 (mkF m 112 #[iv p1, iv p2, iv p3, iv p4, iv p5, iv 3, iv c1, iv c2, iv c3, iv c4, rv t36, iv 1, rv t38] [(.int c1)])
      refine og_iload X40 hx (hb hby at_112) rfl ?_
      refine og_icN X40 hx (hb hby at_114) (teq rfl).2 ?_
      refine og_iload X40 hx (hb hby at_117) rfl ?_
      refine og_iconst X40 hx (hb hby at_119) ?_
      refine og_icY X40 hx 134 (hb hby at_120) (tlt (by decide)).1 (by decide) (by decide) ?_
      refine og_iload X40 hx (hb hby at_134) rfl ?_
      refine og_iconst X40 hx (hb hby at_136) ?_
      refine og_icY X40 hx 151 (hb hby at_137) (tlt (by decide)).1 (by decide) (by decide) ?_
      refine og_iconst X40 hx (hb hby at_151) ?_
      refine og_goto X40 hx 156 (hb hby at_152) (by decide) (by decide) ?_
      exact own_retIH X40 hx hret hlk (hb hby at_156) rfl (by simp) hZ (own_EW hw) C38 e40 hS hk38 (by decide) (by decide) (⟨rfl, N40⟩)
    · show own_Go p e below _ T4 (mkF m 35 #[iv p1, iv p2, iv p3, iv p4, iv p5, iv 3, iv c1, iv c2, iv c3, iv c4, .unset, .unset, .unset] [(.int 3)])
      refine og_iload X4 hx (hb hby at_35) rfl ?_
      refine og_iload X4 hx (hb hby at_37) rfl ?_
      refine og_iload X4 hx (hb hby at_39) rfl ?_
      refine og_iload X4 hx (hb hby at_41) rfl ?_
      refine own_callS X4 hx hZ hown (own_hw hw 4 rfl) (own_hw hw 5 rfl) (own_hw hw 2 rfl) (own_hw hw 6 rfl) (by decide) (argsL := [(.int 3), (.int c1), (.int c2), (.int c3), (.int c4)]) (rest := []) (own_mk3 l Z a0 hw c1 c2 c3 c4 z h0 n0 hO SC hz hc1 hc2 hc3 hc4) e4 (by rw [hml]; rfl) (lenOf own_pd95007 rfl) rfl (hb hby at_43) (W := 0) (Nat.le_of_eq rfl) (by decide) ?_
      intro v41 T41 L41 X41 q41
      obtain ⟨t41, vb41, k41, rfl, N41q, K41q, zt41, gt41, zb41, gb41, ne_t41_vb41, Et41, Ft41, Ct41, At41⟩ := q41
      have N41 := Fr.app N4 N41q
      have hk41 := Nat.le_trans hk K41q.1
      have hs41 : ∀ x ∈ ([] : List Addr), Safe Z own_EL s.vm h0 x := sf0
      have C41 := C0.trans (CHr.keep K41q hs41 C0.1)
      have O41 := hO.keep K41q all0
      show own_Go p e below _ T41 (mkF m 46 #[iv p1, iv p2, iv p3, iv p4, iv p5, iv 3, iv c1, iv c2, iv c3, iv c4, .unset, .unset, .unset] [(.ref t41)])
      refine og_astore X41 hx #[iv p1, iv p2, iv p3, iv p4, iv p5, iv 3, iv c1, iv c2, iv c3, iv c4, rv t41, .unset, .unset] (hb hby at_46) rfl rfl ?_
      refine og_iload X41 hx (hb hby at_48) rfl ?_
      refine og_iload X41 hx (hb hby at_50) rfl ?_
      refine og_iload X41 hx (hb hby at_52) rfl ?_
      refine og_iload X41 hx (hb hby at_54) rfl ?_
      refine og_iload X41 hx (hb hby at_56) rfl ?_
      refine own_callS X41 hx hZ hown (own_hw hw 29 rfl) (own_hw hw 30 rfl) (own_hw hw 2 rfl) (own_hw hw 31 rfl) (by decide) (argsL := [(.int 3), (.int c1), (.int c2), (.int c3), (.int c4)]) (rest := []) (own_ls_3_0 l Z a0 hw c1 c2 c3 c4 T41.heap n0 m1 m2 k0) rfl (by rw [hml]; rfl) (lenOf own_pd17966 rfl) rfl (hb hby at_58) (W := 0) (Nat.le_of_eq rfl) (by decide) ?_
      intro v42 T42 L42 X42 q42
      obtain ⟨rfl, N42q, e42⟩ := q42
      have N42 := Fr.app N41 N42q
      show own_Go p e below _ T42 (mkF m 61 #[iv p1, iv p2, iv p3, iv p4, iv p5, iv 3, iv c1, iv c2, iv c3, iv c4, rv t41, .unset, .unset] [(.int 0)])
      refine og_istore X42 hx #[iv p1, iv p2, iv p3, iv p4, iv p5, iv 3, iv c1, iv c2, iv c3, iv c4, rv t41, iv 0, .unset] (hb hby at_61) rfl ?_
      refine og_aload X42 hx (hb hby at_63) rfl rfl ?_
      refine own_callSH X42 hx hZ hown (own_hw hw 32 rfl) (own_hw hw 33 rfl) (own_hw hw 34 rfl) (own_hw hw 35 rfl) (by decide) (argsL := [(.ref t41)]) (rest := []) (own_po_3_0 l Z a0 hw z sf t41 vb41 _ _ c1 c2 c3 T41.heap n0 O41 hG hc2 m1 hc3 m2 k0 Et41 Ft41 Ct41 At41) (own_EW hw) C41.1 hS hk41 e42 (by rw [hml]; rfl) (lenOf own_pd11897 rfl) rfl (hb hby at_65) (W := 0) (Nat.le_of_eq rfl) (by decide) ?_
      intro v43 T43 L43 X43 hS43 hZ43 hown43 C43q q43
      obtain ⟨t43, vb43, k43, rfl, N43q, K43q, Et43, Ft43, Ct43, At43⟩ := q43
      have N43 := Fr.app N42 N43q
      have C43 := C41.trans C43q
      have E_t41_43 := Et41.keep K43q
      have F_t41_value_43 := Ft41.keep K43q nin0
      have F_t41_coder_43 := Ct41.keep K43q nin0
      have A_vb41_43 := At41.keep K43q nin0
      have O43 := O41.keep K43q all0
      show own_Go p e below _ T43 (mkF m 68 #[iv p1, iv p2, iv p3, iv p4, iv p5, iv 3, iv c1, iv c2, iv c3, iv c4, rv t41, iv 0, .unset] [(.ref t43)])
      refine og_astore X43 hx #[iv p1, iv p2, iv p3, iv p4, iv p5, iv 3, iv c1, iv c2, iv c3, iv c4, rv t41, iv 0, rv t43] (hb hby at_68) rfl rfl ?_
      refine og_aload X43 hx (hb hby at_70) rfl rfl ?_
      refine og_ifnonnullY X43 hx 77 (hb hby at_72) (by decide) (by decide) ?_
      show own_Go p e below _ T43 (mkF m 77 #[iv p1, iv p2, iv p3, iv p4, iv p5, iv 3, iv c1, iv c2, iv c3, iv c4, rv t41, iv 0, rv t43] [])
      refine og_iload X43 hx (hb hby at_77) rfl ?_
      refine og_ifY X43 hx 88 (hb hby at_79) (flt (by decide)).2.1 (by decide) (by decide) ?_
      refine og_aload X43 hx (hb hby at_88) rfl rfl ?_
      refine own_callV X43 hx hZ43 hown43 (own_hw hw 124 rfl) (own_hw hw 42 rfl) (notFace_of_selects (args := #[]) (mvT hZ43 (own_hw hw 44 rfl))) (own_hw hw 44 rfl) (own_hw hw 43 rfl) (own_hw hw 45 rfl) (own_hw hw 9 rfl) (by decide) (b := t43) (argsL := []) (rest := []) (own_slen l Z a0 hw z sf t43 vb43 _ _ _ _ T43.heap n0 O43 hG Et43 Ft43 Ct43 At43) rfl Et43 (by rw [hml]; rfl) (lenOf own_pd13941 rfl) rfl (hb hby at_90) (W := 0) (Nat.le_of_eq rfl) (by decide) ?_
      intro v44 T44 L44 X44 q44
      obtain ⟨rfl, N44q, e44⟩ := q44
      have N44 := Fr.app N43 N44q
      show own_Go p e below _ T44 (mkF m 93 #[iv p1, iv p2, iv p3, iv p4, iv p5, iv 3, iv c1, iv c2, iv c3, iv c4, rv t41, iv 0, rv t43] [(.int 0)])
      refine og_iload X44 hx (hb hby at_93) rfl ?_
      refine og_icY X44 hx 100 (hb hby at_95) (teq rfl).1 (by decide) (by decide) ?_
      refine og_iload X44 hx (hb hby at_100) rfl ?_
      refine og_iconst X44 hx (hb hby at_102) ?_
      refine og_icY X44 hx 117 (hb hby at_103) (tlt (by decide)).1 (by decide) (by decide) ?_
      refine og_iload X44 hx (hb hby at_117) rfl ?_
      refine og_iconst X44 hx (hb hby at_119) ?_
      refine og_icY X44 hx 134 (hb hby at_120) (tlt (by decide)).1 (by decide) (by decide) ?_
      refine og_iload X44 hx (hb hby at_134) rfl ?_
      refine og_iconst X44 hx (hb hby at_136) ?_
      refine og_icY X44 hx 151 (hb hby at_137) (tlt (by decide)).1 (by decide) (by decide) ?_
      refine og_iconst X44 hx (hb hby at_151) ?_
      refine og_goto X44 hx 156 (hb hby at_152) (by decide) (by decide) ?_
      exact own_retIH X44 hx hret hlk (hb hby at_156) rfl (by simp) hZ43 (own_EW hw) C43 e44 hS43 (Nat.le_refl _) (by decide) (by decide) (⟨rfl, N44⟩)
    · show own_Go p e below _ T4 (mkF m 35 #[iv p1, iv p2, iv p3, iv p4, iv p5, iv 3, iv c1, iv c2, iv c3, iv c4, .unset, .unset, .unset] [(.int 3)])
      refine og_iload X4 hx (hb hby at_35) rfl ?_
      refine og_iload X4 hx (hb hby at_37) rfl ?_
      refine og_iload X4 hx (hb hby at_39) rfl ?_
      refine og_iload X4 hx (hb hby at_41) rfl ?_
      refine own_callS X4 hx hZ hown (own_hw hw 4 rfl) (own_hw hw 5 rfl) (own_hw hw 2 rfl) (own_hw hw 6 rfl) (by decide) (argsL := [(.int 3), (.int c1), (.int c2), (.int c3), (.int c4)]) (rest := []) (own_mk3 l Z a0 hw c1 c2 c3 c4 z h0 n0 hO SC hz hc1 hc2 hc3 hc4) e4 (by rw [hml]; rfl) (lenOf own_pd95007 rfl) rfl (hb hby at_43) (W := 0) (Nat.le_of_eq rfl) (by decide) ?_
      intro v45 T45 L45 X45 q45
      obtain ⟨t45, vb45, k45, rfl, N45q, K45q, zt45, gt45, zb45, gb45, ne_t45_vb45, Et45, Ft45, Ct45, At45⟩ := q45
      have N45 := Fr.app N4 N45q
      have hk45 := Nat.le_trans hk K45q.1
      have hs45 : ∀ x ∈ ([] : List Addr), Safe Z own_EL s.vm h0 x := sf0
      have C45 := C0.trans (CHr.keep K45q hs45 C0.1)
      have O45 := hO.keep K45q all0
      show own_Go p e below _ T45 (mkF m 46 #[iv p1, iv p2, iv p3, iv p4, iv p5, iv 3, iv c1, iv c2, iv c3, iv c4, .unset, .unset, .unset] [(.ref t45)])
      refine og_astore X45 hx #[iv p1, iv p2, iv p3, iv p4, iv p5, iv 3, iv c1, iv c2, iv c3, iv c4, rv t45, .unset, .unset] (hb hby at_46) rfl rfl ?_
      refine og_iload X45 hx (hb hby at_48) rfl ?_
      refine og_iload X45 hx (hb hby at_50) rfl ?_
      refine og_iload X45 hx (hb hby at_52) rfl ?_
      refine og_iload X45 hx (hb hby at_54) rfl ?_
      refine og_iload X45 hx (hb hby at_56) rfl ?_
      refine own_callS X45 hx hZ hown (own_hw hw 29 rfl) (own_hw hw 30 rfl) (own_hw hw 2 rfl) (own_hw hw 31 rfl) (by decide) (argsL := [(.int 3), (.int c1), (.int c2), (.int c3), (.int c4)]) (rest := []) (own_ls_3_m1 l Z a0 hw c1 c2 c3 c4 T45.heap n0 m0 m1 m2) rfl (by rw [hml]; rfl) (lenOf own_pd17966 rfl) rfl (hb hby at_58) (W := 0) (Nat.le_of_eq rfl) (by decide) ?_
      intro v46 T46 L46 X46 q46
      obtain ⟨rfl, N46q, e46⟩ := q46
      have N46 := Fr.app N45 N46q
      show own_Go p e below _ T46 (mkF m 61 #[iv p1, iv p2, iv p3, iv p4, iv p5, iv 3, iv c1, iv c2, iv c3, iv c4, rv t45, .unset, .unset] [(.int (-1))])
      refine og_istore X46 hx #[iv p1, iv p2, iv p3, iv p4, iv p5, iv 3, iv c1, iv c2, iv c3, iv c4, rv t45, iv (-1), .unset] (hb hby at_61) rfl ?_
      refine og_aload X46 hx (hb hby at_63) rfl rfl ?_
      refine own_callSH X46 hx hZ hown (own_hw hw 32 rfl) (own_hw hw 33 rfl) (own_hw hw 34 rfl) (own_hw hw 35 rfl) (by decide) (argsL := [(.ref t45)]) (rest := []) (own_po_3_m1 l Z a0 hw z sf t45 vb45 _ _ c1 c2 c3 T45.heap n0 O45 hG hc1 m0 hc2 m1 hc3 m2 Et45 Ft45 Ct45 At45) (own_EW hw) C45.1 hS hk45 e46 (by rw [hml]; rfl) (lenOf own_pd11897 rfl) rfl (hb hby at_65) (W := 0) (Nat.le_of_eq rfl) (by decide) ?_
      intro v47 T47 L47 X47 hS47 hZ47 hown47 C47q q47
      obtain ⟨t47, vb47, k47, rfl, N47q, K47q, Et47, Ft47, Ct47, At47⟩ := q47
      have N47 := Fr.app N46 N47q
      have C47 := C45.trans C47q
      have E_t45_47 := Et45.keep K47q
      have F_t45_value_47 := Ft45.keep K47q nin0
      have F_t45_coder_47 := Ct45.keep K47q nin0
      have A_vb45_47 := At45.keep K47q nin0
      have O47 := O45.keep K47q all0
      show own_Go p e below _ T47 (mkF m 68 #[iv p1, iv p2, iv p3, iv p4, iv p5, iv 3, iv c1, iv c2, iv c3, iv c4, rv t45, iv (-1), .unset] [(.ref t47)])
      refine og_astore X47 hx #[iv p1, iv p2, iv p3, iv p4, iv p5, iv 3, iv c1, iv c2, iv c3, iv c4, rv t45, iv (-1), rv t47] (hb hby at_68) rfl rfl ?_
      refine og_aload X47 hx (hb hby at_70) rfl rfl ?_
      refine og_ifnonnullY X47 hx 77 (hb hby at_72) (by decide) (by decide) ?_
      show own_Go p e below _ T47 (mkF m 77 #[iv p1, iv p2, iv p3, iv p4, iv p5, iv 3, iv c1, iv c2, iv c3, iv c4, rv t45, iv (-1), rv t47] [])
      refine og_iload X47 hx (hb hby at_77) rfl ?_
      refine og_ifN X47 hx (hb hby at_79) (tlt (by decide)).2.1 ?_
      refine og_aload X47 hx (hb hby at_82) rfl rfl ?_
      refine own_callV X47 hx hZ47 hown47 (own_hw hw 74 rfl) (own_hw hw 75 rfl) (notFace_of_selects (args := #[]) (mvT hZ47 (own_hw hw 77 rfl))) (own_hw hw 77 rfl) (own_hw hw 76 rfl) (own_hw hw 78 rfl) (own_hw hw 9 rfl) (by decide) (b := t47) (argsL := []) (rest := []) (own_ie0 l Z a0 hw t47 vb47 _ _ T47.heap n0 Ft47 At47) rfl Et47 (by rw [hml]; rfl) (lenOf own_pd61835 rfl) rfl (hb hby at_84) (W := 0) (Nat.le_of_eq rfl) (by decide) ?_
      intro v48 T48 L48 X48 q48
      obtain ⟨rfl, N48q, e48⟩ := q48
      have N48 := Fr.app N47 N48q
      show own_Go p e below _ T48 (mkF m 87 #[iv p1, iv p2, iv p3, iv p4, iv p5, iv 3, iv c1, iv c2, iv c3, iv c4, rv t45, iv (-1), rv t47] [(.int 1)])
      exact own_retIH X48 hx hret hlk (hb hby at_87) rfl (by simp) hZ47 (own_EW hw) C47 e48 hS47 (Nat.le_refl _) (by decide) (by decide) (⟨rfl, N48⟩)
  · rw [h]
    show own_Go p e below _ T4 (mkF m 33 #[iv p1, iv p2, iv p3, iv p4, iv p5, iv 4, iv c1, iv c2, iv c3, iv c4, .unset, .unset, .unset] [])
    refine og_iload X4 hx (hb hby at_33) rfl ?_
    show own_Go p e below _ T4 (mkF m 35 #[iv p1, iv p2, iv p3, iv p4, iv p5, iv 4, iv c1, iv c2, iv c3, iv c4, .unset, .unset, .unset] [(.int 4)])
    rcases own_last4 c1 c2 c3 c4 with k3 | ⟨m3, k2⟩ | ⟨m3, m2, k1⟩ | ⟨m3, m2, m1, k0⟩ | ⟨m3, m2, m1, m0, -⟩
    · show own_Go p e below _ T4 (mkF m 35 #[iv p1, iv p2, iv p3, iv p4, iv p5, iv 4, iv c1, iv c2, iv c3, iv c4, .unset, .unset, .unset] [(.int 4)])
      refine og_iload X4 hx (hb hby at_35) rfl ?_
      refine og_iload X4 hx (hb hby at_37) rfl ?_
      refine og_iload X4 hx (hb hby at_39) rfl ?_
      refine og_iload X4 hx (hb hby at_41) rfl ?_
      refine own_callS X4 hx hZ hown (own_hw hw 4 rfl) (own_hw hw 5 rfl) (own_hw hw 2 rfl) (own_hw hw 6 rfl) (by decide) (argsL := [(.int 4), (.int c1), (.int c2), (.int c3), (.int c4)]) (rest := []) (own_mk4 l Z a0 hw c1 c2 c3 c4 z h0 n0 hO SC hz hc1 hc2 hc3 hc4) e4 (by rw [hml]; rfl) (lenOf own_pd95007 rfl) rfl (hb hby at_43) (W := 0) (Nat.le_of_eq rfl) (by decide) ?_
      intro v49 T49 L49 X49 q49
      obtain ⟨t49, vb49, k49, rfl, N49q, K49q, zt49, gt49, zb49, gb49, ne_t49_vb49, Et49, Ft49, Ct49, At49⟩ := q49
      have N49 := Fr.app N4 N49q
      have hk49 := Nat.le_trans hk K49q.1
      have hs49 : ∀ x ∈ ([] : List Addr), Safe Z own_EL s.vm h0 x := sf0
      have C49 := C0.trans (CHr.keep K49q hs49 C0.1)
      have O49 := hO.keep K49q all0
      show own_Go p e below _ T49 (mkF m 46 #[iv p1, iv p2, iv p3, iv p4, iv p5, iv 4, iv c1, iv c2, iv c3, iv c4, .unset, .unset, .unset] [(.ref t49)])
      refine og_astore X49 hx #[iv p1, iv p2, iv p3, iv p4, iv p5, iv 4, iv c1, iv c2, iv c3, iv c4, rv t49, .unset, .unset] (hb hby at_46) rfl rfl ?_
      refine og_iload X49 hx (hb hby at_48) rfl ?_
      refine og_iload X49 hx (hb hby at_50) rfl ?_
      refine og_iload X49 hx (hb hby at_52) rfl ?_
      refine og_iload X49 hx (hb hby at_54) rfl ?_
      refine og_iload X49 hx (hb hby at_56) rfl ?_
      refine own_callS X49 hx hZ hown (own_hw hw 29 rfl) (own_hw hw 30 rfl) (own_hw hw 2 rfl) (own_hw hw 31 rfl) (by decide) (argsL := [(.int 4), (.int c1), (.int c2), (.int c3), (.int c4)]) (rest := []) (own_ls_4_3 l Z a0 hw c1 c2 c3 c4 T49.heap n0 k3) rfl (by rw [hml]; rfl) (lenOf own_pd17966 rfl) rfl (hb hby at_58) (W := 0) (Nat.le_of_eq rfl) (by decide) ?_
      intro v50 T50 L50 X50 q50
      obtain ⟨rfl, N50q, e50⟩ := q50
      have N50 := Fr.app N49 N50q
      show own_Go p e below _ T50 (mkF m 61 #[iv p1, iv p2, iv p3, iv p4, iv p5, iv 4, iv c1, iv c2, iv c3, iv c4, rv t49, .unset, .unset] [(.int 3)])
      refine og_istore X50 hx #[iv p1, iv p2, iv p3, iv p4, iv p5, iv 4, iv c1, iv c2, iv c3, iv c4, rv t49, iv 3, .unset] (hb hby at_61) rfl ?_
      refine og_aload X50 hx (hb hby at_63) rfl rfl ?_
      refine own_callS X50 hx hZ hown (own_hw hw 32 rfl) (own_hw hw 33 rfl) (own_hw hw 34 rfl) (own_hw hw 35 rfl) (by decide) (argsL := [(.ref t49)]) (rest := []) (own_po_4_3 l Z a0 hw z sf t49 vb49 _ _ c1 c2 c3 c4 T49.heap n0 O49 hG k3 Et49 Ft49 Ct49 At49) e50 (by rw [hml]; rfl) (lenOf own_pd11897 rfl) rfl (hb hby at_65) (W := 0) (Nat.le_of_eq rfl) (by decide) ?_
      intro v51 T51 L51 X51 q51
      obtain ⟨t51, vb51, k51, rfl, N51q, K51q, zt51, gt51, zb51, gb51, ne_t51_vb51, Et51, Ft51, Ct51, At51⟩ := q51
      have N51 := Fr.app N50 N51q
      have ne_t49_t51 : t49 ≠ t51 := Nat.ne_of_lt (Nat.lt_of_lt_of_le Et49.lt zt51)
      have ne_vb49_t51 : vb49 ≠ t51 := Nat.ne_of_lt (Nat.lt_of_lt_of_le At49.lt zt51)
      have ne_t49_vb51 : t49 ≠ vb51 := Nat.ne_of_lt (Nat.lt_of_lt_of_le Et49.lt zb51)
      have ne_vb49_vb51 : vb49 ≠ vb51 := Nat.ne_of_lt (Nat.lt_of_lt_of_le At49.lt zb51)
      have hk51 := Nat.le_trans hk49 K51q.1
      have hs51 : ∀ x ∈ ([] : List Addr), Safe Z own_EL s.vm T49.heap x := sf0
      have C51 := C49.trans (CHr.keep K51q hs51 C49.1)
      have E_t49_51 := Et49.keep K51q
      have F_t49_value_51 := Ft49.keep K51q nin0
      have F_t49_coder_51 := Ct49.keep K51q nin0
      have A_vb49_51 := At49.keep K51q nin0
      have O51 := O49.keep K51q all0
      show own_Go p e below _ T51 (mkF m 68 #[iv p1, iv p2, iv p3, iv p4, iv p5, iv 4, iv c1, iv c2, iv c3, iv c4, rv t49, iv 3, .unset] [(.ref t51)])
      refine og_astore X51 hx #[iv p1, iv p2, iv p3, iv p4, iv p5, iv 4, iv c1, iv c2, iv c3, iv c4, rv t49, iv 3, rv t51] (hb hby at_68) rfl rfl ?_
      refine og_aload X51 hx (hb hby at_70) rfl rfl ?_
      refine og_ifnonnullY X51 hx 77 (hb hby at_72) (by decide) (by decide) ?_
      show own_Go p e below _ T51 (mkF m 77 #[iv p1, iv p2, iv p3, iv p4, iv p5, iv 4, iv c1, iv c2, iv c3, iv c4, rv t49, iv 3, rv t51] [])
      refine og_iload X51 hx (hb hby at_77) rfl ?_
      refine og_ifY X51 hx 88 (hb hby at_79) (flt (by decide)).2.1 (by decide) (by decide) ?_
      refine og_aload X51 hx (hb hby at_88) rfl rfl ?_
      refine own_callV X51 hx hZ hown (own_hw hw 124 rfl) (own_hw hw 42 rfl) (notFace_of_selects (args := #[]) (mvT hZ (own_hw hw 44 rfl))) (own_hw hw 44 rfl) (own_hw hw 43 rfl) (own_hw hw 45 rfl) (own_hw hw 9 rfl) (by decide) (b := t51) (argsL := []) (rest := []) (own_slen l Z a0 hw z sf t51 vb51 _ _ _ _ T51.heap n0 O51 hG Et51 Ft51 Ct51 At51) rfl Et51 (by rw [hml]; rfl) (lenOf own_pd13941 rfl) rfl (hb hby at_90) (W := 0) (Nat.le_of_eq rfl) (by decide) ?_
      intro v52 T52 L52 X52 q52
      obtain ⟨rfl, N52q, e52⟩ := q52
      have N52 := Fr.app N51 N52q
      show own_Go p e below _ T52 (mkF m 93 #[iv p1, iv p2, iv p3, iv p4, iv p5, iv 4, iv c1, iv c2, iv c3, iv c4, rv t49, iv 3, rv t51] [(.int 3)])
      refine og_iload X52 hx (hb hby at_93) rfl ?_
      refine og_icY X52 hx 100 (hb hby at_95) (teq rfl).1 (by decide) (by decide) ?_
      refine og_iload X52 hx (hb hby at_100) rfl ?_
      refine og_iconst X52 hx (hb hby at_102) ?_
      refine og_icN X52 hx (hb hby at_103) (flt (by decide)).1 ?_
      refine og_aload X52 hx (hb hby at_106) rfl rfl ?_
      refine og_iconst X52 hx (hb hby at_108) ?_
      refine own_callV X52 hx hZ hown (own_hw hw 125 rfl) (own_hw hw 126 rfl) (notFace_of_selects (args := #[]) (mvT hZ (own_hw hw 128 rfl))) (own_hw hw 128 rfl) (own_hw hw 127 rfl) (own_hw hw 129 rfl) (own_hw hw 9 rfl) (by decide) (b := t51) (argsL := [(.int 0)]) (rest := []) (own_ca_0_3 l Z a0 hw z sf t51 vb51 _ _ c1 (.int c2.toInt8.toInt32) (.int c3.toInt8.toInt32) T51.heap n0 O51 hG hc1 Et51 Ft51 Ct51 At51) e52 Et51 (by rw [hml]; rfl) (lenOf own_pd47939 rfl) rfl (hb hby at_109) (W := 0) (Nat.le_of_eq rfl) (by decide) ?_
      intro v53 T53 L53 X53 q53
      obtain ⟨rfl, N53q, e53⟩ := q53
      have N53 := Fr.app N52 N53q
      show own_Go p e below _ T53 (mkF m 112 #[iv p1, iv p2, iv p3, iv p4, iv p5, iv 4, iv c1, iv c2, iv c3, iv c4, rv t49, iv 3, rv t51] [(.int c1)])
      refine og_iload X53 hx (hb hby at_112) rfl ?_
      refine og_icN X53 hx (hb hby at_114) (teq rfl).2 ?_
      refine og_iload X53 hx (hb hby at_117) rfl ?_
      refine og_iconst X53 hx (hb hby at_119) ?_
      refine og_icN X53 hx (hb hby at_120) (flt (by decide)).1 ?_
      refine og_aload X53 hx (hb hby at_123) rfl rfl ?_
      refine og_iconst X53 hx (hb hby at_125) ?_
      refine own_callV X53 hx hZ hown (own_hw hw 125 rfl) (own_hw hw 126 rfl) (notFace_of_selects (args := #[]) (mvT hZ (own_hw hw 128 rfl))) (own_hw hw 128 rfl) (own_hw hw 127 rfl) (own_hw hw 129 rfl) (own_hw hw 9 rfl) (by decide) (b := t51) (argsL := [(.int 1)]) (rest := []) (own_ca_1_3 l Z a0 hw z sf t51 vb51 _ _ c2 (.int c1.toInt8.toInt32) (.int c3.toInt8.toInt32) T51.heap n0 O51 hG hc2 Et51 Ft51 Ct51 At51) e53 Et51 (by rw [hml]; rfl) (lenOf own_pd47939 rfl) rfl (hb hby at_126) (W := 0) (Nat.le_of_eq rfl) (by decide) ?_
      intro v54 T54 L54 X54 q54
      obtain ⟨rfl, N54q, e54⟩ := q54
      have N54 := Fr.app N53 N54q
      show own_Go p e below _ T54 (mkF m 129 #[iv p1, iv p2, iv p3, iv p4, iv p5, iv 4, iv c1, iv c2, iv c3, iv c4, rv t49, iv 3, rv t51] [(.int c2)])
      refine og_iload X54 hx (hb hby at_129) rfl ?_
      refine og_icN X54 hx (hb hby at_131) (teq rfl).2 ?_
      refine og_iload X54 hx (hb hby at_134) rfl ?_
      refine og_iconst X54 hx (hb hby at_136) ?_
      refine og_icN X54 hx (hb hby at_137) (flt (by decide)).1 ?_
      refine og_aload X54 hx (hb hby at_140) rfl rfl ?_
      refine og_iconst X54 hx (hb hby at_142) ?_
      refine own_callV X54 hx hZ hown (own_hw hw 125 rfl) (own_hw hw 126 rfl) (notFace_of_selects (args := #[]) (mvT hZ (own_hw hw 128 rfl))) (own_hw hw 128 rfl) (own_hw hw 127 rfl) (own_hw hw 129 rfl) (own_hw hw 9 rfl) (by decide) (b := t51) (argsL := [(.int 2)]) (rest := []) (own_ca_2_3 l Z a0 hw z sf t51 vb51 _ _ c3 (.int c1.toInt8.toInt32) (.int c2.toInt8.toInt32) T51.heap n0 O51 hG hc3 Et51 Ft51 Ct51 At51) e54 Et51 (by rw [hml]; rfl) (lenOf own_pd47939 rfl) rfl (hb hby at_143) (W := 0) (Nat.le_of_eq rfl) (by decide) ?_
      intro v55 T55 L55 X55 q55
      obtain ⟨rfl, N55q, e55⟩ := q55
      have N55 := Fr.app N54 N55q
      show own_Go p e below _ T55 (mkF m 146 #[iv p1, iv p2, iv p3, iv p4, iv p5, iv 4, iv c1, iv c2, iv c3, iv c4, rv t49, iv 3, rv t51] [(.int c3)])
      refine og_iload X55 hx (hb hby at_146) rfl ?_
      refine og_icN X55 hx (hb hby at_148) (teq rfl).2 ?_
      refine og_iconst X55 hx (hb hby at_151) ?_
      refine og_goto X55 hx 156 (hb hby at_152) (by decide) (by decide) ?_
      exact own_retIH X55 hx hret hlk (hb hby at_156) rfl (by simp) hZ (own_EW hw) C51 e55 hS hk51 (by decide) (by decide) (⟨rfl, N55⟩)
    · show own_Go p e below _ T4 (mkF m 35 #[iv p1, iv p2, iv p3, iv p4, iv p5, iv 4, iv c1, iv c2, iv c3, iv c4, .unset, .unset, .unset] [(.int 4)])
      refine og_iload X4 hx (hb hby at_35) rfl ?_
      refine og_iload X4 hx (hb hby at_37) rfl ?_
      refine og_iload X4 hx (hb hby at_39) rfl ?_
      refine og_iload X4 hx (hb hby at_41) rfl ?_
      refine own_callS X4 hx hZ hown (own_hw hw 4 rfl) (own_hw hw 5 rfl) (own_hw hw 2 rfl) (own_hw hw 6 rfl) (by decide) (argsL := [(.int 4), (.int c1), (.int c2), (.int c3), (.int c4)]) (rest := []) (own_mk4 l Z a0 hw c1 c2 c3 c4 z h0 n0 hO SC hz hc1 hc2 hc3 hc4) e4 (by rw [hml]; rfl) (lenOf own_pd95007 rfl) rfl (hb hby at_43) (W := 0) (Nat.le_of_eq rfl) (by decide) ?_
      intro v56 T56 L56 X56 q56
      obtain ⟨t56, vb56, k56, rfl, N56q, K56q, zt56, gt56, zb56, gb56, ne_t56_vb56, Et56, Ft56, Ct56, At56⟩ := q56
      have N56 := Fr.app N4 N56q
      have hk56 := Nat.le_trans hk K56q.1
      have hs56 : ∀ x ∈ ([] : List Addr), Safe Z own_EL s.vm h0 x := sf0
      have C56 := C0.trans (CHr.keep K56q hs56 C0.1)
      have O56 := hO.keep K56q all0
      show own_Go p e below _ T56 (mkF m 46 #[iv p1, iv p2, iv p3, iv p4, iv p5, iv 4, iv c1, iv c2, iv c3, iv c4, .unset, .unset, .unset] [(.ref t56)])
      refine og_astore X56 hx #[iv p1, iv p2, iv p3, iv p4, iv p5, iv 4, iv c1, iv c2, iv c3, iv c4, rv t56, .unset, .unset] (hb hby at_46) rfl rfl ?_
      refine og_iload X56 hx (hb hby at_48) rfl ?_
      refine og_iload X56 hx (hb hby at_50) rfl ?_
      refine og_iload X56 hx (hb hby at_52) rfl ?_
      refine og_iload X56 hx (hb hby at_54) rfl ?_
      refine og_iload X56 hx (hb hby at_56) rfl ?_
      refine own_callS X56 hx hZ hown (own_hw hw 29 rfl) (own_hw hw 30 rfl) (own_hw hw 2 rfl) (own_hw hw 31 rfl) (by decide) (argsL := [(.int 4), (.int c1), (.int c2), (.int c3), (.int c4)]) (rest := []) (own_ls_4_2 l Z a0 hw c1 c2 c3 c4 T56.heap n0 m3 k2) rfl (by rw [hml]; rfl) (lenOf own_pd17966 rfl) rfl (hb hby at_58) (W := 0) (Nat.le_of_eq rfl) (by decide) ?_
      intro v57 T57 L57 X57 q57
      obtain ⟨rfl, N57q, e57⟩ := q57
      have N57 := Fr.app N56 N57q
      show own_Go p e below _ T57 (mkF m 61 #[iv p1, iv p2, iv p3, iv p4, iv p5, iv 4, iv c1, iv c2, iv c3, iv c4, rv t56, .unset, .unset] [(.int 2)])
      refine og_istore X57 hx #[iv p1, iv p2, iv p3, iv p4, iv p5, iv 4, iv c1, iv c2, iv c3, iv c4, rv t56, iv 2, .unset] (hb hby at_61) rfl ?_
      refine og_aload X57 hx (hb hby at_63) rfl rfl ?_
      refine own_callS X57 hx hZ hown (own_hw hw 32 rfl) (own_hw hw 33 rfl) (own_hw hw 34 rfl) (own_hw hw 35 rfl) (by decide) (argsL := [(.ref t56)]) (rest := []) (own_po_4_2 l Z a0 hw z sf t56 vb56 _ _ c1 c2 c3 c4 T56.heap n0 O56 hG hc4 m3 k2 Et56 Ft56 Ct56 At56) e57 (by rw [hml]; rfl) (lenOf own_pd11897 rfl) rfl (hb hby at_65) (W := 0) (Nat.le_of_eq rfl) (by decide) ?_
      intro v58 T58 L58 X58 q58
      obtain ⟨t58, vb58, k58, rfl, N58q, K58q, zt58, gt58, zb58, gb58, ne_t58_vb58, Et58, Ft58, Ct58, At58⟩ := q58
      have N58 := Fr.app N57 N58q
      have ne_t56_t58 : t56 ≠ t58 := Nat.ne_of_lt (Nat.lt_of_lt_of_le Et56.lt zt58)
      have ne_vb56_t58 : vb56 ≠ t58 := Nat.ne_of_lt (Nat.lt_of_lt_of_le At56.lt zt58)
      have ne_t56_vb58 : t56 ≠ vb58 := Nat.ne_of_lt (Nat.lt_of_lt_of_le Et56.lt zb58)
      have ne_vb56_vb58 : vb56 ≠ vb58 := Nat.ne_of_lt (Nat.lt_of_lt_of_le At56.lt zb58)
      have hk58 := Nat.le_trans hk56 K58q.1
      have hs58 : ∀ x ∈ ([] : List Addr), Safe Z own_EL s.vm T56.heap x := sf0
      have C58 := C56.trans (CHr.keep K58q hs58 C56.1)
      have E_t56_58 := Et56.keep K58q
      have F_t56_value_58 := Ft56.keep K58q nin0
      have F_t56_coder_58 := Ct56.keep K58q nin0
      have A_vb56_58 := At56.keep K58q nin0
      have O58 := O56.keep K58q all0
      show own_Go p e below _ T58 (mkF m 68 #[iv p1, iv p2, iv p3, iv p4, iv p5, iv 4, iv c1, iv c2, iv c3, iv c4, rv t56, iv 2, .unset] [(.ref t58)])
      refine og_astore X58 hx #[iv p1, iv p2, iv p3, iv p4, iv p5, iv 4, iv c1, iv c2, iv c3, iv c4, rv t56, iv 2, rv t58] (hb hby at_68) rfl rfl ?_
      refine og_aload X58 hx (hb hby at_70) rfl rfl ?_
      refine og_ifnonnullY X58 hx 77 (hb hby at_72) (by decide) (by decide) ?_
      show own_Go p e below _ T58 (mkF m 77 #[iv p1, iv p2, iv p3, iv p4, iv p5, iv 4, iv c1, iv c2, iv c3, iv c4, rv t56, iv 2, rv t58] [])
      refine og_iload X58 hx (hb hby at_77) rfl ?_
      refine og_ifY X58 hx 88 (hb hby at_79) (flt (by decide)).2.1 (by decide) (by decide) ?_
      refine og_aload X58 hx (hb hby at_88) rfl rfl ?_
      refine own_callV X58 hx hZ hown (own_hw hw 124 rfl) (own_hw hw 42 rfl) (notFace_of_selects (args := #[]) (mvT hZ (own_hw hw 44 rfl))) (own_hw hw 44 rfl) (own_hw hw 43 rfl) (own_hw hw 45 rfl) (own_hw hw 9 rfl) (by decide) (b := t58) (argsL := []) (rest := []) (own_slen l Z a0 hw z sf t58 vb58 _ _ _ _ T58.heap n0 O58 hG Et58 Ft58 Ct58 At58) rfl Et58 (by rw [hml]; rfl) (lenOf own_pd13941 rfl) rfl (hb hby at_90) (W := 0) (Nat.le_of_eq rfl) (by decide) ?_
      intro v59 T59 L59 X59 q59
      obtain ⟨rfl, N59q, e59⟩ := q59
      have N59 := Fr.app N58 N59q
      show own_Go p e below _ T59 (mkF m 93 #[iv p1, iv p2, iv p3, iv p4, iv p5, iv 4, iv c1, iv c2, iv c3, iv c4, rv t56, iv 2, rv t58] [(.int 2)])
      refine og_iload X59 hx (hb hby at_93) rfl ?_
      refine og_icY X59 hx 100 (hb hby at_95) (teq rfl).1 (by decide) (by decide) ?_
      refine og_iload X59 hx (hb hby at_100) rfl ?_
      refine og_iconst X59 hx (hb hby at_102) ?_
      refine og_icN X59 hx (hb hby at_103) (flt (by decide)).1 ?_
      refine og_aload X59 hx (hb hby at_106) rfl rfl ?_
      refine og_iconst X59 hx (hb hby at_108) ?_
      refine own_callV X59 hx hZ hown (own_hw hw 125 rfl) (own_hw hw 126 rfl) (notFace_of_selects (args := #[]) (mvT hZ (own_hw hw 128 rfl))) (own_hw hw 128 rfl) (own_hw hw 127 rfl) (own_hw hw 129 rfl) (own_hw hw 9 rfl) (by decide) (b := t58) (argsL := [(.int 0)]) (rest := []) (own_ca_0_2 l Z a0 hw z sf t58 vb58 _ _ c1 (.int c2.toInt8.toInt32) T58.heap n0 O58 hG hc1 Et58 Ft58 Ct58 At58) e59 Et58 (by rw [hml]; rfl) (lenOf own_pd47939 rfl) rfl (hb hby at_109) (W := 0) (Nat.le_of_eq rfl) (by decide) ?_
      intro v60 T60 L60 X60 q60
      obtain ⟨rfl, N60q, e60⟩ := q60
      have N60 := Fr.app N59 N60q
      show own_Go p e below _ T60 (mkF m 112 #[iv p1, iv p2, iv p3, iv p4, iv p5, iv 4, iv c1, iv c2, iv c3, iv c4, rv t56, iv 2, rv t58] [(.int c1)])
      refine og_iload X60 hx (hb hby at_112) rfl ?_
      refine og_icN X60 hx (hb hby at_114) (teq rfl).2 ?_
      refine og_iload X60 hx (hb hby at_117) rfl ?_
      refine og_iconst X60 hx (hb hby at_119) ?_
      refine og_icN X60 hx (hb hby at_120) (flt (by decide)).1 ?_
      refine og_aload X60 hx (hb hby at_123) rfl rfl ?_
      refine og_iconst X60 hx (hb hby at_125) ?_
      refine own_callV X60 hx hZ hown (own_hw hw 125 rfl) (own_hw hw 126 rfl) (notFace_of_selects (args := #[]) (mvT hZ (own_hw hw 128 rfl))) (own_hw hw 128 rfl) (own_hw hw 127 rfl) (own_hw hw 129 rfl) (own_hw hw 9 rfl) (by decide) (b := t58) (argsL := [(.int 1)]) (rest := []) (own_ca_1_2 l Z a0 hw z sf t58 vb58 _ _ c2 (.int c1.toInt8.toInt32) T58.heap n0 O58 hG hc2 Et58 Ft58 Ct58 At58) e60 Et58 (by rw [hml]; rfl) (lenOf own_pd47939 rfl) rfl (hb hby at_126) (W := 0) (Nat.le_of_eq rfl) (by decide) ?_
      intro v61 T61 L61 X61 q61
      obtain ⟨rfl, N61q, e61⟩ := q61
      have N61 := Fr.app N60 N61q
      show own_Go p e below _ T61 (mkF m 129 #[iv p1, iv p2, iv p3, iv p4, iv p5, iv 4, iv c1, iv c2, iv c3, iv c4, rv t56, iv 2, rv t58] [(.int c2)])
      refine og_iload X61 hx (hb hby at_129) rfl ?_
      refine og_icN X61 hx (hb hby at_131) (teq rfl).2 ?_
      refine og_iload X61 hx (hb hby at_134) rfl ?_
      refine og_iconst X61 hx (hb hby at_136) ?_
      refine og_icY X61 hx 151 (hb hby at_137) (tlt (by decide)).1 (by decide) (by decide) ?_
      refine og_iconst X61 hx (hb hby at_151) ?_
      refine og_goto X61 hx 156 (hb hby at_152) (by decide) (by decide) ?_
      exact own_retIH X61 hx hret hlk (hb hby at_156) rfl (by simp) hZ (own_EW hw) C58 e61 hS hk58 (by decide) (by decide) (⟨rfl, N61⟩)
    · show own_Go p e below _ T4 (mkF m 35 #[iv p1, iv p2, iv p3, iv p4, iv p5, iv 4, iv c1, iv c2, iv c3, iv c4, .unset, .unset, .unset] [(.int 4)])
      refine og_iload X4 hx (hb hby at_35) rfl ?_
      refine og_iload X4 hx (hb hby at_37) rfl ?_
      refine og_iload X4 hx (hb hby at_39) rfl ?_
      refine og_iload X4 hx (hb hby at_41) rfl ?_
      refine own_callS X4 hx hZ hown (own_hw hw 4 rfl) (own_hw hw 5 rfl) (own_hw hw 2 rfl) (own_hw hw 6 rfl) (by decide) (argsL := [(.int 4), (.int c1), (.int c2), (.int c3), (.int c4)]) (rest := []) (own_mk4 l Z a0 hw c1 c2 c3 c4 z h0 n0 hO SC hz hc1 hc2 hc3 hc4) e4 (by rw [hml]; rfl) (lenOf own_pd95007 rfl) rfl (hb hby at_43) (W := 0) (Nat.le_of_eq rfl) (by decide) ?_
      intro v62 T62 L62 X62 q62
      obtain ⟨t62, vb62, k62, rfl, N62q, K62q, zt62, gt62, zb62, gb62, ne_t62_vb62, Et62, Ft62, Ct62, At62⟩ := q62
      have N62 := Fr.app N4 N62q
      have hk62 := Nat.le_trans hk K62q.1
      have hs62 : ∀ x ∈ ([] : List Addr), Safe Z own_EL s.vm h0 x := sf0
      have C62 := C0.trans (CHr.keep K62q hs62 C0.1)
      have O62 := hO.keep K62q all0
      show own_Go p e below _ T62 (mkF m 46 #[iv p1, iv p2, iv p3, iv p4, iv p5, iv 4, iv c1, iv c2, iv c3, iv c4, .unset, .unset, .unset] [(.ref t62)])
      refine og_astore X62 hx #[iv p1, iv p2, iv p3, iv p4, iv p5, iv 4, iv c1, iv c2, iv c3, iv c4, rv t62, .unset, .unset] (hb hby at_46) rfl rfl ?_
      refine og_iload X62 hx (hb hby at_48) rfl ?_
      refine og_iload X62 hx (hb hby at_50) rfl ?_
      refine og_iload X62 hx (hb hby at_52) rfl ?_
      refine og_iload X62 hx (hb hby at_54) rfl ?_
      refine og_iload X62 hx (hb hby at_56) rfl ?_
      refine own_callS X62 hx hZ hown (own_hw hw 29 rfl) (own_hw hw 30 rfl) (own_hw hw 2 rfl) (own_hw hw 31 rfl) (by decide) (argsL := [(.int 4), (.int c1), (.int c2), (.int c3), (.int c4)]) (rest := []) (own_ls_4_1 l Z a0 hw c1 c2 c3 c4 T62.heap n0 m2 m3 k1) rfl (by rw [hml]; rfl) (lenOf own_pd17966 rfl) rfl (hb hby at_58) (W := 0) (Nat.le_of_eq rfl) (by decide) ?_
      intro v63 T63 L63 X63 q63
      obtain ⟨rfl, N63q, e63⟩ := q63
      have N63 := Fr.app N62 N63q
      show own_Go p e below _ T63 (mkF m 61 #[iv p1, iv p2, iv p3, iv p4, iv p5, iv 4, iv c1, iv c2, iv c3, iv c4, rv t62, .unset, .unset] [(.int 1)])
      refine og_istore X63 hx #[iv p1, iv p2, iv p3, iv p4, iv p5, iv 4, iv c1, iv c2, iv c3, iv c4, rv t62, iv 1, .unset] (hb hby at_61) rfl ?_
      refine og_aload X63 hx (hb hby at_63) rfl rfl ?_
      refine own_callS X63 hx hZ hown (own_hw hw 32 rfl) (own_hw hw 33 rfl) (own_hw hw 34 rfl) (own_hw hw 35 rfl) (by decide) (argsL := [(.ref t62)]) (rest := []) (own_po_4_1 l Z a0 hw z sf t62 vb62 _ _ c1 c2 c3 c4 T62.heap n0 O62 hG hc3 m2 hc4 m3 k1 Et62 Ft62 Ct62 At62) e63 (by rw [hml]; rfl) (lenOf own_pd11897 rfl) rfl (hb hby at_65) (W := 0) (Nat.le_of_eq rfl) (by decide) ?_
      intro v64 T64 L64 X64 q64
      obtain ⟨t64, vb64, k64, rfl, N64q, K64q, zt64, gt64, zb64, gb64, ne_t64_vb64, Et64, Ft64, Ct64, At64⟩ := q64
      have N64 := Fr.app N63 N64q
      have ne_t62_t64 : t62 ≠ t64 := Nat.ne_of_lt (Nat.lt_of_lt_of_le Et62.lt zt64)
      have ne_vb62_t64 : vb62 ≠ t64 := Nat.ne_of_lt (Nat.lt_of_lt_of_le At62.lt zt64)
      have ne_t62_vb64 : t62 ≠ vb64 := Nat.ne_of_lt (Nat.lt_of_lt_of_le Et62.lt zb64)
      have ne_vb62_vb64 : vb62 ≠ vb64 := Nat.ne_of_lt (Nat.lt_of_lt_of_le At62.lt zb64)
      have hk64 := Nat.le_trans hk62 K64q.1
      have hs64 : ∀ x ∈ ([] : List Addr), Safe Z own_EL s.vm T62.heap x := sf0
      have C64 := C62.trans (CHr.keep K64q hs64 C62.1)
      have E_t62_64 := Et62.keep K64q
      have F_t62_value_64 := Ft62.keep K64q nin0
      have F_t62_coder_64 := Ct62.keep K64q nin0
      have A_vb62_64 := At62.keep K64q nin0
      have O64 := O62.keep K64q all0
      show own_Go p e below _ T64 (mkF m 68 #[iv p1, iv p2, iv p3, iv p4, iv p5, iv 4, iv c1, iv c2, iv c3, iv c4, rv t62, iv 1, .unset] [(.ref t64)])
      refine og_astore X64 hx #[iv p1, iv p2, iv p3, iv p4, iv p5, iv 4, iv c1, iv c2, iv c3, iv c4, rv t62, iv 1, rv t64] (hb hby at_68) rfl rfl ?_
      refine og_aload X64 hx (hb hby at_70) rfl rfl ?_
      refine og_ifnonnullY X64 hx 77 (hb hby at_72) (by decide) (by decide) ?_
      show own_Go p e below _ T64 (mkF m 77 #[iv p1, iv p2, iv p3, iv p4, iv p5, iv 4, iv c1, iv c2, iv c3, iv c4, rv t62, iv 1, rv t64] [])
      refine og_iload X64 hx (hb hby at_77) rfl ?_
      refine og_ifY X64 hx 88 (hb hby at_79) (flt (by decide)).2.1 (by decide) (by decide) ?_
      refine og_aload X64 hx (hb hby at_88) rfl rfl ?_
      refine own_callV X64 hx hZ hown (own_hw hw 124 rfl) (own_hw hw 42 rfl) (notFace_of_selects (args := #[]) (mvT hZ (own_hw hw 44 rfl))) (own_hw hw 44 rfl) (own_hw hw 43 rfl) (own_hw hw 45 rfl) (own_hw hw 9 rfl) (by decide) (b := t64) (argsL := []) (rest := []) (own_slen l Z a0 hw z sf t64 vb64 _ _ _ _ T64.heap n0 O64 hG Et64 Ft64 Ct64 At64) rfl Et64 (by rw [hml]; rfl) (lenOf own_pd13941 rfl) rfl (hb hby at_90) (W := 0) (Nat.le_of_eq rfl) (by decide) ?_
      intro v65 T65 L65 X65 q65
      obtain ⟨rfl, N65q, e65⟩ := q65
      have N65 := Fr.app N64 N65q
      show own_Go p e below _ T65 (mkF m 93 #[iv p1, iv p2, iv p3, iv p4, iv p5, iv 4, iv c1, iv c2, iv c3, iv c4, rv t62, iv 1, rv t64] [(.int 1)])
      refine og_iload X65 hx (hb hby at_93) rfl ?_
      refine og_icY X65 hx 100 (hb hby at_95) (teq rfl).1 (by decide) (by decide) ?_
      refine og_iload X65 hx (hb hby at_100) rfl ?_
      refine og_iconst X65 hx (hb hby at_102) ?_
      refine og_icN X65 hx (hb hby at_103) (flt (by decide)).1 ?_
      refine og_aload X65 hx (hb hby at_106) rfl rfl ?_
      refine og_iconst X65 hx (hb hby at_108) ?_
      refine own_callV X65 hx hZ hown (own_hw hw 125 rfl) (own_hw hw 126 rfl) (notFace_of_selects (args := #[]) (mvT hZ (own_hw hw 128 rfl))) (own_hw hw 128 rfl) (own_hw hw 127 rfl) (own_hw hw 129 rfl) (own_hw hw 9 rfl) (by decide) (b := t64) (argsL := [(.int 0)]) (rest := []) (own_ca_0_1 l Z a0 hw z sf t64 vb64 _ _ c1 T64.heap n0 O64 hG hc1 Et64 Ft64 Ct64 At64) e65 Et64 (by rw [hml]; rfl) (lenOf own_pd47939 rfl) rfl (hb hby at_109) (W := 0) (Nat.le_of_eq rfl) (by decide) ?_
      intro v66 T66 L66 X66 q66
      obtain ⟨rfl, N66q, e66⟩ := q66
      have N66 := Fr.app N65 N66q
      show own_Go p e below _ T66 (mkF m 112 #[iv p1, iv p2, iv p3, iv p4, iv p5, iv 4, iv c1, iv c2, iv c3, iv c4, rv t62, iv 1, rv t64] [(.int c1)])
      refine og_iload X66 hx (hb hby at_112) rfl ?_
      refine og_icN X66 hx (hb hby at_114) (teq rfl).2 ?_
      refine og_iload X66 hx (hb hby at_117) rfl ?_
      refine og_iconst X66 hx (hb hby at_119) ?_
      refine og_icY X66 hx 134 (hb hby at_120) (tlt (by decide)).1 (by decide) (by decide) ?_
      refine og_iload X66 hx (hb hby at_134) rfl ?_
      refine og_iconst X66 hx (hb hby at_136) ?_
      refine og_icY X66 hx 151 (hb hby at_137) (tlt (by decide)).1 (by decide) (by decide) ?_
      refine og_iconst X66 hx (hb hby at_151) ?_
      refine og_goto X66 hx 156 (hb hby at_152) (by decide) (by decide) ?_
      exact own_retIH X66 hx hret hlk (hb hby at_156) rfl (by simp) hZ (own_EW hw) C64 e66 hS hk64 (by decide) (by decide) (⟨rfl, N66⟩)
    · show own_Go p e below _ T4 (mkF m 35 #[iv p1, iv p2, iv p3, iv p4, iv p5, iv 4, iv c1, iv c2, iv c3, iv c4, .unset, .unset, .unset] [(.int 4)])
      refine og_iload X4 hx (hb hby at_35) rfl ?_
      refine og_iload X4 hx (hb hby at_37) rfl ?_
      refine og_iload X4 hx (hb hby at_39) rfl ?_
      refine og_iload X4 hx (hb hby at_41) rfl ?_
      refine own_callS X4 hx hZ hown (own_hw hw 4 rfl) (own_hw hw 5 rfl) (own_hw hw 2 rfl) (own_hw hw 6 rfl) (by decide) (argsL := [(.int 4), (.int c1), (.int c2), (.int c3), (.int c4)]) (rest := []) (own_mk4 l Z a0 hw c1 c2 c3 c4 z h0 n0 hO SC hz hc1 hc2 hc3 hc4) e4 (by rw [hml]; rfl) (lenOf own_pd95007 rfl) rfl (hb hby at_43) (W := 0) (Nat.le_of_eq rfl) (by decide) ?_
      intro v67 T67 L67 X67 q67
      obtain ⟨t67, vb67, k67, rfl, N67q, K67q, zt67, gt67, zb67, gb67, ne_t67_vb67, Et67, Ft67, Ct67, At67⟩ := q67
      have N67 := Fr.app N4 N67q
      have hk67 := Nat.le_trans hk K67q.1
      have hs67 : ∀ x ∈ ([] : List Addr), Safe Z own_EL s.vm h0 x := sf0
      have C67 := C0.trans (CHr.keep K67q hs67 C0.1)
      have O67 := hO.keep K67q all0
      show own_Go p e below _ T67 (mkF m 46 #[iv p1, iv p2, iv p3, iv p4, iv p5, iv 4, iv c1, iv c2, iv c3, iv c4, .unset, .unset, .unset] [(.ref t67)])
      refine og_astore X67 hx #[iv p1, iv p2, iv p3, iv p4, iv p5, iv 4, iv c1, iv c2, iv c3, iv c4, rv t67, .unset, .unset] (hb hby at_46) rfl rfl ?_
      refine og_iload X67 hx (hb hby at_48) rfl ?_
      refine og_iload X67 hx (hb hby at_50) rfl ?_
      refine og_iload X67 hx (hb hby at_52) rfl ?_
      refine og_iload X67 hx (hb hby at_54) rfl ?_
      refine og_iload X67 hx (hb hby at_56) rfl ?_
      refine own_callS X67 hx hZ hown (own_hw hw 29 rfl) (own_hw hw 30 rfl) (own_hw hw 2 rfl) (own_hw hw 31 rfl) (by decide) (argsL := [(.int 4), (.int c1), (.int c2), (.int c3), (.int c4)]) (rest := []) (own_ls_4_0 l Z a0 hw c1 c2 c3 c4 T67.heap n0 m1 m2 m3 k0) rfl (by rw [hml]; rfl) (lenOf own_pd17966 rfl) rfl (hb hby at_58) (W := 0) (Nat.le_of_eq rfl) (by decide) ?_
      intro v68 T68 L68 X68 q68
      obtain ⟨rfl, N68q, e68⟩ := q68
      have N68 := Fr.app N67 N68q
      show own_Go p e below _ T68 (mkF m 61 #[iv p1, iv p2, iv p3, iv p4, iv p5, iv 4, iv c1, iv c2, iv c3, iv c4, rv t67, .unset, .unset] [(.int 0)])
      refine og_istore X68 hx #[iv p1, iv p2, iv p3, iv p4, iv p5, iv 4, iv c1, iv c2, iv c3, iv c4, rv t67, iv 0, .unset] (hb hby at_61) rfl ?_
      refine og_aload X68 hx (hb hby at_63) rfl rfl ?_
      refine own_callSH X68 hx hZ hown (own_hw hw 32 rfl) (own_hw hw 33 rfl) (own_hw hw 34 rfl) (own_hw hw 35 rfl) (by decide) (argsL := [(.ref t67)]) (rest := []) (own_po_4_0 l Z a0 hw z sf t67 vb67 _ _ c1 c2 c3 c4 T67.heap n0 O67 hG hc2 m1 hc3 m2 hc4 m3 k0 Et67 Ft67 Ct67 At67) (own_EW hw) C67.1 hS hk67 e68 (by rw [hml]; rfl) (lenOf own_pd11897 rfl) rfl (hb hby at_65) (W := 0) (Nat.le_of_eq rfl) (by decide) ?_
      intro v69 T69 L69 X69 hS69 hZ69 hown69 C69q q69
      obtain ⟨t69, vb69, k69, rfl, N69q, K69q, Et69, Ft69, Ct69, At69⟩ := q69
      have N69 := Fr.app N68 N69q
      have C69 := C67.trans C69q
      have E_t67_69 := Et67.keep K69q
      have F_t67_value_69 := Ft67.keep K69q nin0
      have F_t67_coder_69 := Ct67.keep K69q nin0
      have A_vb67_69 := At67.keep K69q nin0
      have O69 := O67.keep K69q all0
      show own_Go p e below _ T69 (mkF m 68 #[iv p1, iv p2, iv p3, iv p4, iv p5, iv 4, iv c1, iv c2, iv c3, iv c4, rv t67, iv 0, .unset] [(.ref t69)])
      refine og_astore X69 hx #[iv p1, iv p2, iv p3, iv p4, iv p5, iv 4, iv c1, iv c2, iv c3, iv c4, rv t67, iv 0, rv t69] (hb hby at_68) rfl rfl ?_
      refine og_aload X69 hx (hb hby at_70) rfl rfl ?_
      refine og_ifnonnullY X69 hx 77 (hb hby at_72) (by decide) (by decide) ?_
      show own_Go p e below _ T69 (mkF m 77 #[iv p1, iv p2, iv p3, iv p4, iv p5, iv 4, iv c1, iv c2, iv c3, iv c4, rv t67, iv 0, rv t69] [])
      refine og_iload X69 hx (hb hby at_77) rfl ?_
      refine og_ifY X69 hx 88 (hb hby at_79) (flt (by decide)).2.1 (by decide) (by decide) ?_
      refine og_aload X69 hx (hb hby at_88) rfl rfl ?_
      refine own_callV X69 hx hZ69 hown69 (own_hw hw 124 rfl) (own_hw hw 42 rfl) (notFace_of_selects (args := #[]) (mvT hZ69 (own_hw hw 44 rfl))) (own_hw hw 44 rfl) (own_hw hw 43 rfl) (own_hw hw 45 rfl) (own_hw hw 9 rfl) (by decide) (b := t69) (argsL := []) (rest := []) (own_slen l Z a0 hw z sf t69 vb69 _ _ _ _ T69.heap n0 O69 hG Et69 Ft69 Ct69 At69) rfl Et69 (by rw [hml]; rfl) (lenOf own_pd13941 rfl) rfl (hb hby at_90) (W := 0) (Nat.le_of_eq rfl) (by decide) ?_
      intro v70 T70 L70 X70 q70
      obtain ⟨rfl, N70q, e70⟩ := q70
      have N70 := Fr.app N69 N70q
      show own_Go p e below _ T70 (mkF m 93 #[iv p1, iv p2, iv p3, iv p4, iv p5, iv 4, iv c1, iv c2, iv c3, iv c4, rv t67, iv 0, rv t69] [(.int 0)])
      refine og_iload X70 hx (hb hby at_93) rfl ?_
      refine og_icY X70 hx 100 (hb hby at_95) (teq rfl).1 (by decide) (by decide) ?_
      refine og_iload X70 hx (hb hby at_100) rfl ?_
      refine og_iconst X70 hx (hb hby at_102) ?_
      refine og_icY X70 hx 117 (hb hby at_103) (tlt (by decide)).1 (by decide) (by decide) ?_
      refine og_iload X70 hx (hb hby at_117) rfl ?_
      refine og_iconst X70 hx (hb hby at_119) ?_
      refine og_icY X70 hx 134 (hb hby at_120) (tlt (by decide)).1 (by decide) (by decide) ?_
      refine og_iload X70 hx (hb hby at_134) rfl ?_
      refine og_iconst X70 hx (hb hby at_136) ?_
      refine og_icY X70 hx 151 (hb hby at_137) (tlt (by decide)).1 (by decide) (by decide) ?_
      refine og_iconst X70 hx (hb hby at_151) ?_
      refine og_goto X70 hx 156 (hb hby at_152) (by decide) (by decide) ?_
      exact own_retIH X70 hx hret hlk (hb hby at_156) rfl (by simp) hZ69 (own_EW hw) C69 e70 hS69 (Nat.le_refl _) (by decide) (by decide) (⟨rfl, N70⟩)
    · show own_Go p e below _ T4 (mkF m 35 #[iv p1, iv p2, iv p3, iv p4, iv p5, iv 4, iv c1, iv c2, iv c3, iv c4, .unset, .unset, .unset] [(.int 4)])
      refine og_iload X4 hx (hb hby at_35) rfl ?_
      refine og_iload X4 hx (hb hby at_37) rfl ?_
      refine og_iload X4 hx (hb hby at_39) rfl ?_
      refine og_iload X4 hx (hb hby at_41) rfl ?_
      refine own_callS X4 hx hZ hown (own_hw hw 4 rfl) (own_hw hw 5 rfl) (own_hw hw 2 rfl) (own_hw hw 6 rfl) (by decide) (argsL := [(.int 4), (.int c1), (.int c2), (.int c3), (.int c4)]) (rest := []) (own_mk4 l Z a0 hw c1 c2 c3 c4 z h0 n0 hO SC hz hc1 hc2 hc3 hc4) e4 (by rw [hml]; rfl) (lenOf own_pd95007 rfl) rfl (hb hby at_43) (W := 0) (Nat.le_of_eq rfl) (by decide) ?_
      intro v71 T71 L71 X71 q71
      obtain ⟨t71, vb71, k71, rfl, N71q, K71q, zt71, gt71, zb71, gb71, ne_t71_vb71, Et71, Ft71, Ct71, At71⟩ := q71
      have N71 := Fr.app N4 N71q
      have hk71 := Nat.le_trans hk K71q.1
      have hs71 : ∀ x ∈ ([] : List Addr), Safe Z own_EL s.vm h0 x := sf0
      have C71 := C0.trans (CHr.keep K71q hs71 C0.1)
      have O71 := hO.keep K71q all0
      show own_Go p e below _ T71 (mkF m 46 #[iv p1, iv p2, iv p3, iv p4, iv p5, iv 4, iv c1, iv c2, iv c3, iv c4, .unset, .unset, .unset] [(.ref t71)])
      refine og_astore X71 hx #[iv p1, iv p2, iv p3, iv p4, iv p5, iv 4, iv c1, iv c2, iv c3, iv c4, rv t71, .unset, .unset] (hb hby at_46) rfl rfl ?_
      refine og_iload X71 hx (hb hby at_48) rfl ?_
      refine og_iload X71 hx (hb hby at_50) rfl ?_
      refine og_iload X71 hx (hb hby at_52) rfl ?_
      refine og_iload X71 hx (hb hby at_54) rfl ?_
      refine og_iload X71 hx (hb hby at_56) rfl ?_
      refine own_callS X71 hx hZ hown (own_hw hw 29 rfl) (own_hw hw 30 rfl) (own_hw hw 2 rfl) (own_hw hw 31 rfl) (by decide) (argsL := [(.int 4), (.int c1), (.int c2), (.int c3), (.int c4)]) (rest := []) (own_ls_4_m1 l Z a0 hw c1 c2 c3 c4 T71.heap n0 m0 m1 m2 m3) rfl (by rw [hml]; rfl) (lenOf own_pd17966 rfl) rfl (hb hby at_58) (W := 0) (Nat.le_of_eq rfl) (by decide) ?_
      intro v72 T72 L72 X72 q72
      obtain ⟨rfl, N72q, e72⟩ := q72
      have N72 := Fr.app N71 N72q
      show own_Go p e below _ T72 (mkF m 61 #[iv p1, iv p2, iv p3, iv p4, iv p5, iv 4, iv c1, iv c2, iv c3, iv c4, rv t71, .unset, .unset] [(.int (-1))])
      refine og_istore X72 hx #[iv p1, iv p2, iv p3, iv p4, iv p5, iv 4, iv c1, iv c2, iv c3, iv c4, rv t71, iv (-1), .unset] (hb hby at_61) rfl ?_
      refine og_aload X72 hx (hb hby at_63) rfl rfl ?_
      refine own_callSH X72 hx hZ hown (own_hw hw 32 rfl) (own_hw hw 33 rfl) (own_hw hw 34 rfl) (own_hw hw 35 rfl) (by decide) (argsL := [(.ref t71)]) (rest := []) (own_po_4_m1 l Z a0 hw z sf t71 vb71 _ _ c1 c2 c3 c4 T71.heap n0 O71 hG hc1 m0 hc2 m1 hc3 m2 hc4 m3 Et71 Ft71 Ct71 At71) (own_EW hw) C71.1 hS hk71 e72 (by rw [hml]; rfl) (lenOf own_pd11897 rfl) rfl (hb hby at_65) (W := 0) (Nat.le_of_eq rfl) (by decide) ?_
      intro v73 T73 L73 X73 hS73 hZ73 hown73 C73q q73
      obtain ⟨t73, vb73, k73, rfl, N73q, K73q, Et73, Ft73, Ct73, At73⟩ := q73
      have N73 := Fr.app N72 N73q
      have C73 := C71.trans C73q
      have E_t71_73 := Et71.keep K73q
      have F_t71_value_73 := Ft71.keep K73q nin0
      have F_t71_coder_73 := Ct71.keep K73q nin0
      have A_vb71_73 := At71.keep K73q nin0
      have O73 := O71.keep K73q all0
      show own_Go p e below _ T73 (mkF m 68 #[iv p1, iv p2, iv p3, iv p4, iv p5, iv 4, iv c1, iv c2, iv c3, iv c4, rv t71, iv (-1), .unset] [(.ref t73)])
      refine og_astore X73 hx #[iv p1, iv p2, iv p3, iv p4, iv p5, iv 4, iv c1, iv c2, iv c3, iv c4, rv t71, iv (-1), rv t73] (hb hby at_68) rfl rfl ?_
      refine og_aload X73 hx (hb hby at_70) rfl rfl ?_
      refine og_ifnonnullY X73 hx 77 (hb hby at_72) (by decide) (by decide) ?_
      show own_Go p e below _ T73 (mkF m 77 #[iv p1, iv p2, iv p3, iv p4, iv p5, iv 4, iv c1, iv c2, iv c3, iv c4, rv t71, iv (-1), rv t73] [])
      refine og_iload X73 hx (hb hby at_77) rfl ?_
      refine og_ifN X73 hx (hb hby at_79) (tlt (by decide)).2.1 ?_
      refine og_aload X73 hx (hb hby at_82) rfl rfl ?_
      refine own_callV X73 hx hZ73 hown73 (own_hw hw 74 rfl) (own_hw hw 75 rfl) (notFace_of_selects (args := #[]) (mvT hZ73 (own_hw hw 77 rfl))) (own_hw hw 77 rfl) (own_hw hw 76 rfl) (own_hw hw 78 rfl) (own_hw hw 9 rfl) (by decide) (b := t73) (argsL := []) (rest := []) (own_ie0 l Z a0 hw t73 vb73 _ _ T73.heap n0 Ft73 At73) rfl Et73 (by rw [hml]; rfl) (lenOf own_pd61835 rfl) rfl (hb hby at_84) (W := 0) (Nat.le_of_eq rfl) (by decide) ?_
      intro v74 T74 L74 X74 q74
      obtain ⟨rfl, N74q, e74⟩ := q74
      have N74 := Fr.app N73 N74q
      show own_Go p e below _ T74 (mkF m 87 #[iv p1, iv p2, iv p3, iv p4, iv p5, iv 4, iv c1, iv c2, iv c3, iv c4, rv t71, iv (-1), rv t73] [(.int 1)])
      exact own_retIH X74 hx hret hlk (hb hby at_87) rfl (by simp) hZ73 (own_EW hw) C73 e74 hS73 (Nat.le_refl _) (by decide) (by decide) (⟨rfl, N74⟩)
set_option maxRecDepth 65536 in
set_option maxHeartbeats 40000000 in
theorem comes_1 {Post : Tables → Env → Array Value → State → Outcome → State → Prop} (hpost : ∀ tb e args s v u, (limb_1_1.after args s (.returned v) u = true ∧ limb_1_2.after args s (.returned v) u = true ∧ True) → ReturnedEndW s (.returned v) u (Jvm.fieldLocs frame_1_writes args s ++ Jvm.arrayLocs frame_1_arrays args s ++ Jvm.staticLocs frame_1_statics s) 24 3200 → Post tb e args s (.returned v) u) :
    ArmFor flags0 classFile x code maxLocals ret World_1 tables_1 room_1 Calls_1 rest_1 Pre_1 Post := by
  intro l hfl _ _ p e ha hc hk s m args below hf hA hF happ hP
  obtain ⟨hcalls, hrest, hpre⟩ := hP
  obtain ⟨-, -, -, hnamed, -, -, -, hat⟩ := (Spec.applies_iff hf).mp happ
  obtain ⟨hg, hn⟩ := and_e (Cond.before_iff.mp (show (Jvm.Cond.and given_1 narrow_1).before args s = true from hpre))
  obtain ⟨hcount, hk0⟩ := and_e hg
  obtain ⟨w0, w1, w2, w3, w4, rfl⟩ : ∃ w0 w1 w2 w3 w4 : Value, args = #[w0, w1, w2, w3, w4] := by
    have hs : args.size = 5 := by simpa [Cond.value, given_1] using hcount
    obtain ⟨L⟩ := args
    match L, hs with
    | [w0, w1, w2, w3, w4], _ => exact ⟨w0, w1, w2, w3, w4, rfl⟩
  have hw := fun d (hd : d ∈ tables_1) => atoms_spec (ws := Jvm.Cond.code x code maxLocals ret :: tables_1) hat d (List.mem_cons_of_mem _ hd)
  have hfit : Fit s := fun {y c} hc i hi => by
    obtain ⟨ha, rfl⟩ := Array.getElem?_eq_some_iff.mp hc
    have q := List.all_eq_true.mp ((Array.all_eq_true_iff_forall_mem.mp hF) _ (Array.getElem_mem ha)) i (List.mem_range.mpr hi)
    simpa [Array.getElem?_eq_getElem hi] using q
  obtain ⟨hi0, hk1⟩ := and_e hk0
  obtain ⟨i0, ei0⟩ := is_v hi0
  obtain rfl : w0 = (.int i0) := Option.some.inj ei0
  obtain ⟨hi1, hk2⟩ := and_e hk1
  obtain ⟨i1, ei1⟩ := is_v hi1
  obtain rfl : w1 = (.int i1) := Option.some.inj ei1
  obtain ⟨hi2, hk3⟩ := and_e hk2
  obtain ⟨i2, ei2⟩ := is_v hi2
  obtain rfl : w2 = (.int i2) := Option.some.inj ei2
  obtain ⟨hi3, hk4⟩ := and_e hk3
  obtain ⟨i3, ei3⟩ := is_v hi3
  obtain rfl : w3 = (.int i3) := Option.some.inj ei3
  obtain ⟨i4, ei4⟩ := is_v hk4
  obtain rfl : w4 = (.int i4) := Option.some.inj ei4
  obtain ⟨hsets, hown0⟩ := atoms_of _ (rest_1_c_eq ▸ (show rest_1_c.before _ s = true from hrest))
  have z1 := not_v (Cond.before_iff.mp (hsets _ (List.mem_of_getElem? (i := 2) rfl)))
  obtain ⟨z, ez⟩ := is_v (Cond.before_iff.mp (hsets _ (List.mem_of_getElem? (i := 1) rfl)))
  have SC : Sta s s.heap "java/lang/String" "COMPACT_STRINGS" "Z" (.int z) := Sta.start ez (Or.inl (hsets _ (List.mem_of_getElem? (i := 0) rfl)))
  have hz : ¬ (z = (0 : Int32)) := gotF (Cond.eq_ints ez (Term.int_eval (0))) z1
  obtain ⟨sf, ef, rf⟩ := isR_v (Cond.before_iff.mp (hsets _ (List.mem_of_getElem? (i := 8) rfl)))
  have SF : Sta s s.heap "jdk/internal/util/Preconditions" "SIOOBE_FORMATTER" "Ljava/util/function/BiFunction;" sf := Sta.start ef (Or.inl (hsets _ (List.mem_of_getElem? (i := 7) rfl)))
  have hG : own_Gs s z sf := ⟨SC, hz, SF, rf⟩
  have CH0 : CHv s own_EL s.vm s.heap := CHv.start (own_EW hw) (fun p hp => hcalls.1 p ((by decide +kernel : ∀ p ∈ own_EL, p ∈ consts_1) p hp)) (hsets _ (List.mem_of_getElem? (i := 2) rfl)) (own_hw hw 22 rfl) (own_hw hw 8 rfl)
  obtain ⟨n, o, h1, h2, h3, _, L, rfl, ⟨rfl, N⟩, -, hq⟩ := (own_rm0 l s _ hw i0 i1 i2 i3 i4 z sf s.heap s.heap.size (Old.start s) hG) tables_1 p e ha hc hk s m _ below hf ((Spec.applies_iff_loose hf).mp happ).1 ⟨rfl, State.Warmed39.refl s, rfl, CH0⟩ trivial
  refine ⟨n, _, h1, h2, h3, hpost _ _ _ _ _ _ ⟨Cond.after_iff.mpr rfl, Cond.after_iff.mpr (eq_i res_at (Term.int_eval (1)) rfl), trivial⟩ ⟨hq.1, hq.2.1, hq.2.2.1, (hq.2.2.2.sift fun y hy => Or.inr (N y hy)).mono (by decide) (by decide)⟩⟩
theorem main_1_1 : Claimed_1_1 := comes_1 fun _ _ _ _ _ _ h hF => ⟨h.1, hF⟩
theorem main_1_2 : Claimed_1_2 := comes_1 fun _ _ _ _ _ _ h hF => ⟨h.2.1, hF⟩
end Jvm.Pilot.@@N@@
namespace Jvm.Pilot.@@N@@
open Jvm Jvm.ClassFile Sem Op Lib Jvm.Free Jvm.Stand Jvm.Pilot.@@N@@.Jvm.D
/-! MADE BY PROGRAM (witnessworld.py) out of the Statement's table words and the real class files: 25 classes; the members and pool entries that the words name. The judged class is class 1, her method 1. -/
namespace start1
open Jvm.ClassFile
def u (s : String) : CpInfo := .utf8 (stringToUtf16 s)
/-- a pool by its gaps: so many unusable entries, then the entry; so many at the end -/
def gap : Nat → List CpInfo → List CpInfo
  | 0, r => r
  | n + 1, r => .unusable :: gap n r
def poolList (es : List (Nat × CpInfo)) (last : Nat) : List CpInfo := es.foldr (fun e r => gap e.1 (e.2 :: r)) (gap last [])
def pool (es : List (Nat × CpInfo)) (last : Nat) : Array CpInfo := ⟨poolList es last⟩
def fileOf (pool : Array CpInfo) (this : Nat) (attrs : Array Attribute := #[]) (ms : Array MethodInfo := #[]) (fl : Nat := 33) (sup : Nat := 0) (ifs : Array Nat := #[]) (fds : Array FieldInfo := #[]) : ClassFile where
  minorVersion := 0
  majorVersion := 65
  constantPool := pool
  accessFlags := fl
  thisClass := this
  superClass := sup
  interfaces := ifs
  fields := fds
  methods := ms
  attributes := attrs
def plain (name : String) (sup : Option ClassId) : Class where
  name := name
  kind := .ordinary
  loader := none
  accessFlags := 33
  super := sup
  interfaces := #[]
  cf := none
  fields := #[]
  methods := #[]
  instanceTypes := #[]
  staticTypes := #[]
  resolved := #[]
  callSites := []
  init := .initialized
  statics := none
  mirror := none

def pool0 : Array CpInfo := pool [(5, u "<init>"), (0, u "()V"), (1, .class_ 10), (1, u "java/lang/Object")] 113

def k0c0 : Code := { maxStack := 0, maxLocals := 1, code := object_method_1_code, exceptionTable := #[], attributes := #[] }
def k0m0 : Method := { name := "<init>", desc := "()V", sig := { parameters := [], returnType := none }, accessFlags := 1, code := some k0c0 }
/-- java/lang/Object -/
def k0 : Class := { plain "java/lang/Object" none with
  accessFlags := 33
  interfaces := #[]
  cf := some (fileOf pool0 8 #[] #[{ accessFlags := 1, nameIndex := 5, descriptorIndex := 6, attributes := #[] }] 33 0 #[] #[])
  fields := #[]
  methods := #[k0m0]
  instanceTypes := #[]
  staticTypes := #[]
  resolved := Array.replicate 124 none
  statics := none }

def pool1 : Array CpInfo := pool [(2, .class_ 4), (1, u "java/lang/Object"), (0, u "<init>"), (0, u "()V"), (0, .methodref 8 9), (0, .class_ 10), (0, .nameAndType 11 12), (0, u "com/example/svazek/svazek/PackageFolderPlaceOfPinLaw"), (0, u "ch"), (0, u "(I)C"), (0, .methodref 8 14), (0, .nameAndType 15 16), (0, u "make"), (0, u "(ICCCC)Ljava/lang/String;"), (0, .methodref 8 18), (0, .nameAndType 19 20), (0, u "lastSlash"), (0, u "(ICCCC)I"), (0, .methodref 22 23), (0, .class_ 24), (0, .nameAndType 25 26), (0, u "com/example/svazek/svazek/PackageFolder"), (0, u "placeOf"), (0, u "(Ljava/lang/String;)Ljava/lang/String;"), (0, .methodref 28 29), (0, .class_ 30), (0, .nameAndType 31 32), (0, u "java/lang/String"), (0, u "isEmpty"), (0, u "()Z"), (0, .methodref 28 34), (0, .nameAndType 35 36), (0, u "length"), (0, u "()I"), (0, .methodref 28 38), (0, .nameAndType 39 12), (0, u "charAt"), (0, .methodref 28 41), (0, .nameAndType 5 42), (0, u "([C)V"), (2, u "law"), (0, u "(IIIII)Z")] 3

def k1m0 : Method := { name := "<init>", desc := "()V", sig := { parameters := [], returnType := none }, accessFlags := 1, code := none }
def k1c1 : Code := { maxStack := 5, maxLocals := 13, code := code, exceptionTable := #[], attributes := #[] }
def k1m1 : Method := { name := "law", desc := "(IIIII)Z", sig := { parameters := [.int, .int, .int, .int, .int], returnType := some .boolean }, accessFlags := 9, code := some k1c1 }
def k1c2 : Code := { maxStack := 2, maxLocals := 1, code := method_3_code, exceptionTable := #[], attributes := #[] }
def k1m2 : Method := { name := "ch", desc := "(I)C", sig := { parameters := [.int], returnType := some .char }, accessFlags := 10, code := some k1c2 }
def k1c3 : Code := { maxStack := 6, maxLocals := 5, code := method_4_code, exceptionTable := #[], attributes := #[] }
def k1m3 : Method := { name := "make", desc := "(ICCCC)Ljava/lang/String;", sig := { parameters := [.int, .char, .char, .char, .char], returnType := some (.object "java/lang/String") }, accessFlags := 10, code := some k1c3 }
def k1c4 : Code := { maxStack := 2, maxLocals := 5, code := method_5_code, exceptionTable := #[], attributes := #[] }
def k1m4 : Method := { name := "lastSlash", desc := "(ICCCC)I", sig := { parameters := [.int, .char, .char, .char, .char], returnType := some .int }, accessFlags := 10, code := some k1c4 }
/-- com/example/svazek/svazek/PackageFolderPlaceOfPinLaw -/
def k1 : Class := { plain "com/example/svazek/svazek/PackageFolderPlaceOfPinLaw" (some 0) with
  accessFlags := 49
  interfaces := #[]
  cf := some (fileOf pool1 8 #[] #[{ accessFlags := 1, nameIndex := 5, descriptorIndex := 6, attributes := #[] }, { accessFlags := 9, nameIndex := 45, descriptorIndex := 46, attributes := #[] }, { accessFlags := 10, nameIndex := 11, descriptorIndex := 12, attributes := #[] }, { accessFlags := 10, nameIndex := 15, descriptorIndex := 16, attributes := #[] }, { accessFlags := 10, nameIndex := 19, descriptorIndex := 20, attributes := #[] }] 49 2 #[] #[])
  fields := #[]
  methods := #[k1m0, k1m1, k1m2, k1m3, k1m4]
  instanceTypes := #[]
  staticTypes := #[]
  resolved := Array.replicate 50 none
  statics := none }

def pool2 : Array CpInfo := pool [(1, .class_ 2), (0, u "java/io/Serializable"), (0, .class_ 4), (0, u "java/lang/Object")] 2

/-- java/io/Serializable -/
def k2 : Class := { plain "java/io/Serializable" (some 0) with
  accessFlags := 1537
  interfaces := #[]
  cf := some (fileOf pool2 1 #[] #[] 1537 3 #[] #[])
  fields := #[]
  methods := #[]
  instanceTypes := #[]
  staticTypes := #[]
  resolved := Array.replicate 7 none
  statics := none }

def pool3 : Array CpInfo := pool [(1, .class_ 2), (0, u "java/lang/Comparable"), (0, .class_ 4), (0, u "java/lang/Object")] 7

/-- java/lang/Comparable -/
def k3 : Class := { plain "java/lang/Comparable" (some 0) with
  accessFlags := 1537
  interfaces := #[]
  cf := some (fileOf pool3 1 #[] #[] 1537 3 #[] #[])
  fields := #[]
  methods := #[]
  instanceTypes := #[]
  staticTypes := #[]
  resolved := Array.replicate 12 none
  statics := none }

def pool4 : Array CpInfo := pool [(2, .class_ 4), (1, u "java/lang/CharSequence"), (42, .class_ 48), (0, u "java/lang/CharSequence$1CodePointIterator"), (10, .class_ 60), (0, u "java/lang/CharSequence$1CharIterator"), (5, .class_ 67), (0, u "java/lang/Object")] 63

/-- java/lang/CharSequence -/
def k4 : Class := { plain "java/lang/CharSequence" (some 0) with
  accessFlags := 1537
  interfaces := #[]
  cf := some (fileOf pool4 2 #[.nestMembers #[47, 59]] #[] 1537 66 #[] #[])
  fields := #[]
  methods := #[]
  instanceTypes := #[]
  staticTypes := #[]
  resolved := Array.replicate 131 none
  statics := none }

def pool5 : Array CpInfo := pool [(1, .class_ 2), (0, u "java/lang/constant/Constable"), (0, .class_ 4), (0, u "java/lang/Object")] 6

/-- java/lang/constant/Constable -/
def k5 : Class := { plain "java/lang/constant/Constable" (some 0) with
  accessFlags := 1537
  interfaces := #[]
  cf := some (fileOf pool5 1 #[] #[] 1537 3 #[] #[])
  fields := #[]
  methods := #[]
  instanceTypes := #[]
  staticTypes := #[]
  resolved := Array.replicate 11 none
  statics := none }

def pool6 : Array CpInfo := pool [(1, .class_ 2), (0, u "java/lang/constant/ConstantDesc"), (0, .class_ 4), (0, u "java/lang/Object")] 32

/-- java/lang/constant/ConstantDesc -/
def k6 : Class := { plain "java/lang/constant/ConstantDesc" (some 0) with
  accessFlags := 1537
  interfaces := #[]
  cf := some (fileOf pool6 1 #[] #[] 1537 3 #[] #[])
  fields := #[]
  methods := #[]
  instanceTypes := #[]
  staticTypes := #[]
  resolved := Array.replicate 37 none
  statics := none }

def pool7 : Array CpInfo := pool [(1, .methodref 2 3), (0, .class_ 4), (0, .nameAndType 5 6), (0, u "java/lang/Object"), (0, u "<init>"), (0, u "()V"), (0, .string 8), (0, u ""), (0, .fieldref 10 11), (0, .class_ 12), (0, .nameAndType 13 14), (0, u "java/lang/String"), (0, u "value"), (0, u "[B"), (0, .fieldref 10 16), (0, .nameAndType 17 18), (0, u "coder"), (0, u "B"), (2, u "hash"), (0, u "I"), (2, u "hashIsZero"), (0, u "Z"), (0, .methodref 10 28), (0, .nameAndType 5 29), (0, u "([CIILjava/lang/Void;)V"), (8, .fieldref 10 39), (0, .nameAndType 40 26), (0, u "COMPACT_STRINGS"), (1, .class_ 44), (1, u "java/lang/StringUTF16"), (0, u "compress"), (1, .methodref 42 48), (0, .nameAndType 49 50), (0, u "coderFromArrayLen"), (0, u "([BI)B"), (46, u "([BII)I"), (9, .class_ 109), (1, u "java/lang/StringLatin1"), (32, u "()Z"), (34, .methodref 42 178), (0, .nameAndType 45 179), (0, u "([CII)[B"), (31, u "([BB)V"), (122, u "()I"), (0, .methodref 10 336), (0, .nameAndType 17 337), (0, u "()B"), (25, u "([BI)C"), (27, u "(II)V"), (35, u "(I)C"), (64, .methodref 10 493), (0, .nameAndType 494 142), (0, u "isLatin1"), (0, .methodref 107 496), (0, .nameAndType 497 363), (0, u "charAt"), (3, u "checkIndex"), (3, .methodref 10 506), (0, .nameAndType 507 334), (0, u "length"), (5, u "checkFromToIndex"), (7, .methodref 10 522), (0, .nameAndType 523 524), (0, u "checkBoundsBeginEnd"), (0, u "(III)V"), (50, .class_ 576), (0, u "java/lang/CharSequence"), (22, u "CASE_INSENSITIVE_ORDER"), (0, u "Ljava/util/Comparator;"), (35, u "(II)I"), (4, .methodref 10 642), (0, .nameAndType 643 636), (0, u "lastIndexOf"), (0, .methodref 107 645), (0, .nameAndType 643 97), (37, u "substring"), (0, u "(II)Ljava/lang/String;"), (0, .methodref 107 686), (0, .nameAndType 687 688), (0, u "newString"), (0, u "([BII)Ljava/lang/String;"), (3, u "isEmpty"), (72, u "(I)I"), (244, u "([C)V"), (42, .fieldref 1054 1055), (0, .class_ 1056), (0, .nameAndType 1057 1058), (0, u "jdk/internal/util/Preconditions"), (0, u "SIOOBE_FORMATTER"), (0, u "Ljava/util/function/BiFunction;"), (0, .methodref 1054 1060), (0, .nameAndType 501 1061), (0, u "(IILjava/util/function/BiFunction;)I"), (0, .methodref 1054 1063), (0, .nameAndType 513 1064), (0, u "(IIILjava/util/function/BiFunction;)I"), (36, u "serialPersistentFields"), (0, u "[Ljava/io/ObjectStreamField;"), (0, .class_ 1104), (0, u "java/lang/String$CaseInsensitiveComparator"), (1, .class_ 1107), (0, u "java/io/Serializable"), (0, .class_ 1109), (0, u "java/lang/Comparable"), (0, .class_ 1111), (0, u "java/lang/constant/Constable"), (0, .class_ 1113), (0, u "java/lang/constant/ConstantDesc"), (2, u "serialVersionUID"), (0, u "J"), (3, u "REPL"), (0, u "C"), (2, u "LATIN1"), (1, u "UTF16")] 323

def k7m0 : Method := { name := "<init>", desc := "()V", sig := { parameters := [], returnType := none }, accessFlags := 1, code := none }
def k7c1 : Code := { maxStack := 5, maxLocals := 2, code := jdk_42_method_3_code, exceptionTable := #[], attributes := #[] }
def k7m1 : Method := { name := "<init>", desc := "([C)V", sig := { parameters := [(.array .char)], returnType := none }, accessFlags := 1, code := some k7c1 }
def k7c2 : Code := { maxStack := 2, maxLocals := 1, code := jdk_42_method_54_code, exceptionTable := #[], attributes := #[] }
def k7m2 : Method := { name := "length", desc := "()I", sig := { parameters := [], returnType := some .int }, accessFlags := 1, code := some k7c2 }
def k7c3 : Code := { maxStack := 1, maxLocals := 1, code := jdk_42_method_55_code, exceptionTable := #[], attributes := #[] }
def k7m3 : Method := { name := "isEmpty", desc := "()Z", sig := { parameters := [], returnType := some .boolean }, accessFlags := 1, code := some k7c3 }
def k7c4 : Code := { maxStack := 2, maxLocals := 2, code := jdk_42_method_56_code, exceptionTable := #[], attributes := #[] }
def k7m4 : Method := { name := "charAt", desc := "(I)C", sig := { parameters := [.int], returnType := some .char }, accessFlags := 1, code := some k7c4 }
def k7c5 : Code := { maxStack := 4, maxLocals := 2, code := jdk_42_method_82_code, exceptionTable := #[], attributes := #[] }
def k7m5 : Method := { name := "lastIndexOf", desc := "(I)I", sig := { parameters := [.int], returnType := some .int }, accessFlags := 1, code := some k7c5 }
def k7c6 : Code := { maxStack := 3, maxLocals := 3, code := jdk_42_method_83_code, exceptionTable := #[], attributes := #[] }
def k7m6 : Method := { name := "lastIndexOf", desc := "(II)I", sig := { parameters := [.int, .int], returnType := some .int }, accessFlags := 1, code := some k7c6 }
def k7c7 : Code := { maxStack := 3, maxLocals := 5, code := jdk_42_method_92_code, exceptionTable := #[], attributes := #[] }
def k7m7 : Method := { name := "substring", desc := "(II)Ljava/lang/String;", sig := { parameters := [.int, .int], returnType := some (.object "java/lang/String") }, accessFlags := 1, code := some k7c7 }
def k7c8 : Code := { maxStack := 4, maxLocals := 6, code := jdk_42_method_149_code, exceptionTable := #[], attributes := #[] }
def k7m8 : Method := { name := "<init>", desc := "([CIILjava/lang/Void;)V", sig := { parameters := [(.array .char), .int, .int, (.object "java/lang/Void")], returnType := none }, accessFlags := 2, code := some k7c8 }
def k7c9 : Code := { maxStack := 2, maxLocals := 3, code := jdk_42_method_151_code, exceptionTable := #[], attributes := #[] }
def k7m9 : Method := { name := "<init>", desc := "([BB)V", sig := { parameters := [(.array .byte), .byte], returnType := none }, accessFlags := 0, code := some k7c9 }
def k7c10 : Code := { maxStack := 1, maxLocals := 1, code := jdk_42_method_152_code, exceptionTable := #[], attributes := #[] }
def k7m10 : Method := { name := "coder", desc := "()B", sig := { parameters := [], returnType := some .byte }, accessFlags := 0, code := some k7c10 }
def k7c11 : Code := { maxStack := 1, maxLocals := 1, code := jdk_42_method_154_code, exceptionTable := #[], attributes := #[] }
def k7m11 : Method := { name := "isLatin1", desc := "()Z", sig := { parameters := [], returnType := some .boolean }, accessFlags := 0, code := some k7c11 }
def k7c12 : Code := { maxStack := 3, maxLocals := 2, code := jdk_42_method_155_code, exceptionTable := #[], attributes := #[] }
def k7m12 : Method := { name := "checkIndex", desc := "(II)V", sig := { parameters := [.int, .int], returnType := none }, accessFlags := 8, code := some k7c12 }
def k7c13 : Code := { maxStack := 4, maxLocals := 3, code := jdk_42_method_158_code, exceptionTable := #[], attributes := #[] }
def k7m13 : Method := { name := "checkBoundsBeginEnd", desc := "(III)V", sig := { parameters := [.int, .int, .int], returnType := none }, accessFlags := 8, code := some k7c13 }
/-- java/lang/String -/
def k7 : Class := { plain "java/lang/String" (some 0) with
  accessFlags := 49
  interfaces := #[2, 3, 4, 5, 6]
  cf := some (fileOf pool7 10 #[.nestMembers #[1103]] #[{ accessFlags := 1, nameIndex := 5, descriptorIndex := 6, attributes := #[] }, { accessFlags := 1, nameIndex := 5, descriptorIndex := 1010, attributes := #[] }, { accessFlags := 1, nameIndex := 507, descriptorIndex := 334, attributes := #[] }, { accessFlags := 1, nameIndex := 692, descriptorIndex := 142, attributes := #[] }, { accessFlags := 1, nameIndex := 497, descriptorIndex := 427, attributes := #[] }, { accessFlags := 1, nameIndex := 643, descriptorIndex := 765, attributes := #[] }, { accessFlags := 1, nameIndex := 643, descriptorIndex := 636, attributes := #[] }, { accessFlags := 1, nameIndex := 683, descriptorIndex := 684, attributes := #[] }, { accessFlags := 2, nameIndex := 5, descriptorIndex := 29, attributes := #[] }, { accessFlags := 0, nameIndex := 5, descriptorIndex := 211, attributes := #[] }, { accessFlags := 0, nameIndex := 17, descriptorIndex := 337, attributes := #[] }, { accessFlags := 0, nameIndex := 494, descriptorIndex := 142, attributes := #[] }, { accessFlags := 8, nameIndex := 501, descriptorIndex := 391, attributes := #[] }, { accessFlags := 8, nameIndex := 523, descriptorIndex := 524, attributes := #[] }] 49 2 #[1106, 1108, 575, 1110, 1112] #[{ accessFlags := 18, nameIndex := 13, descriptorIndex := 14, attributes := #[] }, { accessFlags := 18, nameIndex := 17, descriptorIndex := 18, attributes := #[] }, { accessFlags := 2, nameIndex := 21, descriptorIndex := 22, attributes := #[] }, { accessFlags := 2, nameIndex := 25, descriptorIndex := 26, attributes := #[] }, { accessFlags := 26, nameIndex := 1116, descriptorIndex := 1117, attributes := #[] }, { accessFlags := 24, nameIndex := 40, descriptorIndex := 26, attributes := #[] }, { accessFlags := 26, nameIndex := 1101, descriptorIndex := 1102, attributes := #[] }, { accessFlags := 26, nameIndex := 1121, descriptorIndex := 1122, attributes := #[] }, { accessFlags := 25, nameIndex := 599, descriptorIndex := 600, attributes := #[] }, { accessFlags := 24, nameIndex := 1125, descriptorIndex := 18, attributes := #[] }, { accessFlags := 24, nameIndex := 1127, descriptorIndex := 18, attributes := #[] }])
  fields := #[{ name := "value", type := (.array .byte), accessFlags := 18, slot := 0, constantValue := 0 }, { name := "coder", type := .byte, accessFlags := 18, slot := 1, constantValue := 0 }, { name := "hash", type := .int, accessFlags := 2, slot := 2, constantValue := 0 }, { name := "hashIsZero", type := .boolean, accessFlags := 2, slot := 3, constantValue := 0 }, { name := "serialVersionUID", type := .long, accessFlags := 26, slot := 0, constantValue := 0 }, { name := "COMPACT_STRINGS", type := .boolean, accessFlags := 24, slot := 1, constantValue := 0 }, { name := "serialPersistentFields", type := (.array (.object "java/io/ObjectStreamField")), accessFlags := 26, slot := 2, constantValue := 0 }, { name := "REPL", type := .char, accessFlags := 26, slot := 3, constantValue := 0 }, { name := "CASE_INSENSITIVE_ORDER", type := (.object "java/util/Comparator"), accessFlags := 25, slot := 4, constantValue := 0 }, { name := "LATIN1", type := .byte, accessFlags := 24, slot := 5, constantValue := 0 }, { name := "UTF16", type := .byte, accessFlags := 24, slot := 6, constantValue := 0 }]
  methods := #[k7m0, k7m1, k7m2, k7m3, k7m4, k7m5, k7m6, k7m7, k7m8, k7m9, k7m10, k7m11, k7m12, k7m13]
  instanceTypes := #[(.array .byte), .byte, .int, .boolean]
  staticTypes := #[.long, .boolean, (.array (.object "java/io/ObjectStreamField")), .char, (.object "java/util/Comparator"), .byte, .byte]
  resolved := Array.replicate 1451 none
  statics := some 0 }

def pool8 : Array CpInfo := pool [(1, .class_ 2), (0, u "java/lang/AutoCloseable"), (0, .class_ 4), (0, u "java/lang/Object")] 7

/-- java/lang/AutoCloseable -/
def k8 : Class := { plain "java/lang/AutoCloseable" (some 0) with
  accessFlags := 1537
  interfaces := #[]
  cf := some (fileOf pool8 1 #[] #[] 1537 3 #[] #[])
  fields := #[]
  methods := #[]
  instanceTypes := #[]
  staticTypes := #[]
  resolved := Array.replicate 12 none
  statics := none }

def pool9 : Array CpInfo := pool [(1, .class_ 2), (0, u "java/io/Closeable"), (0, .class_ 4), (0, u "java/lang/Object"), (0, .class_ 6), (0, u "java/lang/AutoCloseable")] 7

/-- java/io/Closeable -/
def k9 : Class := { plain "java/io/Closeable" (some 0) with
  accessFlags := 1537
  interfaces := #[8]
  cf := some (fileOf pool9 1 #[] #[] 1537 3 #[5] #[])
  fields := #[]
  methods := #[]
  instanceTypes := #[]
  staticTypes := #[]
  resolved := Array.replicate 14 none
  statics := none }

def pool10 : Array CpInfo := pool [(2, .class_ 4), (1, u "java/lang/Object"), (6, .class_ 13), (1, u "com/example/svazek/svazek/PackageFolder"), (0, u "digests"), (0, u "Ljava/util/Map;"), (2, u "name"), (0, u "Ljava/lang/String;"), (8, u "folders"), (0, u "Ljava/util/NavigableSet;"), (6, u "sizes"), (0, u "Ljava/util/NavigableMap;"), (2, u "leftOut"), (2, u "source"), (0, u "Lcom/example/svazek/svazek/PackageFolder$Source;"), (42, .class_ 88), (0, u "com/example/svazek/svazek/PackageFolder$1"), (34, .class_ 125), (1, u "java/lang/String"), (9, u "(I)I"), (22, .methodref 123 159), (0, .nameAndType 160 135), (0, u "lastIndexOf"), (0, .string 162), (0, u ""), (0, .methodref 123 164), (0, .nameAndType 165 166), (0, u "substring"), (0, u "(II)Ljava/lang/String;"), (75, .class_ 244), (1, u "com/example/svazek/svazek/PackageFolder$Source"), (3, u "feed"), (0, u "Lcom/example/svazek/svazek/DigestFeed;"), (18, u "(Ljava/lang/String;)Ljava/lang/String;"), (123, .class_ 393), (0, u "java/io/Closeable"), (0, u "READ_SIZE"), (0, u "I"), (18, u "placeOf"), (22, .class_ 438), (0, u "com/example/svazek/svazek/PackageFolder$LeftOut")] 38

def k10c0 : Code := { maxStack := 3, maxLocals := 2, code := prog_41_method_7_code, exceptionTable := #[], attributes := #[] }
def k10m0 : Method := { name := "placeOf", desc := "(Ljava/lang/String;)Ljava/lang/String;", sig := { parameters := [(.object "java/lang/String")], returnType := some (.object "java/lang/String") }, accessFlags := 8, code := some k10c0 }
/-- com/example/svazek/svazek/PackageFolder -/
def k10 : Class := { plain "com/example/svazek/svazek/PackageFolder" (some 0) with
  accessFlags := 48
  interfaces := #[9]
  cf := some (fileOf pool10 11 #[.nestMembers #[242, 437, 87]] #[{ accessFlags := 8, nameIndex := 414, descriptorIndex := 268, attributes := #[] }] 48 2 #[392] #[{ accessFlags := 24, nameIndex := 394, descriptorIndex := 395, attributes := #[] }, { accessFlags := 18, nameIndex := 18, descriptorIndex := 19, attributes := #[] }, { accessFlags := 18, nameIndex := 28, descriptorIndex := 29, attributes := #[] }, { accessFlags := 18, nameIndex := 36, descriptorIndex := 37, attributes := #[] }, { accessFlags := 18, nameIndex := 40, descriptorIndex := 37, attributes := #[] }, { accessFlags := 18, nameIndex := 43, descriptorIndex := 44, attributes := #[] }, { accessFlags := 18, nameIndex := 14, descriptorIndex := 15, attributes := #[] }, { accessFlags := 2, nameIndex := 248, descriptorIndex := 249, attributes := #[] }])
  fields := #[{ name := "READ_SIZE", type := .int, accessFlags := 24, slot := 0, constantValue := 0 }, { name := "name", type := (.object "java/lang/String"), accessFlags := 18, slot := 0, constantValue := 0 }, { name := "folders", type := (.object "java/util/NavigableSet"), accessFlags := 18, slot := 1, constantValue := 0 }, { name := "sizes", type := (.object "java/util/NavigableMap"), accessFlags := 18, slot := 2, constantValue := 0 }, { name := "leftOut", type := (.object "java/util/NavigableMap"), accessFlags := 18, slot := 3, constantValue := 0 }, { name := "source", type := (.object "com/example/svazek/svazek/PackageFolder$Source"), accessFlags := 18, slot := 4, constantValue := 0 }, { name := "digests", type := (.object "java/util/Map"), accessFlags := 18, slot := 5, constantValue := 0 }, { name := "feed", type := (.object "com/example/svazek/svazek/DigestFeed"), accessFlags := 2, slot := 6, constantValue := 0 }]
  methods := #[k10m0]
  instanceTypes := #[(.object "java/lang/String"), (.object "java/util/NavigableSet"), (.object "java/util/NavigableMap"), (.object "java/util/NavigableMap"), (.object "com/example/svazek/svazek/PackageFolder$Source"), (.object "java/util/Map"), (.object "com/example/svazek/svazek/DigestFeed")]
  staticTypes := #[.int]
  resolved := Array.replicate 477 none
  statics := none }

def pool11 : Array CpInfo := pool [(1, .class_ 2), (0, u "java/lang/String"), (1, .class_ 6), (1, u "java/lang/Object"), (0, u "<init>"), (0, u "()V"), (0, .methodref 1 10), (0, .nameAndType 11 12), (0, u "checkIndex"), (0, u "(II)V"), (1, .class_ 16), (1, u "java/lang/StringLatin1"), (21, .methodref 39 40), (0, .class_ 41), (0, .nameAndType 42 43), (0, u "java/lang/Math"), (0, u "min"), (0, u "(II)I"), (9, u "([BI)C"), (34, .methodref 14 89), (0, .nameAndType 90 91), (0, u "canEncode"), (0, u "(I)Z"), (20, .methodref 1 113), (0, .nameAndType 7 114), (0, u "([BB)V"), (6, u "$assertionsDisabled"), (0, u "Z"), (8, .class_ 133), (1, u "java/util/Arrays"), (17, .string 152), (0, u ""), (43, u "newString"), (0, u "([BII)Ljava/lang/String;"), (23, .class_ 223), (1, u "java/lang/StringLatin1$LinesSpliterator"), (8, .methodref 131 233), (0, .nameAndType 234 235), (0, u "copyOfRange"), (0, u "([BII)[B"), (16, u "charAt"), (8, u "([BII)I"), (47, u "lastIndexOf"), (80, .class_ 391), (0, u "java/lang/StringLatin1$CharsSpliterator")] 3

def k11m0 : Method := { name := "<init>", desc := "()V", sig := { parameters := [], returnType := none }, accessFlags := 0, code := none }
def k11c1 : Code := { maxStack := 2, maxLocals := 2, code := jdk_43_method_2_code, exceptionTable := #[], attributes := #[] }
def k11m1 : Method := { name := "charAt", desc := "([BI)C", sig := { parameters := [(.array .byte), .int], returnType := some .char }, accessFlags := 9, code := some k11c1 }
def k11c2 : Code := { maxStack := 2, maxLocals := 1, code := jdk_43_method_4_code, exceptionTable := #[], attributes := #[] }
def k11m2 : Method := { name := "canEncode", desc := "(I)Z", sig := { parameters := [.int], returnType := some .boolean }, accessFlags := 9, code := some k11c2 }
def k11c3 : Code := { maxStack := 3, maxLocals := 4, code := jdk_43_method_27_code, exceptionTable := #[], attributes := #[] }
def k11m3 : Method := { name := "lastIndexOf", desc := "([BII)I", sig := { parameters := [(.array .byte), .int, .int], returnType := some .int }, accessFlags := 9, code := some k11c3 }
def k11c4 : Code := { maxStack := 6, maxLocals := 3, code := jdk_43_method_47_code, exceptionTable := #[], attributes := #[] }
def k11m4 : Method := { name := "newString", desc := "([BII)Ljava/lang/String;", sig := { parameters := [(.array .byte), .int, .int], returnType := some (.object "java/lang/String") }, accessFlags := 9, code := some k11c4 }
/-- java/lang/StringLatin1 -/
def k11 : Class := { plain "java/lang/StringLatin1" (some 0) with
  accessFlags := 48
  interfaces := #[]
  cf := some (fileOf pool11 14 #[.nestMembers #[390, 221]] #[{ accessFlags := 0, nameIndex := 7, descriptorIndex := 8, attributes := #[] }, { accessFlags := 9, nameIndex := 252, descriptorIndex := 53, attributes := #[] }, { accessFlags := 9, nameIndex := 90, descriptorIndex := 91, attributes := #[] }, { accessFlags := 9, nameIndex := 309, descriptorIndex := 261, attributes := #[] }, { accessFlags := 9, nameIndex := 196, descriptorIndex := 197, attributes := #[] }] 48 4 #[] #[{ accessFlags := 4120, nameIndex := 121, descriptorIndex := 122, attributes := #[] }])
  fields := #[{ name := "$assertionsDisabled", type := .boolean, accessFlags := 4120, slot := 0, constantValue := 0 }]
  methods := #[k11m0, k11m1, k11m2, k11m3, k11m4]
  instanceTypes := #[]
  staticTypes := #[.boolean]
  resolved := Array.replicate 395 none
  statics := none }

def pool12 : Array CpInfo := pool [(1, .class_ 2), (0, u "java/lang/Math"), (1, .class_ 6), (1, u "java/lang/Object"), (0, u "<init>"), (0, u "()V"), (89, .class_ 100), (1, u "java/lang/Math$RandomNumberGeneratorHolder"), (71, u "negativeZeroFloatBits"), (0, u "J"), (2, u "negativeZeroDoubleBits"), (24, u "min"), (43, u "$assertionsDisabled"), (0, u "Z"), (88, u "(II)I"), (2, u "twoToTheDoubleScaleDown"), (0, u "D"), (4, u "twoToTheDoubleScaleUp"), (9, u "E"), (3, u "PI"), (2, u "TAU"), (2, u "DEGREES_TO_RADIANS"), (0, u "RADIANS_TO_DEGREES")] 94

def k12m0 : Method := { name := "<init>", desc := "()V", sig := { parameters := [], returnType := none }, accessFlags := 2, code := none }
def k12c1 : Code := { maxStack := 2, maxLocals := 2, code := jdk_29_method_69_code, exceptionTable := #[], attributes := #[] }
def k12m1 : Method := { name := "min", desc := "(II)I", sig := { parameters := [.int, .int], returnType := some .int }, accessFlags := 9, code := some k12c1 }
/-- java/lang/Math -/
def k12 : Class := { plain "java/lang/Math" (some 0) with
  accessFlags := 49
  interfaces := #[]
  cf := some (fileOf pool12 1 #[.nestMembers #[98]] #[{ accessFlags := 2, nameIndex := 7, descriptorIndex := 8, attributes := #[] }, { accessFlags := 9, nameIndex := 201, descriptorIndex := 335, attributes := #[] }] 49 4 #[] #[{ accessFlags := 25, nameIndex := 354, descriptorIndex := 339, attributes := #[] }, { accessFlags := 25, nameIndex := 358, descriptorIndex := 339, attributes := #[] }, { accessFlags := 25, nameIndex := 361, descriptorIndex := 339, attributes := #[] }, { accessFlags := 26, nameIndex := 364, descriptorIndex := 339, attributes := #[] }, { accessFlags := 26, nameIndex := 365, descriptorIndex := 339, attributes := #[] }, { accessFlags := 26, nameIndex := 172, descriptorIndex := 173, attributes := #[] }, { accessFlags := 26, nameIndex := 176, descriptorIndex := 173, attributes := #[] }, { accessFlags := 8, nameIndex := 344, descriptorIndex := 339, attributes := #[] }, { accessFlags := 8, nameIndex := 338, descriptorIndex := 339, attributes := #[] }, { accessFlags := 4120, nameIndex := 245, descriptorIndex := 246, attributes := #[] }])
  fields := #[{ name := "E", type := .double, accessFlags := 25, slot := 0, constantValue := 0 }, { name := "PI", type := .double, accessFlags := 25, slot := 1, constantValue := 0 }, { name := "TAU", type := .double, accessFlags := 25, slot := 2, constantValue := 0 }, { name := "DEGREES_TO_RADIANS", type := .double, accessFlags := 26, slot := 3, constantValue := 0 }, { name := "RADIANS_TO_DEGREES", type := .double, accessFlags := 26, slot := 4, constantValue := 0 }, { name := "negativeZeroFloatBits", type := .long, accessFlags := 26, slot := 5, constantValue := 0 }, { name := "negativeZeroDoubleBits", type := .long, accessFlags := 26, slot := 6, constantValue := 0 }, { name := "twoToTheDoubleScaleUp", type := .double, accessFlags := 8, slot := 7, constantValue := 0 }, { name := "twoToTheDoubleScaleDown", type := .double, accessFlags := 8, slot := 8, constantValue := 0 }, { name := "$assertionsDisabled", type := .boolean, accessFlags := 4120, slot := 9, constantValue := 0 }]
  methods := #[k12m0, k12m1]
  instanceTypes := #[]
  staticTypes := #[.double, .double, .double, .double, .double, .long, .long, .double, .double, .boolean]
  resolved := Array.replicate 460 none
  statics := none }

def pool13 : Array CpInfo := pool [(6, .class_ 8), (1, u "java/lang/Object"), (0, u "<init>"), (0, u "()V"), (1, .class_ 14), (1, u "java/lang/StringUTF16"), (31, u "$assertionsDisabled"), (0, u "Z"), (13, u "HI_BYTE_SHIFT"), (0, u "I"), (2, u "LO_BYTE_SHIFT"), (49, .methodref 12 116), (0, .nameAndType 117 118), (0, u "compress"), (0, u "([CI[BII)I"), (3, u "([CII)[B"), (138, u "coderFromArrayLen"), (0, u "([BI)B"), (106, .class_ 371), (1, u "java/lang/StringUTF16$LinesSpliterator"), (58, u "MAX_LENGTH"), (196, .class_ 628), (0, u "java/lang/StringUTF16$CodePointsSpliterator"), (0, .class_ 630), (0, u "java/lang/StringUTF16$CharsSpliterator")] 4

def k13m0 : Method := { name := "<init>", desc := "()V", sig := { parameters := [], returnType := none }, accessFlags := 0, code := none }
def k13c1 : Code := { maxStack := 2, maxLocals := 2, code := jdk_52_method_15_code, exceptionTable := #[], attributes := #[] }
def k13m1 : Method := { name := "coderFromArrayLen", desc := "([BI)B", sig := { parameters := [(.array .byte), .int], returnType := some .byte }, accessFlags := 8, code := some k13c1 }
def k13c2 : Code := { maxStack := 5, maxLocals := 6, code := jdk_52_method_16_code, exceptionTable := #[], attributes := #[] }
def k13m2 : Method := { name := "compress", desc := "([CII)[B", sig := { parameters := [(.array .char), .int, .int], returnType := some (.array .byte) }, accessFlags := 9, code := some k13c2 }
def k13c3 : Code := { maxStack := 3, maxLocals := 7, code := jdk_52_method_21_code, exceptionTable := #[], attributes := #[] }
def k13m3 : Method := { name := "compress", desc := "([CI[BII)I", sig := { parameters := [(.array .char), .int, (.array .byte), .int, .int], returnType := some .int }, accessFlags := 9, code := some k13c3 }
/-- java/lang/StringUTF16 -/
def k13 : Class := { plain "java/lang/StringUTF16" (some 0) with
  accessFlags := 48
  interfaces := #[]
  cf := some (fileOf pool13 12 #[.nestMembers #[627, 629, 369]] #[{ accessFlags := 0, nameIndex := 9, descriptorIndex := 10, attributes := #[] }, { accessFlags := 8, nameIndex := 261, descriptorIndex := 262, attributes := #[] }, { accessFlags := 9, nameIndex := 117, descriptorIndex := 122, attributes := #[] }, { accessFlags := 9, nameIndex := 117, descriptorIndex := 118, attributes := #[] }] 48 6 #[] #[{ accessFlags := 26, nameIndex := 61, descriptorIndex := 62, attributes := #[] }, { accessFlags := 26, nameIndex := 65, descriptorIndex := 62, attributes := #[] }, { accessFlags := 24, nameIndex := 430, descriptorIndex := 62, attributes := #[] }, { accessFlags := 4120, nameIndex := 46, descriptorIndex := 47, attributes := #[] }])
  fields := #[{ name := "HI_BYTE_SHIFT", type := .int, accessFlags := 26, slot := 0, constantValue := 0 }, { name := "LO_BYTE_SHIFT", type := .int, accessFlags := 26, slot := 1, constantValue := 0 }, { name := "MAX_LENGTH", type := .int, accessFlags := 24, slot := 2, constantValue := 0 }, { name := "$assertionsDisabled", type := .boolean, accessFlags := 4120, slot := 3, constantValue := 0 }]
  methods := #[k13m0, k13m1, k13m2, k13m3]
  instanceTypes := #[]
  staticTypes := #[.int, .int, .int, .boolean]
  resolved := Array.replicate 635 none
  statics := none }

def pool14 : Array CpInfo := pool [(2, .class_ 4), (1, u "java/lang/Object"), (0, u "<init>"), (0, u "()V"), (17, .class_ 26), (1, u "jdk/internal/util/Preconditions"), (6, u "checkIndex"), (13, u "checkFromToIndex"), (7, .class_ 56), (0, u "jdk/internal/util/Preconditions$4"), (57, .class_ 115), (0, u "jdk/internal/util/Preconditions$1"), (7, u "SIOOBE_FORMATTER"), (0, u "Ljava/util/function/BiFunction;"), (0, .class_ 126), (0, u "jdk/internal/util/Preconditions$2"), (3, u "AIOOBE_FORMATTER"), (0, .class_ 132), (0, u "jdk/internal/util/Preconditions$3"), (3, u "IOOBE_FORMATTER"), (41, u "(IILjava/util/function/BiFunction;)I"), (4, u "(IIILjava/util/function/BiFunction;)I")] 10

def k14m0 : Method := { name := "<init>", desc := "()V", sig := { parameters := [], returnType := none }, accessFlags := 1, code := none }
def k14c1 : Code := { maxStack := 3, maxLocals := 3, code := jdk_41_method_11_code, exceptionTable := #[], attributes := #[] }
def k14m1 : Method := { name := "checkIndex", desc := "(IILjava/util/function/BiFunction;)I", sig := { parameters := [.int, .int, (.object "java/util/function/BiFunction")], returnType := some .int }, accessFlags := 9, code := some k14c1 }
def k14c2 : Code := { maxStack := 4, maxLocals := 4, code := jdk_41_method_12_code, exceptionTable := #[], attributes := #[] }
def k14m2 : Method := { name := "checkFromToIndex", desc := "(IIILjava/util/function/BiFunction;)I", sig := { parameters := [.int, .int, .int, (.object "java/util/function/BiFunction")], returnType := some .int }, accessFlags := 9, code := some k14c2 }
/-- jdk/internal/util/Preconditions -/
def k14 : Class := { plain "jdk/internal/util/Preconditions" (some 0) with
  accessFlags := 33
  interfaces := #[]
  cf := some (fileOf pool14 24 #[.nestMembers #[55, 131, 125, 114]] #[{ accessFlags := 1, nameIndex := 5, descriptorIndex := 6, attributes := #[] }, { accessFlags := 9, nameIndex := 33, descriptorIndex := 178, attributes := #[] }, { accessFlags := 9, nameIndex := 47, descriptorIndex := 183, attributes := #[] }] 33 2 #[] #[{ accessFlags := 25, nameIndex := 123, descriptorIndex := 124, attributes := #[] }, { accessFlags := 25, nameIndex := 130, descriptorIndex := 124, attributes := #[] }, { accessFlags := 25, nameIndex := 136, descriptorIndex := 124, attributes := #[] }])
  fields := #[{ name := "SIOOBE_FORMATTER", type := (.object "java/util/function/BiFunction"), accessFlags := 25, slot := 0, constantValue := 0 }, { name := "AIOOBE_FORMATTER", type := (.object "java/util/function/BiFunction"), accessFlags := 25, slot := 1, constantValue := 0 }, { name := "IOOBE_FORMATTER", type := (.object "java/util/function/BiFunction"), accessFlags := 25, slot := 2, constantValue := 0 }]
  methods := #[k14m0, k14m1, k14m2]
  instanceTypes := #[]
  staticTypes := #[(.object "java/util/function/BiFunction"), (.object "java/util/function/BiFunction"), (.object "java/util/function/BiFunction")]
  resolved := Array.replicate 194 none
  statics := some 1 }

def pool15 : Array CpInfo := pool [(2, .class_ 4), (1, u "java/lang/Object"), (0, u "<init>"), (0, u "()V"), (7, .class_ 16), (1, u "java/util/Arrays"), (57, .class_ 76), (1, u "java/util/Arrays$NaturalOrder"), (36, .class_ 115), (1, u "java/util/Arrays$LegacyMergeSort"), (1, u "Z"), (21, u "copyOfRange"), (10, .methodref 151 152), (0, .class_ 153), (0, .nameAndType 154 155), (0, u "java/lang/System"), (0, u "arraycopy"), (0, u "(Ljava/lang/Object;ILjava/lang/Object;II)V"), (148, .methodref 305 306), (0, .class_ 307), (0, .nameAndType 308 309), (0, u "java/lang/Math"), (0, u "min"), (0, u "(II)I"), (29, .methodref 14 340), (0, .nameAndType 341 342), (0, u "copyOfRangeByte"), (0, u "([BII)[B"), (0, .methodref 14 344), (0, .nameAndType 345 346), (0, u "checkLength"), (0, u "(II)V"), (28, .class_ 376), (0, u "java/util/Arrays$ArrayList"), (68, u "$assertionsDisabled"), (269, u "MIN_ARRAY_SORT_GRAN"), (0, u "I"), (2, u "INSERTIONSORT_THRESHOLD"), (255, .class_ 976), (0, u "java/util/Arrays$ArrayItr")] 52

def k15m0 : Method := { name := "<init>", desc := "()V", sig := { parameters := [], returnType := none }, accessFlags := 2, code := none }
def k15c1 : Code := { maxStack := 4, maxLocals := 2, code := jdk_65_method_131_code, exceptionTable := #[], attributes := #[] }
def k15m1 : Method := { name := "checkLength", desc := "(II)V", sig := { parameters := [.int, .int], returnType := none }, accessFlags := 10, code := some k15c1 }
def k15c2 : Code := { maxStack := 3, maxLocals := 3, code := jdk_65_method_132_code, exceptionTable := #[], attributes := #[] }
def k15m2 : Method := { name := "copyOfRange", desc := "([BII)[B", sig := { parameters := [(.array .byte), .int, .int], returnType := some (.array .byte) }, accessFlags := 9, code := some k15c2 }
def k15c3 : Code := { maxStack := 6, maxLocals := 5, code := jdk_65_method_133_code, exceptionTable := #[], attributes := #[] }
def k15m3 : Method := { name := "copyOfRangeByte", desc := "([BII)[B", sig := { parameters := [(.array .byte), .int, .int], returnType := some (.array .byte) }, accessFlags := 10, code := some k15c3 }
/-- java/util/Arrays -/
def k15 : Class := { plain "java/util/Arrays" (some 0) with
  accessFlags := 49
  interfaces := #[]
  cf := some (fileOf pool15 14 #[.nestMembers #[975, 375, 113, 74]] #[{ accessFlags := 2, nameIndex := 5, descriptorIndex := 6, attributes := #[] }, { accessFlags := 10, nameIndex := 345, descriptorIndex := 346, attributes := #[] }, { accessFlags := 9, nameIndex := 139, descriptorIndex := 342, attributes := #[] }, { accessFlags := 10, nameIndex := 341, descriptorIndex := 342, attributes := #[] }] 49 2 #[] #[{ accessFlags := 26, nameIndex := 715, descriptorIndex := 716, attributes := #[] }, { accessFlags := 26, nameIndex := 719, descriptorIndex := 716, attributes := #[] }, { accessFlags := 4120, nameIndex := 445, descriptorIndex := 117, attributes := #[] }])
  fields := #[{ name := "MIN_ARRAY_SORT_GRAN", type := .int, accessFlags := 26, slot := 0, constantValue := 0 }, { name := "INSERTIONSORT_THRESHOLD", type := .int, accessFlags := 26, slot := 1, constantValue := 0 }, { name := "$assertionsDisabled", type := .boolean, accessFlags := 4120, slot := 2, constantValue := 0 }]
  methods := #[k15m0, k15m1, k15m2, k15m3]
  instanceTypes := #[]
  staticTypes := #[.int, .int, .boolean]
  resolved := Array.replicate 1029 none
  statics := none }

def pool16 : Array CpInfo := pool [(2, .class_ 4), (1, u "java/lang/Object"), (0, u "<init>"), (0, u "()V"), (1, .class_ 10), (1, u "java/lang/System"), (0, u "allowSecurityManager"), (0, u "I"), (16, u "cons"), (0, u "Ljava/io/Console;"), (77, .class_ 110), (1, u "java/lang/System$CallersHolder"), (43, u "initialErrStream"), (0, u "Ljava/io/PrintStream;"), (19, u "security"), (0, u "Ljava/lang/SecurityManager;"), (31, .class_ 209), (0, u "java/lang/System$1"), (7, u "props"), (0, u "Ljava/util/Properties;"), (2, u "lineSeparator"), (0, u "Ljava/lang/String;"), (96, .class_ 321), (1, u "java/lang/System$LoggerFinder"), (5, .class_ 328), (0, u "java/lang/System$Logger"), (67, u "err"), (2, u "out"), (91, u "notSupportedJnuEncoding"), (15, u "in"), (17, u "initialIn"), (0, u "Ljava/io/InputStream;"), (35, u "bootLayer"), (0, u "Ljava/lang/ModuleLayer;"), (99, .class_ 664), (0, u "java/lang/System$2"), (9, u "NEVER"), (2, u "MAYBE"), (49, u "arraycopy"), (0, u "(Ljava/lang/Object;ILjava/lang/Object;II)V"), (72, .class_ 802), (0, u "java/lang/System$Logger$Level")] 31

def k16m0 : Method := { name := "<init>", desc := "()V", sig := { parameters := [], returnType := none }, accessFlags := 2, code := none }
def k16m1 : Method := { name := "arraycopy", desc := "(Ljava/lang/Object;ILjava/lang/Object;II)V", sig := { parameters := [(.object "java/lang/Object"), .int, (.object "java/lang/Object"), .int, .int], returnType := none }, accessFlags := 265, code := none }
/-- java/lang/System -/
def k16 : Class := { plain "java/lang/System" (some 0) with
  accessFlags := 49
  interfaces := #[]
  cf := some (fileOf pool16 8 #[.nestMembers #[319, 327, 801, 108, 663, 208]] #[{ accessFlags := 2, nameIndex := 5, descriptorIndex := 6, attributes := #[] }, { accessFlags := 265, nameIndex := 727, descriptorIndex := 728, attributes := #[] }] 49 2 #[] #[{ accessFlags := 25, nameIndex := 507, descriptorIndex := 526, attributes := #[] }, { accessFlags := 25, nameIndex := 399, descriptorIndex := 155, attributes := #[] }, { accessFlags := 25, nameIndex := 396, descriptorIndex := 155, attributes := #[] }, { accessFlags := 10, nameIndex := 525, descriptorIndex := 526, attributes := #[] }, { accessFlags := 26, nameIndex := 674, descriptorIndex := 12, attributes := #[] }, { accessFlags := 26, nameIndex := 677, descriptorIndex := 12, attributes := #[] }, { accessFlags := 10, nameIndex := 11, descriptorIndex := 12, attributes := #[] }, { accessFlags := 74, nameIndex := 175, descriptorIndex := 176, attributes := #[] }, { accessFlags := 10, nameIndex := 491, descriptorIndex := 222, attributes := #[] }, { accessFlags := 74, nameIndex := 29, descriptorIndex := 30, attributes := #[] }, { accessFlags := 74, nameIndex := 154, descriptorIndex := 155, attributes := #[] }, { accessFlags := 10, nameIndex := 217, descriptorIndex := 218, attributes := #[] }, { accessFlags := 10, nameIndex := 221, descriptorIndex := 222, attributes := #[] }, { accessFlags := 8, nameIndex := 562, descriptorIndex := 563, attributes := #[] }])
  fields := #[{ name := "in", type := (.object "java/io/InputStream"), accessFlags := 25, slot := 0, constantValue := 0 }, { name := "out", type := (.object "java/io/PrintStream"), accessFlags := 25, slot := 1, constantValue := 0 }, { name := "err", type := (.object "java/io/PrintStream"), accessFlags := 25, slot := 2, constantValue := 0 }, { name := "initialIn", type := (.object "java/io/InputStream"), accessFlags := 10, slot := 3, constantValue := 0 }, { name := "NEVER", type := .int, accessFlags := 26, slot := 4, constantValue := 0 }, { name := "MAYBE", type := .int, accessFlags := 26, slot := 5, constantValue := 0 }, { name := "allowSecurityManager", type := .int, accessFlags := 10, slot := 6, constantValue := 0 }, { name := "security", type := (.object "java/lang/SecurityManager"), accessFlags := 74, slot := 7, constantValue := 0 }, { name := "notSupportedJnuEncoding", type := (.object "java/lang/String"), accessFlags := 10, slot := 8, constantValue := 0 }, { name := "cons", type := (.object "java/io/Console"), accessFlags := 74, slot := 9, constantValue := 0 }, { name := "initialErrStream", type := (.object "java/io/PrintStream"), accessFlags := 74, slot := 10, constantValue := 0 }, { name := "props", type := (.object "java/util/Properties"), accessFlags := 10, slot := 11, constantValue := 0 }, { name := "lineSeparator", type := (.object "java/lang/String"), accessFlags := 10, slot := 12, constantValue := 0 }, { name := "bootLayer", type := (.object "java/lang/ModuleLayer"), accessFlags := 8, slot := 13, constantValue := 0 }]
  methods := #[k16m0, k16m1]
  instanceTypes := #[]
  staticTypes := #[(.object "java/io/InputStream"), (.object "java/io/PrintStream"), (.object "java/io/PrintStream"), (.object "java/io/InputStream"), .int, .int, .int, (.object "java/lang/SecurityManager"), (.object "java/lang/String"), (.object "java/io/Console"), (.object "java/io/PrintStream"), (.object "java/util/Properties"), (.object "java/lang/String"), (.object "java/lang/ModuleLayer")]
  resolved := Array.replicate 834 none
  statics := none }

def pool17 : Array CpInfo := pool [(9, u "<init>"), (6, .class_ 18), (1, u "java/lang/Object"), (0, u "()V"), (1, .class_ 23), (1, u "jdk/internal/util/ArraysSupport"), (0, u "LOG2_ARRAY_LONG_INDEX_SCALE"), (0, u "I"), (2, u "U"), (0, u "Ljdk/internal/misc/Unsafe;"), (8, u "BIG_ENDIAN"), (0, u "Z"), (8, u "LOG2_BYTE_BIT_SIZE"), (4, u "LOG2_ARRAY_INT_INDEX_SCALE"), (54, u "JLA"), (0, u "Ljdk/internal/access/JavaLangAccess;"), (11, u "LOG2_ARRAY_BOOLEAN_INDEX_SCALE"), (9, u "LOG2_ARRAY_BYTE_INDEX_SCALE"), (5, u "LOG2_ARRAY_CHAR_INDEX_SCALE"), (5, u "LOG2_ARRAY_SHORT_INDEX_SCALE"), (18, u "LOG2_ARRAY_FLOAT_INDEX_SCALE"), (24, u "LOG2_ARRAY_DOUBLE_INDEX_SCALE"), (89, u "T_BOOLEAN"), (2, u "T_CHAR"), (1, u "T_FLOAT"), (1, u "T_DOUBLE"), (1, u "T_BYTE"), (1, u "T_SHORT"), (1, u "T_INT"), (1, u "T_LONG"), (1, u "SOFT_MAX_ARRAY_LENGTH")] 83

def k17m0 : Method := { name := "<init>", desc := "()V", sig := { parameters := [], returnType := none }, accessFlags := 2, code := none }
/-- jdk/internal/util/ArraysSupport -/
def k17 : Class := { plain "jdk/internal/util/ArraysSupport" (some 0) with
  accessFlags := 33
  interfaces := #[]
  cf := some (fileOf pool17 21 #[] #[{ accessFlags := 2, nameIndex := 9, descriptorIndex := 19, attributes := #[] }] 33 16 #[] #[{ accessFlags := 24, nameIndex := 28, descriptorIndex := 29, attributes := #[] }, { accessFlags := 26, nameIndex := 38, descriptorIndex := 39, attributes := #[] }, { accessFlags := 25, nameIndex := 121, descriptorIndex := 25, attributes := #[] }, { accessFlags := 25, nameIndex := 131, descriptorIndex := 25, attributes := #[] }, { accessFlags := 25, nameIndex := 137, descriptorIndex := 25, attributes := #[] }, { accessFlags := 25, nameIndex := 143, descriptorIndex := 25, attributes := #[] }, { accessFlags := 25, nameIndex := 53, descriptorIndex := 25, attributes := #[] }, { accessFlags := 25, nameIndex := 24, descriptorIndex := 25, attributes := #[] }, { accessFlags := 25, nameIndex := 162, descriptorIndex := 25, attributes := #[] }, { accessFlags := 25, nameIndex := 187, descriptorIndex := 25, attributes := #[] }, { accessFlags := 26, nameIndex := 48, descriptorIndex := 25, attributes := #[] }, { accessFlags := 25, nameIndex := 277, descriptorIndex := 25, attributes := #[] }, { accessFlags := 25, nameIndex := 280, descriptorIndex := 25, attributes := #[] }, { accessFlags := 25, nameIndex := 282, descriptorIndex := 25, attributes := #[] }, { accessFlags := 25, nameIndex := 284, descriptorIndex := 25, attributes := #[] }, { accessFlags := 25, nameIndex := 286, descriptorIndex := 25, attributes := #[] }, { accessFlags := 25, nameIndex := 288, descriptorIndex := 25, attributes := #[] }, { accessFlags := 25, nameIndex := 290, descriptorIndex := 25, attributes := #[] }, { accessFlags := 25, nameIndex := 292, descriptorIndex := 25, attributes := #[] }, { accessFlags := 26, nameIndex := 108, descriptorIndex := 109, attributes := #[] }, { accessFlags := 25, nameIndex := 294, descriptorIndex := 25, attributes := #[] }])
  fields := #[{ name := "U", type := (.object "jdk/internal/misc/Unsafe"), accessFlags := 24, slot := 0, constantValue := 0 }, { name := "BIG_ENDIAN", type := .boolean, accessFlags := 26, slot := 1, constantValue := 0 }, { name := "LOG2_ARRAY_BOOLEAN_INDEX_SCALE", type := .int, accessFlags := 25, slot := 2, constantValue := 0 }, { name := "LOG2_ARRAY_BYTE_INDEX_SCALE", type := .int, accessFlags := 25, slot := 3, constantValue := 0 }, { name := "LOG2_ARRAY_CHAR_INDEX_SCALE", type := .int, accessFlags := 25, slot := 4, constantValue := 0 }, { name := "LOG2_ARRAY_SHORT_INDEX_SCALE", type := .int, accessFlags := 25, slot := 5, constantValue := 0 }, { name := "LOG2_ARRAY_INT_INDEX_SCALE", type := .int, accessFlags := 25, slot := 6, constantValue := 0 }, { name := "LOG2_ARRAY_LONG_INDEX_SCALE", type := .int, accessFlags := 25, slot := 7, constantValue := 0 }, { name := "LOG2_ARRAY_FLOAT_INDEX_SCALE", type := .int, accessFlags := 25, slot := 8, constantValue := 0 }, { name := "LOG2_ARRAY_DOUBLE_INDEX_SCALE", type := .int, accessFlags := 25, slot := 9, constantValue := 0 }, { name := "LOG2_BYTE_BIT_SIZE", type := .int, accessFlags := 26, slot := 10, constantValue := 0 }, { name := "T_BOOLEAN", type := .int, accessFlags := 25, slot := 11, constantValue := 0 }, { name := "T_CHAR", type := .int, accessFlags := 25, slot := 12, constantValue := 0 }, { name := "T_FLOAT", type := .int, accessFlags := 25, slot := 13, constantValue := 0 }, { name := "T_DOUBLE", type := .int, accessFlags := 25, slot := 14, constantValue := 0 }, { name := "T_BYTE", type := .int, accessFlags := 25, slot := 15, constantValue := 0 }, { name := "T_SHORT", type := .int, accessFlags := 25, slot := 16, constantValue := 0 }, { name := "T_INT", type := .int, accessFlags := 25, slot := 17, constantValue := 0 }, { name := "T_LONG", type := .int, accessFlags := 25, slot := 18, constantValue := 0 }, { name := "JLA", type := (.object "jdk/internal/access/JavaLangAccess"), accessFlags := 26, slot := 19, constantValue := 0 }, { name := "SOFT_MAX_ARRAY_LENGTH", type := .int, accessFlags := 25, slot := 20, constantValue := 0 }]
  methods := #[k17m0]
  instanceTypes := #[]
  staticTypes := #[(.object "jdk/internal/misc/Unsafe"), .boolean, .int, .int, .int, .int, .int, .int, .int, .int, .int, .int, .int, .int, .int, .int, .int, .int, .int, (.object "jdk/internal/access/JavaLangAccess"), .int]
  resolved := Array.replicate 378 none
  statics := none }

def pool18 : Array CpInfo := pool [(1, u "java/lang/Cloneable"), (0, .class_ 1), (0, u "java/lang/Object"), (0, .class_ 3)] 3

/-- java/lang/Cloneable -/
def k18 : Class := { plain "java/lang/Cloneable" (some 0) with
  accessFlags := 1537
  interfaces := #[]
  cf := some (fileOf pool18 2 #[] #[] 1537 4 #[] #[])
  fields := #[]
  methods := #[]
  instanceTypes := #[]
  staticTypes := #[]
  resolved := Array.replicate 8 none
  statics := none }

/-- the primitive byte -/
def k19 : Class := { plain "byte" none with kind := .primitive 'B', accessFlags := 0x411 }
/-- [B -/
def k20 : Class := { plain "[B" (some 0) with kind := .array 19 .byte, interfaces := #[18, 2], accessFlags := 1041 }

/-- the primitive char -/
def k21 : Class := { plain "char" none with kind := .primitive 'C', accessFlags := 0x411 }
/-- [C -/
def k22 : Class := { plain "[C" (some 0) with kind := .array 21 .char, interfaces := #[18, 2], accessFlags := 1041 }

/-- the primitive int -/
def k23 : Class := { plain "int" none with kind := .primitive 'I', accessFlags := 0x411 }
/-- [I -/
def k24 : Class := { plain "[I" (some 0) with kind := .array 23 .int, interfaces := #[18, 2], accessFlags := 1041 }

def heap : Heap := #[{ cls := 7, slots := #[.long 0, .int 1, .null, .int 0, .null, .int 0, .int 0], vm := .statics 7 },
  { cls := 14, slots := #[.null, .null, .null], vm := .statics 14 }]
def classes : Array Class := #[k0, k1, k2, k3, k4, k5, k6, k7, k8, k9, k10, k11, k12, k13, k14, k15, k16, k17, k18, k19, k20, k21, k22, k23, k24]
def interned : List (Array UInt16 × Addr) := []
def slotsUsed : Nat := 10
def theMethod : MethodId := ⟨1, 1⟩
def args0 : Array Value := #[.int 5, .int 6, .int 7, .int 8, .int 9]
def aboutOver (below : List Frame) : State where
  vm := { classes := classes, interned := interned.toArray }
  heap := heap
  slotsUsed := slotsUsed
  threads := #[{ frames := .invoking theMethod args0 :: below }]
def below0 : List Frame := [.native { method := ⟨0, 0⟩, args := #[] }]
def about1 : State := aboutOver below0
def p0 : Program := .bare "" "" ""
def e0 : Env := launch0.env 0 0 0
theorem w_frames : about1.frames = Frame.invoking theMethod args0 :: below0 := rfl
set_option maxRecDepth 65536 in
theorem w_args : argsFit about1.vm theMethod args0 = true := by decide +kernel
set_option maxRecDepth 65536 in
theorem w_heap : heapFits about1 = true := by decide +kernel
set_option maxRecDepth 65536 in
theorem w_runnable : about1.curStatus? = some .runnable := by decide +kernel
set_option maxRecDepth 65536 in
theorem w_alone : about1.alone = true := by decide +kernel
set_option maxRecDepth 65536 in
theorem w_named : about1.methodNamed? x = some theMethod := by decide +kernel
set_option maxRecDepth 65536 in
theorem w_hears : about1.hears theMethod below0 = true := by decide +kernel
set_option maxRecDepth 65536 in
theorem w_ripe : about1.ripe theMethod args0 below0 = true := by decide +kernel
theorem w_running : about1.status = .running := rfl
set_option maxRecDepth 65536 in
theorem w_room : about1.hasRoom e0.platform room_1 = true :=
  launch0.hasRoom_least _ room_1 (by decide +kernel) (by decide +kernel) (by decide +kernel) (by decide +kernel) (by decide +kernel) (by decide +kernel)
theorem allAtoms_all (ts : List Jvm.Cond) (a : Array Jvm.Value) (st : Jvm.State) : (allAtoms ts).before a st = ts.all (fun c => c.before a st) := by
  induction ts with
  | nil => rfl
  | cons c t ih =>
    show (Jvm.Cond.and c (allAtoms t)).before a st = _
    rw [Jvm.Cond.before_and, ih, List.all_cons]
def words1 : List Jvm.Cond := Jvm.Cond.code x code maxLocals ret :: tables_1
/-- a 'code' word, met by the world's own term for the bytes: nothing is compared byte by byte -/
theorem code_word {y : MethodName} {bytes : ByteArray} {mx : Nat} {rt : Option FieldType} {a : Array Value} {s : State} {m : MethodId} {meth : Method} {c : Code} (h1 : s.methodNamed? y = some m) (h2 : s.vm.method? m = some meth) (h3 : meth.code = some c) (h4 : c.code = bytes)
    (h5 : (c.maxLocals == mx && c.exceptionTable.isEmpty && decide (c.maxStack ≤ mostOperands) && decide (meth.sig.returnType = rt) && !meth.locks && decide (parseMethodDescriptor y.desc = some meth.sig)) = true) : (Jvm.Cond.code y bytes mx rt).before a s = true := by
  simp only [Bool.and_eq_true, beq_iff_eq, Bool.not_eq_true', decide_eq_true_eq] at h5
  obtain ⟨⟨⟨⟨⟨g1, g2⟩, g3⟩, g4⟩, g5⟩, g6⟩ := h5
  simp [Cond.before, Cond.holds, Cond.value, h1, h2, h3, h4, g1, g2, g3, g4, g5, g6]
def isCode : Jvm.Cond → Bool
  | .code _ _ _ _ => true
  | _ => false
theorem all_split {L : List Jvm.Cond} {P : Jvm.Cond → Bool} (h1 : L.all (fun c => isCode c || P c) = true) (h2 : ∀ c ∈ L.filter isCode, P c = true) : L.all P = true := by
  refine List.all_eq_true.mpr fun c hc => ?_
  have h := List.all_eq_true.mp h1 c hc
  rcases Bool.eq_false_or_eq_true (isCode c) with hi | hi
  · exact h2 c (List.mem_filter.mpr ⟨hc, hi⟩)
  · simpa [hi] using h
set_option maxRecDepth 65536 in
theorem w_c0 : (Jvm.Cond.code x code maxLocals ret).before args0 about1 = true := code_word (m := ⟨1, 1⟩) (meth := k1m1) (c := k1c1) (by decide +kernel) rfl rfl rfl (by decide +kernel)
set_option maxRecDepth 65536 in
theorem w_c1 : (Jvm.Cond.code ({ cls := "com/example/svazek/svazek/PackageFolderPlaceOfPinLaw", name := "ch", desc := "(I)C" } : Jvm.MethodName) method_3_code (1 : Nat) (Option.some Jvm.ClassFile.FieldType.char)).before args0 about1 = true := code_word (m := ⟨1, 2⟩) (meth := k1m2) (c := k1c2) (by decide +kernel) rfl rfl rfl (by decide +kernel)
set_option maxRecDepth 65536 in
theorem w_c2 : (Jvm.Cond.code ({ cls := "com/example/svazek/svazek/PackageFolderPlaceOfPinLaw", name := "make", desc := "(ICCCC)Ljava/lang/String;" } : Jvm.MethodName) method_4_code (5 : Nat) (Option.some (Jvm.ClassFile.FieldType.object "java/lang/String"))).before args0 about1 = true := code_word (m := ⟨1, 3⟩) (meth := k1m3) (c := k1c3) (by decide +kernel) rfl rfl rfl (by decide +kernel)
set_option maxRecDepth 65536 in
theorem w_c3 : (Jvm.Cond.code ({ cls := "java/lang/String", name := "<init>", desc := "([C)V" } : Jvm.MethodName) jdk_42_method_3_code (2 : Nat) (Option.none : Option Jvm.ClassFile.FieldType)).before args0 about1 = true := code_word (m := ⟨7, 1⟩) (meth := k7m1) (c := k7c1) (by decide +kernel) rfl rfl rfl (by decide +kernel)
set_option maxRecDepth 65536 in
theorem w_c4 : (Jvm.Cond.code ({ cls := "java/lang/String", name := "<init>", desc := "([CIILjava/lang/Void;)V" } : Jvm.MethodName) jdk_42_method_149_code (6 : Nat) (Option.none : Option Jvm.ClassFile.FieldType)).before args0 about1 = true := code_word (m := ⟨7, 8⟩) (meth := k7m8) (c := k7c8) (by decide +kernel) rfl rfl rfl (by decide +kernel)
set_option maxRecDepth 65536 in
theorem w_c5 : (Jvm.Cond.code ({ cls := "java/lang/Object", name := "<init>", desc := "()V" } : Jvm.MethodName) object_method_1_code (1 : Nat) (Option.none : Option Jvm.ClassFile.FieldType)).before args0 about1 = true := code_word (m := ⟨0, 0⟩) (meth := k0m0) (c := k0c0) (by decide +kernel) rfl rfl rfl (by decide +kernel)
set_option maxRecDepth 65536 in
theorem w_c6 : (Jvm.Cond.code ({ cls := "com/example/svazek/svazek/PackageFolderPlaceOfPinLaw", name := "lastSlash", desc := "(ICCCC)I" } : Jvm.MethodName) method_5_code (5 : Nat) (Option.some Jvm.ClassFile.FieldType.int)).before args0 about1 = true := code_word (m := ⟨1, 4⟩) (meth := k1m4) (c := k1c4) (by decide +kernel) rfl rfl rfl (by decide +kernel)
set_option maxRecDepth 65536 in
theorem w_c7 : (Jvm.Cond.code ({ cls := "com/example/svazek/svazek/PackageFolder", name := "placeOf", desc := "(Ljava/lang/String;)Ljava/lang/String;" } : Jvm.MethodName) prog_41_method_7_code (2 : Nat) (Option.some (Jvm.ClassFile.FieldType.object "java/lang/String"))).before args0 about1 = true := code_word (m := ⟨10, 0⟩) (meth := k10m0) (c := k10c0) (by decide +kernel) rfl rfl rfl (by decide +kernel)
set_option maxRecDepth 65536 in
theorem w_c8 : (Jvm.Cond.code ({ cls := "java/lang/String", name := "lastIndexOf", desc := "(I)I" } : Jvm.MethodName) jdk_42_method_82_code (2 : Nat) (Option.some Jvm.ClassFile.FieldType.int)).before args0 about1 = true := code_word (m := ⟨7, 5⟩) (meth := k7m5) (c := k7c5) (by decide +kernel) rfl rfl rfl (by decide +kernel)
set_option maxRecDepth 65536 in
theorem w_c9 : (Jvm.Cond.code ({ cls := "java/lang/String", name := "length", desc := "()I" } : Jvm.MethodName) jdk_42_method_54_code (1 : Nat) (Option.some Jvm.ClassFile.FieldType.int)).before args0 about1 = true := code_word (m := ⟨7, 2⟩) (meth := k7m2) (c := k7c2) (by decide +kernel) rfl rfl rfl (by decide +kernel)
set_option maxRecDepth 65536 in
theorem w_c10 : (Jvm.Cond.code ({ cls := "java/lang/String", name := "coder", desc := "()B" } : Jvm.MethodName) jdk_42_method_152_code (1 : Nat) (Option.some Jvm.ClassFile.FieldType.byte)).before args0 about1 = true := code_word (m := ⟨7, 10⟩) (meth := k7m10) (c := k7c10) (by decide +kernel) rfl rfl rfl (by decide +kernel)
set_option maxRecDepth 65536 in
theorem w_c11 : (Jvm.Cond.code ({ cls := "java/lang/String", name := "lastIndexOf", desc := "(II)I" } : Jvm.MethodName) jdk_42_method_83_code (3 : Nat) (Option.some Jvm.ClassFile.FieldType.int)).before args0 about1 = true := code_word (m := ⟨7, 6⟩) (meth := k7m6) (c := k7c6) (by decide +kernel) rfl rfl rfl (by decide +kernel)
set_option maxRecDepth 65536 in
theorem w_c12 : (Jvm.Cond.code ({ cls := "java/lang/String", name := "isLatin1", desc := "()Z" } : Jvm.MethodName) jdk_42_method_154_code (1 : Nat) (Option.some Jvm.ClassFile.FieldType.boolean)).before args0 about1 = true := code_word (m := ⟨7, 11⟩) (meth := k7m11) (c := k7c11) (by decide +kernel) rfl rfl rfl (by decide +kernel)
set_option maxRecDepth 65536 in
theorem w_c13 : (Jvm.Cond.code ({ cls := "java/lang/StringLatin1", name := "lastIndexOf", desc := "([BII)I" } : Jvm.MethodName) jdk_43_method_27_code (4 : Nat) (Option.some Jvm.ClassFile.FieldType.int)).before args0 about1 = true := code_word (m := ⟨11, 3⟩) (meth := k11m3) (c := k11c3) (by decide +kernel) rfl rfl rfl (by decide +kernel)
set_option maxRecDepth 65536 in
theorem w_c14 : (Jvm.Cond.code ({ cls := "java/lang/StringLatin1", name := "canEncode", desc := "(I)Z" } : Jvm.MethodName) jdk_43_method_4_code (1 : Nat) (Option.some Jvm.ClassFile.FieldType.boolean)).before args0 about1 = true := code_word (m := ⟨11, 2⟩) (meth := k11m2) (c := k11c2) (by decide +kernel) rfl rfl rfl (by decide +kernel)
set_option maxRecDepth 65536 in
theorem w_c15 : (Jvm.Cond.code ({ cls := "java/lang/Math", name := "min", desc := "(II)I" } : Jvm.MethodName) jdk_29_method_69_code (2 : Nat) (Option.some Jvm.ClassFile.FieldType.int)).before args0 about1 = true := code_word (m := ⟨12, 1⟩) (meth := k12m1) (c := k12c1) (by decide +kernel) rfl rfl rfl (by decide +kernel)
set_option maxRecDepth 65536 in
theorem w_c16 : (Jvm.Cond.code ({ cls := "java/lang/String", name := "isEmpty", desc := "()Z" } : Jvm.MethodName) jdk_42_method_55_code (1 : Nat) (Option.some Jvm.ClassFile.FieldType.boolean)).before args0 about1 = true := code_word (m := ⟨7, 3⟩) (meth := k7m3) (c := k7c3) (by decide +kernel) rfl rfl rfl (by decide +kernel)
set_option maxRecDepth 65536 in
theorem w_c17 : (Jvm.Cond.code ({ cls := "java/lang/StringUTF16", name := "compress", desc := "([CII)[B" } : Jvm.MethodName) jdk_52_method_16_code (6 : Nat) (Option.some (Jvm.ClassFile.FieldType.array Jvm.ClassFile.FieldType.byte))).before args0 about1 = true := code_word (m := ⟨13, 2⟩) (meth := k13m2) (c := k13c2) (by decide +kernel) rfl rfl rfl (by decide +kernel)
set_option maxRecDepth 65536 in
theorem w_c18 : (Jvm.Cond.code ({ cls := "java/lang/StringUTF16", name := "compress", desc := "([CI[BII)I" } : Jvm.MethodName) jdk_52_method_21_code (7 : Nat) (Option.some Jvm.ClassFile.FieldType.int)).before args0 about1 = true := code_word (m := ⟨13, 3⟩) (meth := k13m3) (c := k13c3) (by decide +kernel) rfl rfl rfl (by decide +kernel)
set_option maxRecDepth 65536 in
theorem w_c19 : (Jvm.Cond.code ({ cls := "java/lang/StringUTF16", name := "coderFromArrayLen", desc := "([BI)B" } : Jvm.MethodName) jdk_52_method_15_code (2 : Nat) (Option.some Jvm.ClassFile.FieldType.byte)).before args0 about1 = true := code_word (m := ⟨13, 1⟩) (meth := k13m1) (c := k13c1) (by decide +kernel) rfl rfl rfl (by decide +kernel)
set_option maxRecDepth 65536 in
theorem w_c20 : (Jvm.Cond.code ({ cls := "java/lang/String", name := "substring", desc := "(II)Ljava/lang/String;" } : Jvm.MethodName) jdk_42_method_92_code (5 : Nat) (Option.some (Jvm.ClassFile.FieldType.object "java/lang/String"))).before args0 about1 = true := code_word (m := ⟨7, 7⟩) (meth := k7m7) (c := k7c7) (by decide +kernel) rfl rfl rfl (by decide +kernel)
set_option maxRecDepth 65536 in
theorem w_c21 : (Jvm.Cond.code ({ cls := "java/lang/String", name := "checkBoundsBeginEnd", desc := "(III)V" } : Jvm.MethodName) jdk_42_method_158_code (3 : Nat) (Option.none : Option Jvm.ClassFile.FieldType)).before args0 about1 = true := code_word (m := ⟨7, 13⟩) (meth := k7m13) (c := k7c13) (by decide +kernel) rfl rfl rfl (by decide +kernel)
set_option maxRecDepth 65536 in
theorem w_c22 : (Jvm.Cond.code ({ cls := "jdk/internal/util/Preconditions", name := "checkFromToIndex", desc := "(IIILjava/util/function/BiFunction;)I" } : Jvm.MethodName) jdk_41_method_12_code (4 : Nat) (Option.some Jvm.ClassFile.FieldType.int)).before args0 about1 = true := code_word (m := ⟨14, 2⟩) (meth := k14m2) (c := k14c2) (by decide +kernel) rfl rfl rfl (by decide +kernel)
set_option maxRecDepth 65536 in
theorem w_c23 : (Jvm.Cond.code ({ cls := "java/lang/StringLatin1", name := "newString", desc := "([BII)Ljava/lang/String;" } : Jvm.MethodName) jdk_43_method_47_code (3 : Nat) (Option.some (Jvm.ClassFile.FieldType.object "java/lang/String"))).before args0 about1 = true := code_word (m := ⟨11, 4⟩) (meth := k11m4) (c := k11c4) (by decide +kernel) rfl rfl rfl (by decide +kernel)
set_option maxRecDepth 65536 in
theorem w_c24 : (Jvm.Cond.code ({ cls := "java/util/Arrays", name := "copyOfRange", desc := "([BII)[B" } : Jvm.MethodName) jdk_65_method_132_code (3 : Nat) (Option.some (Jvm.ClassFile.FieldType.array Jvm.ClassFile.FieldType.byte))).before args0 about1 = true := code_word (m := ⟨15, 2⟩) (meth := k15m2) (c := k15c2) (by decide +kernel) rfl rfl rfl (by decide +kernel)
set_option maxRecDepth 65536 in
theorem w_c25 : (Jvm.Cond.code ({ cls := "java/util/Arrays", name := "copyOfRangeByte", desc := "([BII)[B" } : Jvm.MethodName) jdk_65_method_133_code (5 : Nat) (Option.some (Jvm.ClassFile.FieldType.array Jvm.ClassFile.FieldType.byte))).before args0 about1 = true := code_word (m := ⟨15, 3⟩) (meth := k15m3) (c := k15c3) (by decide +kernel) rfl rfl rfl (by decide +kernel)
set_option maxRecDepth 65536 in
theorem w_c26 : (Jvm.Cond.code ({ cls := "java/util/Arrays", name := "checkLength", desc := "(II)V" } : Jvm.MethodName) jdk_65_method_131_code (2 : Nat) (Option.none : Option Jvm.ClassFile.FieldType)).before args0 about1 = true := code_word (m := ⟨15, 1⟩) (meth := k15m1) (c := k15c1) (by decide +kernel) rfl rfl rfl (by decide +kernel)
set_option maxRecDepth 65536 in
theorem w_c27 : (Jvm.Cond.code ({ cls := "java/lang/String", name := "<init>", desc := "([BB)V" } : Jvm.MethodName) jdk_42_method_151_code (3 : Nat) (Option.none : Option Jvm.ClassFile.FieldType)).before args0 about1 = true := code_word (m := ⟨7, 9⟩) (meth := k7m9) (c := k7c9) (by decide +kernel) rfl rfl rfl (by decide +kernel)
set_option maxRecDepth 65536 in
theorem w_c28 : (Jvm.Cond.code ({ cls := "java/lang/String", name := "charAt", desc := "(I)C" } : Jvm.MethodName) jdk_42_method_56_code (2 : Nat) (Option.some Jvm.ClassFile.FieldType.char)).before args0 about1 = true := code_word (m := ⟨7, 4⟩) (meth := k7m4) (c := k7c4) (by decide +kernel) rfl rfl rfl (by decide +kernel)
set_option maxRecDepth 65536 in
theorem w_c29 : (Jvm.Cond.code ({ cls := "java/lang/StringLatin1", name := "charAt", desc := "([BI)C" } : Jvm.MethodName) jdk_43_method_2_code (2 : Nat) (Option.some Jvm.ClassFile.FieldType.char)).before args0 about1 = true := code_word (m := ⟨11, 1⟩) (meth := k11m1) (c := k11c1) (by decide +kernel) rfl rfl rfl (by decide +kernel)
set_option maxRecDepth 65536 in
theorem w_c30 : (Jvm.Cond.code ({ cls := "java/lang/String", name := "checkIndex", desc := "(II)V" } : Jvm.MethodName) jdk_42_method_155_code (2 : Nat) (Option.none : Option Jvm.ClassFile.FieldType)).before args0 about1 = true := code_word (m := ⟨7, 12⟩) (meth := k7m12) (c := k7c12) (by decide +kernel) rfl rfl rfl (by decide +kernel)
set_option maxRecDepth 65536 in
theorem w_c31 : (Jvm.Cond.code ({ cls := "jdk/internal/util/Preconditions", name := "checkIndex", desc := "(IILjava/util/function/BiFunction;)I" } : Jvm.MethodName) jdk_41_method_11_code (3 : Nat) (Option.some Jvm.ClassFile.FieldType.int)).before args0 about1 = true := code_word (m := ⟨14, 1⟩) (meth := k14m1) (c := k14c1) (by decide +kernel) rfl rfl rfl (by decide +kernel)
def codes1 : List Jvm.Cond := [Jvm.Cond.code x code maxLocals ret, Jvm.Cond.code ({ cls := "com/example/svazek/svazek/PackageFolderPlaceOfPinLaw", name := "ch", desc := "(I)C" } : Jvm.MethodName) method_3_code (1 : Nat) (Option.some Jvm.ClassFile.FieldType.char), Jvm.Cond.code ({ cls := "com/example/svazek/svazek/PackageFolderPlaceOfPinLaw", name := "make", desc := "(ICCCC)Ljava/lang/String;" } : Jvm.MethodName) method_4_code (5 : Nat) (Option.some (Jvm.ClassFile.FieldType.object "java/lang/String")), Jvm.Cond.code ({ cls := "java/lang/String", name := "<init>", desc := "([C)V" } : Jvm.MethodName) jdk_42_method_3_code (2 : Nat) (Option.none : Option Jvm.ClassFile.FieldType), Jvm.Cond.code ({ cls := "java/lang/String", name := "<init>", desc := "([CIILjava/lang/Void;)V" } : Jvm.MethodName) jdk_42_method_149_code (6 : Nat) (Option.none : Option Jvm.ClassFile.FieldType), Jvm.Cond.code ({ cls := "java/lang/Object", name := "<init>", desc := "()V" } : Jvm.MethodName) object_method_1_code (1 : Nat) (Option.none : Option Jvm.ClassFile.FieldType), Jvm.Cond.code ({ cls := "com/example/svazek/svazek/PackageFolderPlaceOfPinLaw", name := "lastSlash", desc := "(ICCCC)I" } : Jvm.MethodName) method_5_code (5 : Nat) (Option.some Jvm.ClassFile.FieldType.int), Jvm.Cond.code ({ cls := "com/example/svazek/svazek/PackageFolder", name := "placeOf", desc := "(Ljava/lang/String;)Ljava/lang/String;" } : Jvm.MethodName) prog_41_method_7_code (2 : Nat) (Option.some (Jvm.ClassFile.FieldType.object "java/lang/String")), Jvm.Cond.code ({ cls := "java/lang/String", name := "lastIndexOf", desc := "(I)I" } : Jvm.MethodName) jdk_42_method_82_code (2 : Nat) (Option.some Jvm.ClassFile.FieldType.int), Jvm.Cond.code ({ cls := "java/lang/String", name := "length", desc := "()I" } : Jvm.MethodName) jdk_42_method_54_code (1 : Nat) (Option.some Jvm.ClassFile.FieldType.int), Jvm.Cond.code ({ cls := "java/lang/String", name := "coder", desc := "()B" } : Jvm.MethodName) jdk_42_method_152_code (1 : Nat) (Option.some Jvm.ClassFile.FieldType.byte), Jvm.Cond.code ({ cls := "java/lang/String", name := "lastIndexOf", desc := "(II)I" } : Jvm.MethodName) jdk_42_method_83_code (3 : Nat) (Option.some Jvm.ClassFile.FieldType.int), Jvm.Cond.code ({ cls := "java/lang/String", name := "isLatin1", desc := "()Z" } : Jvm.MethodName) jdk_42_method_154_code (1 : Nat) (Option.some Jvm.ClassFile.FieldType.boolean), Jvm.Cond.code ({ cls := "java/lang/StringLatin1", name := "lastIndexOf", desc := "([BII)I" } : Jvm.MethodName) jdk_43_method_27_code (4 : Nat) (Option.some Jvm.ClassFile.FieldType.int), Jvm.Cond.code ({ cls := "java/lang/StringLatin1", name := "canEncode", desc := "(I)Z" } : Jvm.MethodName) jdk_43_method_4_code (1 : Nat) (Option.some Jvm.ClassFile.FieldType.boolean), Jvm.Cond.code ({ cls := "java/lang/Math", name := "min", desc := "(II)I" } : Jvm.MethodName) jdk_29_method_69_code (2 : Nat) (Option.some Jvm.ClassFile.FieldType.int), Jvm.Cond.code ({ cls := "java/lang/String", name := "isEmpty", desc := "()Z" } : Jvm.MethodName) jdk_42_method_55_code (1 : Nat) (Option.some Jvm.ClassFile.FieldType.boolean), Jvm.Cond.code ({ cls := "java/lang/StringUTF16", name := "compress", desc := "([CII)[B" } : Jvm.MethodName) jdk_52_method_16_code (6 : Nat) (Option.some (Jvm.ClassFile.FieldType.array Jvm.ClassFile.FieldType.byte)), Jvm.Cond.code ({ cls := "java/lang/StringUTF16", name := "compress", desc := "([CI[BII)I" } : Jvm.MethodName) jdk_52_method_21_code (7 : Nat) (Option.some Jvm.ClassFile.FieldType.int), Jvm.Cond.code ({ cls := "java/lang/StringUTF16", name := "coderFromArrayLen", desc := "([BI)B" } : Jvm.MethodName) jdk_52_method_15_code (2 : Nat) (Option.some Jvm.ClassFile.FieldType.byte), Jvm.Cond.code ({ cls := "java/lang/String", name := "substring", desc := "(II)Ljava/lang/String;" } : Jvm.MethodName) jdk_42_method_92_code (5 : Nat) (Option.some (Jvm.ClassFile.FieldType.object "java/lang/String")), Jvm.Cond.code ({ cls := "java/lang/String", name := "checkBoundsBeginEnd", desc := "(III)V" } : Jvm.MethodName) jdk_42_method_158_code (3 : Nat) (Option.none : Option Jvm.ClassFile.FieldType), Jvm.Cond.code ({ cls := "jdk/internal/util/Preconditions", name := "checkFromToIndex", desc := "(IIILjava/util/function/BiFunction;)I" } : Jvm.MethodName) jdk_41_method_12_code (4 : Nat) (Option.some Jvm.ClassFile.FieldType.int), Jvm.Cond.code ({ cls := "java/lang/StringLatin1", name := "newString", desc := "([BII)Ljava/lang/String;" } : Jvm.MethodName) jdk_43_method_47_code (3 : Nat) (Option.some (Jvm.ClassFile.FieldType.object "java/lang/String")), Jvm.Cond.code ({ cls := "java/util/Arrays", name := "copyOfRange", desc := "([BII)[B" } : Jvm.MethodName) jdk_65_method_132_code (3 : Nat) (Option.some (Jvm.ClassFile.FieldType.array Jvm.ClassFile.FieldType.byte)), Jvm.Cond.code ({ cls := "java/util/Arrays", name := "copyOfRangeByte", desc := "([BII)[B" } : Jvm.MethodName) jdk_65_method_133_code (5 : Nat) (Option.some (Jvm.ClassFile.FieldType.array Jvm.ClassFile.FieldType.byte)), Jvm.Cond.code ({ cls := "java/util/Arrays", name := "checkLength", desc := "(II)V" } : Jvm.MethodName) jdk_65_method_131_code (2 : Nat) (Option.none : Option Jvm.ClassFile.FieldType), Jvm.Cond.code ({ cls := "java/lang/String", name := "<init>", desc := "([BB)V" } : Jvm.MethodName) jdk_42_method_151_code (3 : Nat) (Option.none : Option Jvm.ClassFile.FieldType), Jvm.Cond.code ({ cls := "java/lang/String", name := "charAt", desc := "(I)C" } : Jvm.MethodName) jdk_42_method_56_code (2 : Nat) (Option.some Jvm.ClassFile.FieldType.char), Jvm.Cond.code ({ cls := "java/lang/StringLatin1", name := "charAt", desc := "([BI)C" } : Jvm.MethodName) jdk_43_method_2_code (2 : Nat) (Option.some Jvm.ClassFile.FieldType.char), Jvm.Cond.code ({ cls := "java/lang/String", name := "checkIndex", desc := "(II)V" } : Jvm.MethodName) jdk_42_method_155_code (2 : Nat) (Option.none : Option Jvm.ClassFile.FieldType), Jvm.Cond.code ({ cls := "jdk/internal/util/Preconditions", name := "checkIndex", desc := "(IILjava/util/function/BiFunction;)I" } : Jvm.MethodName) jdk_41_method_11_code (3 : Nat) (Option.some Jvm.ClassFile.FieldType.int)]
set_option maxRecDepth 65536 in
theorem codes_eq : words1.filter isCode = codes1 := rfl
theorem w_codes : ∀ c ∈ words1.filter isCode, c.before args0 about1 = true := by
  rw [codes_eq]
  intro c hc
  simp only [codes1, List.mem_cons, List.not_mem_nil, or_false] at hc
  rcases hc with rfl | rfl | rfl | rfl | rfl | rfl | rfl | rfl | rfl | rfl | rfl | rfl | rfl | rfl | rfl | rfl | rfl | rfl | rfl | rfl | rfl | rfl | rfl | rfl | rfl | rfl | rfl | rfl | rfl | rfl | rfl | rfl
  · exact w_c0
  · exact w_c1
  · exact w_c2
  · exact w_c3
  · exact w_c4
  · exact w_c5
  · exact w_c6
  · exact w_c7
  · exact w_c8
  · exact w_c9
  · exact w_c10
  · exact w_c11
  · exact w_c12
  · exact w_c13
  · exact w_c14
  · exact w_c15
  · exact w_c16
  · exact w_c17
  · exact w_c18
  · exact w_c19
  · exact w_c20
  · exact w_c21
  · exact w_c22
  · exact w_c23
  · exact w_c24
  · exact w_c25
  · exact w_c26
  · exact w_c27
  · exact w_c28
  · exact w_c29
  · exact w_c30
  · exact w_c31
set_option maxRecDepth 65536 in
theorem w_t1 : (words1.take 24).all (fun c => isCode c || c.before args0 about1) = true := by decide +kernel
set_option maxRecDepth 65536 in
theorem w_t2 : ((words1.drop 24).take 24).all (fun c => isCode c || c.before args0 about1) = true := by decide +kernel
set_option maxRecDepth 65536 in
theorem w_t3 : (((words1.drop 24).drop 24).take 24).all (fun c => isCode c || c.before args0 about1) = true := by decide +kernel
set_option maxRecDepth 65536 in
theorem w_t4 : ((((words1.drop 24).drop 24).drop 24).take 24).all (fun c => isCode c || c.before args0 about1) = true := by decide +kernel
set_option maxRecDepth 65536 in
theorem w_t5 : (((((words1.drop 24).drop 24).drop 24).drop 24).take 24).all (fun c => isCode c || c.before args0 about1) = true := by decide +kernel
set_option maxRecDepth 65536 in
theorem w_t6 : (((((words1.drop 24).drop 24).drop 24).drop 24).drop 24).all (fun c => isCode c || c.before args0 about1) = true := by decide +kernel
theorem w_tables : (allAtoms (Jvm.Cond.code x code maxLocals ret :: tables_1)).before args0 about1 = true := by
  rw [allAtoms_all]
  show words1.all (fun c => c.before args0 about1) = true
  refine all_split ?_ w_codes
  rw [← List.take_append_drop 24 words1, List.all_append, w_t1, ← List.take_append_drop 24 (words1.drop 24), List.all_append, w_t2, ← List.take_append_drop 24 ((words1.drop 24).drop 24), List.all_append, w_t3, ← List.take_append_drop 24 (((words1.drop 24).drop 24).drop 24), List.all_append, w_t4, ← List.take_append_drop 24 ((((words1.drop 24).drop 24).drop 24).drop 24), List.all_append, w_t5, w_t6]
  rfl
set_option maxRecDepth 65536 in
theorem w_rest : rest_1_c.before args0 about1 = true := by decide +kernel
set_option maxRecDepth 65536 in
theorem w_case : (Jvm.Cond.and given_1 narrow_1).before args0 about1 = true := by decide +kernel
set_option maxRecDepth 65536 in
theorem w_consts : constsHeld consts_1 about1 := Jvm.Lit.constsHeldB_iff.mp (by decide +kernel)
theorem w_applies : (headSpec (Jvm.Cond.code x code maxLocals ret :: tables_1) room_1).applies x e0.platform about1 = true :=
  (Spec.applies_iff w_frames).mpr ⟨w_running, w_runnable, w_alone, w_named, w_hears, w_ripe, w_room, w_tables⟩
theorem atStart : AtStart classFile x code maxLocals ret World_1 tables_1 room_1 Calls_1 rest_1 Pre_1 launch0 p0 e0 about1 theMethod args0 below0 :=
  ⟨lists_1, trivial, launch0.admits_env _ _ _, launch0.least_env, fairChoices_fair.cas, fairChoices_fair.clock, w_frames, w_args, w_heap, w_applies, ⟨w_consts, trivial⟩, w_rest, w_case⟩
end start1
theorem witness_1 : WitnessClaimed_1 := ⟨start1.p0, start1.e0, start1.about1, start1.theMethod, start1.args0, start1.below0, start1.atStart⟩
end Jvm.Pilot.@@N@@
