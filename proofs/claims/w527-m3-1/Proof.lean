import JvmDerived
import JvmDerived.Pilot.@@N@@Statement
import JvmDerived.Pilot.@@N@@Code
set_option linter.unusedVariables false
set_option linter.unusedSimpArgs false
@@BLOCK:NumsL.lean.txt@@
/- laws to paste: Road.backV (cut by pick.py; bodies as the Statement names them) -/
namespace Jvm.Pilot.@@N@@
namespace StrChars
open Jvm Sem ClassFile Op Lib Jvm.Stand Jvm.Free.XT Jvm.Free.ALB Jvm.Free.JM Jvm.Free
open Jvm.Lib.Cold (StaticIs)
/-- a char array whose places are chars -/
def Ch (a : Addr) (A : Cell) (U : State) : Prop := Arr .char a A U ∧ Typed .char A
theorem Ch.mv {a : Addr} {A : Cell} {U U' : State} (h : Ch a A U) (hal : U.vm.Alike U'.vm) (hh : U'.heap = U.heap) : Ch a A U' := ⟨h.1.mv hal hh, h.2⟩
theorem Ch.keep {a : Addr} {A : Cell} {U U' : State} (h : Ch a A U) (hal : U.vm.Alike U'.vm) (hk : U'.heap[a]? = some A) : Ch a A U' := ⟨h.1.keep hal hk, h.2⟩
/-- what place i of a char[]'s cell holds -/
def cv (A : Cell) (i : Nat) : Int32 := match A.slots[i]? with | some (.int x) => x | _ => 0
theorem Ch.get {a : Addr} {A : Cell} {U : State} (h : Ch a A U) {i : Nat} (hi : i < A.slots.size) : A.slots[i]? = some (.int (cv A i)) := by
  have e := Array.getElem?_eq_getElem hi
  have f := h.2 i _ e
  unfold cv; rw [e]
  generalize A.slots[i] = v at f
  cases v <;> simp [fits] at f ⊢
/-- the byte that i2b leaves of a char -/
def lo8 (x : Int32) : Int32 := x.toInt8.toInt32
theorem fits_lo8 (y : Int32) : fits .byte (.int (lo8 y)) = true := by
  have h1 := y.toInt8.le_toInt
  have h2 := y.toInt8.toInt_lt
  simp only [lo8, fits, Bool.and_eq_true, decide_eq_true_eq, Int32.le_iff_toInt_le, Int8.toInt_toInt32, show (-128 : Int32).toInt = -128 from by decide, show (127 : Int32).toInt = 127 from by decide]
  omega
/-- A' is A but that each place j of lo .. hi - 1 holds f j -/
def Laid (A A' : Cell) (lo hi : Nat) (f : Nat → Value) : Prop := A'.cls = A.cls ∧ A'.vm = A.vm ∧ A'.slots.size = A.slots.size ∧ ∀ i, A'.slots[i]? = if lo ≤ i ∧ i < hi then some (f i) else A.slots[i]?
theorem Laid.zero (A : Cell) (lo : Nat) (f : Nat → Value) : Laid A A lo (lo + 0) f := ⟨rfl, rfl, rfl, fun i => by rw [if_neg (by omega)]⟩
theorem Laid.step {A Ak : Cell} {lo k : Nat} {f : Nat → Value} {v : Value} (h : Laid A Ak lo k f) (hlo : lo ≤ k) (hk : k < Ak.slots.size) (hv : v = f k) : Laid A (Ak.setSlot k v) lo (k + 1) f := by
  refine ⟨h.1, h.2.1, by simpa [Cell.setSlot] using h.2.2.1, fun i => ?_⟩
  by_cases e : k = i
  · subst e; rw [Cell.slots_setSlot_self v hk, if_pos (by omega), hv]
  · rw [Cell.slots_setSlot_ne v e, h.2.2.2 i]
    by_cases q : lo ≤ i ∧ i < k
    · rw [if_pos q, if_pos (by omega)]
    · rw [if_neg q, if_neg (by omega)]
def U16 : String := "java/lang/StringUTF16"
namespace Cmp5
def yN : MethodName := ⟨"java/lang/StringUTF16", "compress", "([CI[BII)I"⟩
abbrev yB : ByteArray := jdk_52_method_21_code
theorem d0 : decode yB 0 = .ok (.iconst 0, 1) := by decide +kernel
theorem d1 : decode yB 1 = .ok (.istore 5, 2) := by decide +kernel
theorem d3 : decode yB 3 = .ok (.iload 5, 2) := by decide +kernel
theorem d5 : decode yB 5 = .ok (.iload 4, 2) := by decide +kernel
theorem d7 : decode yB 7 = .ok (.if_icmp (.ge) 37, 3) := by decide +kernel
theorem d10 : decode yB 10 = .ok (.aload_n 0, 1) := by decide +kernel
theorem d11 : decode yB 11 = .ok (.iload_n 1, 1) := by decide +kernel
theorem d12 : decode yB 12 = .ok (.caload, 1) := by decide +kernel
theorem d13 : decode yB 13 = .ok (.istore 6, 2) := by decide +kernel
theorem d15 : decode yB 15 = .ok (.iload 6, 2) := by decide +kernel
theorem d17 : decode yB 17 = .ok (.sipush 255, 3) := by decide +kernel
theorem d20 : decode yB 20 = .ok (.if_icmp (.le) 6, 3) := by decide +kernel
theorem d26 : decode yB 26 = .ok (.aload_n 2, 1) := by decide +kernel
theorem d27 : decode yB 27 = .ok (.iload_n 3, 1) := by decide +kernel
theorem d28 : decode yB 28 = .ok (.iload 6, 2) := by decide +kernel
theorem d30 : decode yB 30 = .ok (.i2b, 1) := by decide +kernel
theorem d31 : decode yB 31 = .ok (.bastore, 1) := by decide +kernel
theorem d32 : decode yB 32 = .ok (.iinc 1 1, 3) := by decide +kernel
theorem d35 : decode yB 35 = .ok (.iinc 3 1, 3) := by decide +kernel
theorem d38 : decode yB 38 = .ok (.iinc 5 1, 3) := by decide +kernel
theorem d41 : decode yB 41 = .ok (.goto (-38), 3) := by decide +kernel
theorem d44 : decode yB 44 = .ok (.iload 4, 2) := by decide +kernel
theorem d46 : decode yB 46 = .ok (.ireturn, 1) := by decide +kernel
def site : List Cond := []
def tab : Cond := tabOf yN yB 7 (some .int) site
def P (b : Addr) (A : Cell) (d : Addr) (B : Cell) (o q len : Nat) (args : Array Value) (s : State) : Prop := args = #[.ref b, .int (Int32.ofNat o), .ref d, .int (Int32.ofNat q), .int (Int32.ofNat len)] ∧ Ch b A s ∧ Arr .byte d B s ∧ b ≠ d ∧ o + len ≤ A.slots.size ∧ q + len ≤ B.slots.size ∧ ∀ i, i < len → ¬ 255 < cv A (o + i)
def E (b : Addr) (A : Cell) (d : Addr) (B : Cell) (o q len : Nat) (r : Option Value) (s u : State) : Prop := r = some (.int (Int32.ofNat len)) ∧ ∃ B', Put d B' s u ∧ Laid B B' q (q + len) (fun j => Value.int (lo8 (cv A (o + (j - q)))))
/-- no char of the range above 255: len; the places written hold each char's low byte -/
theorem law (l : Launch) (b : Addr) (A : Cell) (d : Addr) (B : Cell) (o q len : Nat) : Law l yN 5 5 0 0 yB 7 (some .int) site (P b A d B o q len) (E b A d B o q len) (copyLocs d q len) 0 0 := by
  refine Law.of_walk (plainFor_of_name (by decide +kernel)) (by decide +kernel) (by decide +kernel) (by decide) (fun _ _ h => by rw [h.1]; rfl) (fun _ U U' hal hh h => ⟨h.1, h.2.1.mv hal hh, h.2.2.1.mv hal hh, h.2.2.2⟩) (fun r U U' V V' h1 hal h2 h => ⟨h.1, h.2.elim fun B' q => ⟨B', q.1.mv h1 h2, q.2⟩⟩) ?_
  intro p e s m args below meth c s₁ X0 hexec hbytes hml hret hlk hnm hown hh0 W hP
  obtain ⟨rfl, hA, hB, hne, l1, l2, hp⟩ := hP
  have c1 : Steps p.tables e below (s₁.setTop (entryFrame m #[.ref b, .int (Int32.ofNat o), .ref d, .int (Int32.ofNat q), .int (Int32.ofNat len)] 7)) (s₁.setTop (mkF m 0 #[.val (.ref b), .val (.int (Int32.ofNat o)), .val (.ref d), .val (.int (Int32.ofNat q)), .val (.int (Int32.ofNat len)), .unset, .unset] [])) := entry rfl
  have hA0 := hA.1.mv X0.warmed.alike hh0
  have hB0 := hB.mv X0.warmed.alike hh0
  have a31 := hA.1.2.2.2
  have c2 : Steps p.tables e below (s₁.setTop (entryFrame m #[.ref b, .int (Int32.ofNat o), .ref d, .int (Int32.ofNat q), .int (Int32.ofNat len)] 7)) (s₁.setTop (mkF m 3 #[.val (.ref b), .val (.int (Int32.ofNat o)), .val (.ref d), .val (.int (Int32.ofNat q)), .val (.int (Int32.ofNat len)), .val (.int 0), .unset] [])) := c1.trans (by
    refine iconstV X0.here hexec rfl 0 (hb hbytes d0) (by decide) ?_
    refine XS.istore X0.here hexec rfl (hb hbytes d1) rfl rfl ?_
    exact Steps.refl _)
  have loop : ∀ (r i : Nat), i + r = len → ∀ (z : Slot), (z = .unset ∨ ∃ w, z = .val w ∧ w.category = 1) → ∀ (Tl : State) (Bk : Cell), Stand p l e { frames := 0, locals := 0, cells := 0, slots := 0 } s m #[.ref b, .int (Int32.ofNat o), .ref d, .int (Int32.ofNat q), .int (Int32.ofNat len)] below meth c Tl ([] ++ copyLocs d q i) 0 0 → Put d Bk s₁ Tl → Laid B Bk q (q + i) (fun j => Value.int (lo8 (cv A (o + (j - q))))) →
      Steps p.tables e below (s₁.setTop (entryFrame m #[.ref b, .int (Int32.ofNat o), .ref d, .int (Int32.ofNat q), .int (Int32.ofNat len)] 7)) (Tl.setTop (mkF m 3 #[.val (.ref b), .val (.int (Int32.ofNat (o + i))), .val (.ref d), .val (.int (Int32.ofNat (q + i))), .val (.int (Int32.ofNat len)), .val (.int (Int32.ofNat i)), z] [])) → ∃ (T' : State) (B' : Cell) (z' : Slot), Stand p l e { frames := 0, locals := 0, cells := 0, slots := 0 } s m #[.ref b, .int (Int32.ofNat o), .ref d, .int (Int32.ofNat q), .int (Int32.ofNat len)] below meth c T' ([] ++ copyLocs d q len) 0 0 ∧ Put d B' s₁ T' ∧ Laid B B' q (q + len) (fun j => Value.int (lo8 (cv A (o + (j - q))))) ∧
      Steps p.tables e below (s₁.setTop (entryFrame m #[.ref b, .int (Int32.ofNat o), .ref d, .int (Int32.ofNat q), .int (Int32.ofNat len)] 7)) (T'.setTop (mkF m 3 #[.val (.ref b), .val (.int (Int32.ofNat (o + len))), .val (.ref d), .val (.int (Int32.ofNat (q + len))), .val (.int (Int32.ofNat len)), .val (.int (Int32.ofNat len)), z'] [])) := by
    intro r
    induction r with
    | zero =>
      intro i hi z hz Tl Bk Xl pl fl cl
      have hil : i = len := by omega
      rw [hil] at Xl fl cl
      exact ⟨Tl, Bk, z, Xl, pl, fl, cl⟩
    | succ r ih =>
      intro i hi z hz Tl Bk Xl pl fl cl
      have all := X0.warmed.alike.symm.trans Xl.warmed.alike
      have hAl := hA0.keep all (pl.other hne hA0.1)
      have hBk := hB0.like all pl.1 fl.1 fl.2.1 fl.2.2.1
      have hlt : q + i < Bk.slots.size := by rw [fl.2.2.1]; omega
      have c3 : Steps p.tables e below (s₁.setTop (entryFrame m #[.ref b, .int (Int32.ofNat o), .ref d, .int (Int32.ofNat q), .int (Int32.ofNat len)] 7)) (Tl.setTop (mkF m 12 #[.val (.ref b), .val (.int (Int32.ofNat (o + i))), .val (.ref d), .val (.int (Int32.ofNat (q + i))), .val (.int (Int32.ofNat len)), .val (.int (Int32.ofNat i)), z] [.int (Int32.ofNat (o + i)), .ref b])) := cl.trans (by
        refine XS.iload Xl.here hexec rfl (hb hbytes d3) rfl ?_
        refine XS.iload Xl.here hexec rfl (hb hbytes d5) rfl ?_
        refine XS.icmpNo Xl.here hexec rfl (hb hbytes d7) rfl (ii_ge_f (lt32 (by omega) (by omega))) ?_
        refine XS.aloadN Xl.here hexec rfl (hb hbytes d10) rfl rfl ?_
        refine XS.iloadN Xl.here hexec rfl (hb hbytes d11) rfl ?_
        exact Steps.refl _)
      have c4 : Steps p.tables e below (s₁.setTop (entryFrame m #[.ref b, .int (Int32.ofNat o), .ref d, .int (Int32.ofNat q), .int (Int32.ofNat len)] 7)) (Tl.setTop (mkF m 13 #[.val (.ref b), .val (.int (Int32.ofNat (o + i))), .val (.ref d), .val (.int (Int32.ofNat (q + i))), .val (.int (Int32.ofNat len)), .val (.int (Int32.ofNat i)), z] [.int (cv A (o + i))])) := c3.trans (by
        refine Xl.aget hexec hAl rfl (hA.get (i := o + i) (by omega)) rfl rfl (hb hbytes d12) ?_
        exact Steps.refl _)
      have c5 : Steps p.tables e below (s₁.setTop (entryFrame m #[.ref b, .int (Int32.ofNat o), .ref d, .int (Int32.ofNat q), .int (Int32.ofNat len)] 7)) (Tl.setTop (mkF m 15 #[.val (.ref b), .val (.int (Int32.ofNat (o + i))), .val (.ref d), .val (.int (Int32.ofNat (q + i))), .val (.int (Int32.ofNat len)), .val (.int (Int32.ofNat i)), .val (.int (cv A (o + i)))] [])) := c4.trans (by
        refine XS.istoreS Xl.here hexec rfl (hb hbytes d13) rfl rfl hz ?_
        exact Steps.refl _)
      have c6 : Steps p.tables e below (s₁.setTop (entryFrame m #[.ref b, .int (Int32.ofNat o), .ref d, .int (Int32.ofNat q), .int (Int32.ofNat len)] 7)) (Tl.setTop (mkF m 31 #[.val (.ref b), .val (.int (Int32.ofNat (o + i))), .val (.ref d), .val (.int (Int32.ofNat (q + i))), .val (.int (Int32.ofNat len)), .val (.int (Int32.ofNat i)), .val (.int (cv A (o + i)))] [.int (lo8 (cv A (o + i))), .int (Int32.ofNat (q + i)), .ref d])) := c5.trans (by
        refine XS.iload Xl.here hexec rfl (hb hbytes d15) rfl ?_
        refine sipushV Xl.here hexec rfl 255 (hb hbytes d17) (by decide) ?_
        refine XS.icmpYes Xl.here hexec rfl (pc0 := 20) rfl (hb hbytes d20) rfl (ii_le_t (hp i (by omega))) (by decide) rfl ?_
        refine XS.aloadN Xl.here hexec rfl (hb hbytes d26) rfl rfl ?_
        refine XS.iloadN Xl.here hexec rfl (hb hbytes d27) rfl ?_
        refine XS.iload Xl.here hexec rfl (hb hbytes d28) rfl ?_
        refine i2b Xl.here hexec rfl (hb hbytes d30) rfl ?_
        exact Steps.refl _)
      obtain ⟨T7, X7, p7, st7⟩ := Xl.aput hexec hBk rfl hlt rfl (fits_lo8 (cv A (o + i))) (g := (mkF m 31 #[.val (.ref b), .val (.int (Int32.ofNat (o + i))), .val (.ref d), .val (.int (Int32.ofNat (q + i))), .val (.int (Int32.ofNat len)), .val (.int (Int32.ofNat i)), .val (.int (cv A (o + i)))] [.int (lo8 (cv A (o + i))), .int (Int32.ofNat (q + i)), .ref d])) rfl (rest := []) rfl (hb hbytes d31)
      have c8 : Steps p.tables e below (s₁.setTop (entryFrame m #[.ref b, .int (Int32.ofNat o), .ref d, .int (Int32.ofNat q), .int (Int32.ofNat len)] 7)) (T7.setTop (mkF m 32 #[.val (.ref b), .val (.int (Int32.ofNat (o + i))), .val (.ref d), .val (.int (Int32.ofNat (q + i))), .val (.int (Int32.ofNat len)), .val (.int (Int32.ofNat i)), .val (.int (cv A (o + i)))] [])) := c6.trans (st7 _ (Steps.refl _))
      have c9 : Steps p.tables e below (s₁.setTop (entryFrame m #[.ref b, .int (Int32.ofNat o), .ref d, .int (Int32.ofNat q), .int (Int32.ofNat len)] 7)) (T7.setTop (mkF m 3 #[.val (.ref b), .val (.int (Int32.ofNat (o + i) + 1)), .val (.ref d), .val (.int (Int32.ofNat (q + i) + 1)), .val (.int (Int32.ofNat len)), .val (.int (Int32.ofNat i + 1)), .val (.int (cv A (o + i)))] [])) := c8.trans (by
        refine iincV X7.here hexec rfl 1 (hb hbytes d32) (by decide) rfl rfl ?_
        refine iincV X7.here hexec rfl 1 (hb hbytes d35) (by decide) rfl rfl ?_
        refine iincV X7.here hexec rfl 1 (hb hbytes d38) (by decide) rfl rfl ?_
        refine XS.goto X7.here hexec rfl (pc0 := 41) rfl (hb hbytes d41) (by decide) rfl ?_
        exact Steps.refl _)
      have c10 : Steps p.tables e below (s₁.setTop (entryFrame m #[.ref b, .int (Int32.ofNat o), .ref d, .int (Int32.ofNat q), .int (Int32.ofNat len)] 7)) (T7.setTop (mkF m 3 #[.val (.ref b), .val (.int (Int32.ofNat (o + (i + 1)))), .val (.ref d), .val (.int (Int32.ofNat (q + (i + 1)))), .val (.int (Int32.ofNat len)), .val (.int (Int32.ofNat (i + 1))), .val (.int (cv A (o + i)))] [])) := by
        have := c9
        rw [succ32, succ32, succ32] at this
        exact this
      exact ih (i + 1) (by omega) _ (Or.inr ⟨_, rfl, rfl⟩) T7 _ (by rw [copyLocs_step, ← List.append_assoc]; exact X7) (pl.trans p7) (fl.step (by omega) hlt (by simp)) c10
  obtain ⟨T9, B9, z9, X9, p9, f9, g9⟩ := loop len 0 (by omega) .unset (Or.inl rfl) s₁ B (by simpa [copyLocs] using X0) ⟨hB0.1, fun _ _ => rfl, rfl⟩ (Laid.zero _ _ _) c2
  have c11 : Steps p.tables e below (s₁.setTop (entryFrame m #[.ref b, .int (Int32.ofNat o), .ref d, .int (Int32.ofNat q), .int (Int32.ofNat len)] 7)) (T9.setTop (mkF m 46 #[.val (.ref b), .val (.int (Int32.ofNat (o + len))), .val (.ref d), .val (.int (Int32.ofNat (q + len))), .val (.int (Int32.ofNat len)), .val (.int (Int32.ofNat len)), z9] [.int (Int32.ofNat len)])) := g9.trans (by
    refine XS.iload X9.here hexec rfl (hb hbytes d3) rfl ?_
    refine XS.iload X9.here hexec rfl (hb hbytes d5) rfl ?_
    refine XS.icmpYes X9.here hexec rfl (pc0 := 7) rfl (hb hbytes d7) rfl (ii_ge_t (nlt32 (by omega) (Nat.le_refl _))) (by decide) rfl ?_
    refine XS.iload X9.here hexec rfl (hb hbytes d44) rfl ?_
    exact Steps.refl _)
  exact ⟨T9, some (.int (Int32.ofNat len)), _, _, _, X9, by simp, rfl, rfl, (fun h => by cases h), ⟨rfl, B9, p9.from hh0, f9⟩, fun fs hl => c11.trans (X9.ireturnOut hexec hret rfl (Or.inl rfl) (hb hbytes d46) hl)⟩
end Cmp5
namespace Cmp3
def yN : MethodName := ⟨"java/lang/StringUTF16", "compress", "([CII)[B"⟩
abbrev yB : ByteArray := jdk_52_method_16_code
theorem d0 : decode yB 0 = .ok (.iload_n 2, 1) := by decide +kernel
theorem d1 : decode yB 1 = .ok (.newarray .byte, 2) := by decide +kernel
theorem d3 : decode yB 3 = .ok (.astore_n 3, 1) := by decide +kernel
theorem d4 : decode yB 4 = .ok (.aload_n 0, 1) := by decide +kernel
theorem d5 : decode yB 5 = .ok (.iload_n 1, 1) := by decide +kernel
theorem d6 : decode yB 6 = .ok (.aload_n 3, 1) := by decide +kernel
theorem d7 : decode yB 7 = .ok (.iconst 0, 1) := by decide +kernel
theorem d8 : decode yB 8 = .ok (.iload_n 2, 1) := by decide +kernel
theorem d9 : decode yB 9 = .ok (.invokestatic 115, 3) := by decide +kernel
theorem d12 : decode yB 12 = .ok (.istore 4, 2) := by decide +kernel
theorem d14 : decode yB 14 = .ok (.iload 4, 2) := by decide +kernel
theorem d16 : decode yB 16 = .ok (.iload_n 2, 1) := by decide +kernel
theorem d17 : decode yB 17 = .ok (.if_icmp (.eq) 40, 3) := by decide +kernel
theorem d57 : decode yB 57 = .ok (.aload_n 3, 1) := by decide +kernel
theorem d58 : decode yB 58 = .ok (.areturn, 1) := by decide +kernel
def site : List Cond := [.arrayClass .byte, Cmp5.tab] ++ staticW U16 115 Cmp5.yN
def tab : Cond := tabOf yN yB 6 (some (.array .byte)) site
def P (b : Addr) (A : Cell) (o len : Nat) (args : Array Value) (s : State) : Prop := args = #[.ref b, .int (Int32.ofNat o), .int (Int32.ofNat len)] ∧ Ch b A s ∧ o + len ≤ A.slots.size ∧ len ≤ 536870912 ∧ ∀ i, i < len → ¬ 255 < cv A (o + i)
def E (b : Addr) (A : Cell) (o len : Nat) (r : Option Value) (s u : State) : Prop := NewArr .byte "[B" len (fun j => .int (lo8 (cv A (o + j)))) r s u ∧ u.heap.size = s.heap.size + 1
/-- no char of the range above 255: a new byte[] of their low bytes -/
theorem law (l : Launch) (b : Addr) (A : Cell) (o len : Nat) : Law l yN 3 3 1 18 yB 6 (some (.array .byte)) site (P b A o len) (E b A o len) [] 1 len := by
  refine Law.of_walk (plainFor_of_name (by decide +kernel)) (by decide +kernel) (by decide +kernel) (by decide) (fun _ _ h => by rw [h.1]; rfl) (fun _ U U' hal hh h => ⟨h.1, h.2.1.mv hal hh, h.2.2⟩) (fun r U U' V V' h1 hal h2 h => ⟨NewArr.mv r U U' V V' h1 hal h2 h.1, by rw [h1, h2]; exact h.2⟩) ?_
  intro p e s m args below meth c s₁ X0 hexec hbytes hml hret hlk hnm hown hh0 W hP
  obtain ⟨rfl, hA, l1, l2, hp⟩ := hP
  have a31 := hA.1.2.2.2
  have c1 : Steps p.tables e below (s₁.setTop (entryFrame m #[.ref b, .int (Int32.ofNat o), .int (Int32.ofNat len)] 6)) (s₁.setTop (mkF m 0 #[.val (.ref b), .val (.int (Int32.ofNat o)), .val (.int (Int32.ofNat len)), .unset, .unset, .unset] [])) := entry rfl
  have c2 : Steps p.tables e below (s₁.setTop (entryFrame m #[.ref b, .int (Int32.ofNat o), .int (Int32.ofNat len)] 6)) (s₁.setTop (mkF m 1 #[.val (.ref b), .val (.int (Int32.ofNat o)), .val (.int (Int32.ofNat len)), .unset, .unset, .unset] [.int (Int32.ofNat len)])) := c1.trans (by
    refine XS.iloadN X0.here hexec rfl (hb hbytes d0) rfl ?_
    exact Steps.refl _)
  obtain ⟨T3, B3, X3, ba3, bs3, bv3, bh3, bf3, st3⟩ := X0.anew hexec (atype := .byte) (wk W (.arrayClass .byte)) rfl (by show len * 1 ≤ _; omega) (by omega) (g := (mkF m 1 #[.val (.ref b), .val (.int (Int32.ofNat o)), .val (.int (Int32.ofNat len)), .unset, .unset, .unset] [.int (Int32.ofNat len)])) rfl (hb hbytes d1) (rest := []) rfl (Nat.le_refl _) (by show 0 + len ≤ len; omega)
  rw [hh0] at ba3 st3
  have kp3 : XT.Kept s T3 := (XT.Kept.of_eq hh0).push bh3
  have hA3 := hA.keep X3.warmed.alike (kp3 _ _ hA.1.1)
  have hne : b ≠ s.heap.size := hA.1.ne
  have c4 : Steps p.tables e below (s₁.setTop (entryFrame m #[.ref b, .int (Int32.ofNat o), .int (Int32.ofNat len)] 6)) (T3.setTop (mkF m 3 #[.val (.ref b), .val (.int (Int32.ofNat o)), .val (.int (Int32.ofNat len)), .unset, .unset, .unset] [.ref s.heap.size])) := c2.trans (st3 _ (Steps.refl _))
  have c5 : Steps p.tables e below (s₁.setTop (entryFrame m #[.ref b, .int (Int32.ofNat o), .int (Int32.ofNat len)] 6)) (T3.setTop (mkF m 9 #[.val (.ref b), .val (.int (Int32.ofNat o)), .val (.int (Int32.ofNat len)), .val (.ref s.heap.size), .unset, .unset] [.int (Int32.ofNat len), .int 0, .ref s.heap.size, .int (Int32.ofNat o), .ref b])) := c4.trans (by
    refine XS.astoreN X3.here hexec rfl (hb hbytes d3) rfl rfl rfl ?_
    refine XS.aloadN X3.here hexec rfl (hb hbytes d4) rfl rfl ?_
    refine XS.iloadN X3.here hexec rfl (hb hbytes d5) rfl ?_
    refine XS.aloadN X3.here hexec rfl (hb hbytes d6) rfl rfl ?_
    refine iconstV X3.here hexec rfl 0 (hb hbytes d7) (by decide) ?_
    refine XS.iloadN X3.here hexec rfl (hb hbytes d8) rfl ?_
    exact Steps.refl _)
  obtain ⟨v6, T6, X6, E6, g6⟩ := X3.callS hexec (Cmp5.law l b A s.heap.size B3 o 0 len) hown (wks W (staticW U16 115 Cmp5.yN)) (wk W Cmp5.tab) (W := 0) (Nat.le_of_ble_eq_true rfl) (Nat.le_of_ble_eq_true rfl) (Nat.le_refl _) (by show 0 + len + 0 ≤ len; omega) (g := (mkF m 9 #[.val (.ref b), .val (.int (Int32.ofNat o)), .val (.int (Int32.ofNat len)), .val (.ref s.heap.size), .unset, .unset] [.int (Int32.ofNat len), .int (Int32.ofNat 0), .ref s.heap.size, .int (Int32.ofNat o), .ref b])) rfl (by rw [hml]; rfl) c5 (argsL := [.ref b, .int (Int32.ofNat o), .ref s.heap.size, .int (Int32.ofNat 0), .int (Int32.ofNat len)]) (rest := []) rfl rfl (by show 2 * 0 + 0 ≤ _; decide) (hb hbytes d9) (⟨rfl, hA3, ba3, hne, l1, by rw [bs3]; simp, hp⟩)
  obtain ⟨rfl, B6, p6, f6⟩ := E6
  have c7 : Steps p.tables e below (s₁.setTop (entryFrame m #[.ref b, .int (Int32.ofNat o), .int (Int32.ofNat len)] 6)) (T6.setTop (mkF m 12 #[.val (.ref b), .val (.int (Int32.ofNat o)), .val (.int (Int32.ofNat len)), .val (.ref s.heap.size), .unset, .unset] [.int (Int32.ofNat len)])) := g6
  have c8 : Steps p.tables e below (s₁.setTop (entryFrame m #[.ref b, .int (Int32.ofNat o), .int (Int32.ofNat len)] 6)) (T6.setTop (mkF m 58 #[.val (.ref b), .val (.int (Int32.ofNat o)), .val (.int (Int32.ofNat len)), .val (.ref s.heap.size), .val (.int (Int32.ofNat len)), .unset] [.ref s.heap.size])) := c7.trans (by
    refine XS.istore X6.here hexec rfl (hb hbytes d12) rfl rfl ?_
    refine XS.iload X6.here hexec rfl (hb hbytes d14) rfl ?_
    refine XS.iloadN X6.here hexec rfl (hb hbytes d16) rfl ?_
    refine XS.icmpYes X6.here hexec rfl (pc0 := 17) rfl (hb hbytes d17) rfl (ii_eq_t rfl) (by decide) rfl ?_
    refine XS.aloadN X6.here hexec rfl (hb hbytes d57) rfl rfl ?_
    exact Steps.refl _)
  have X8 := X6.wide (L' := []) (cells' := 1) (slots' := len) (fun x hx hlt => by
    simp only [List.nil_append, copyLocs, List.mem_map, List.mem_range] at hx
    obtain ⟨i, -, rfl⟩ := hx
    exact absurd hlt (Nat.lt_irrefl _)) (Nat.le_refl _) (by omega)
  exact ⟨T6, some (.ref s.heap.size), _, _, _, X8, rfl, rfl, rfl, (fun h => by cases h), ⟨⟨rfl, B6, ba3.like (X3.warmed.alike.symm.trans X6.warmed.alike) p6.1 f6.1 f6.2.1 f6.2.2.1, f6.2.1.trans bv3, by rw [X6.warmed.alike.findClass, f6.1]; exact bf3, by rw [f6.2.2.1, bs3]; simp, fun j hj => by rw [f6.2.2.2 j, if_pos (by omega)]; rfl, kp3.put p6 (Nat.le_refl _)⟩, by rw [p6.2.2, bh3, hh0]; simp⟩, fun fs hl => c8.trans (X8.areturnOut hexec rfl hret rfl (hb hbytes d58) hl)⟩
end Cmp3
namespace CodL
def yN : MethodName := ⟨"java/lang/StringUTF16", "coderFromArrayLen", "([BI)B"⟩
abbrev yB : ByteArray := jdk_52_method_15_code
theorem d0 : decode yB 0 = .ok (.iload_n 1, 1) := by decide +kernel
theorem d1 : decode yB 1 = .ok (.aload_n 0, 1) := by decide +kernel
theorem d2 : decode yB 2 = .ok (.arraylength, 1) := by decide +kernel
theorem d3 : decode yB 3 = .ok (.isub, 1) := by decide +kernel
theorem d4 : decode yB 4 = .ok (.bipush 31, 2) := by decide +kernel
theorem d6 : decode yB 6 = .ok (.iushr, 1) := by decide +kernel
theorem d7 : decode yB 7 = .ok (.i2b, 1) := by decide +kernel
theorem d8 : decode yB 8 = .ok (.ireturn, 1) := by decide +kernel
def site : List Cond := []
def tab : Cond := tabOf yN yB 2 (some .byte) site
def P (d : Addr) (B : Cell) (args : Array Value) (s : State) : Prop := args = #[.ref d, .int (Int32.ofNat B.slots.size)] ∧ Arr .byte d B s
def E (r : Option Value) (s u : State) : Prop := XT.PureE (some (.int 0)) r s u
/-- an array as long as the number of chars: LATIN1 -/
theorem law (l : Launch) (d : Addr) (B : Cell) : Law l yN 2 2 0 0 yB 2 (some .byte) site (P d B) E [] 0 0 := by
  refine Law.of_walk (plainFor_of_name (by decide +kernel)) (by decide +kernel) (by decide +kernel) (by decide) (fun _ _ h => by rw [h.1]; rfl) (fun _ U U' hal hh h => ⟨h.1, h.2.mv hal hh⟩) (fun r U U' V V' h1 hal h2 h => XT.PureE.mv r U U' V V' h1 hal h2 h) ?_
  intro p e s m args below meth c s₁ X0 hexec hbytes hml hret hlk hnm hown hh0 W hP
  obtain ⟨rfl, hB⟩ := hP
  have hB0 := hB.mv X0.warmed.alike hh0
  have c1 : Steps p.tables e below (s₁.setTop (entryFrame m #[.ref d, .int (Int32.ofNat B.slots.size)] 2)) (s₁.setTop (mkF m 0 #[.val (.ref d), .val (.int (Int32.ofNat B.slots.size))] [])) := entry rfl
  have c2 : Steps p.tables e below (s₁.setTop (entryFrame m #[.ref d, .int (Int32.ofNat B.slots.size)] 2)) (s₁.setTop (mkF m 2 #[.val (.ref d), .val (.int (Int32.ofNat B.slots.size))] [.ref d, .int (Int32.ofNat B.slots.size)])) := c1.trans (by
    refine XS.iloadN X0.here hexec rfl (hb hbytes d0) rfl ?_
    refine XS.aloadN X0.here hexec rfl (hb hbytes d1) rfl rfl ?_
    exact Steps.refl _)
  have c3 : Steps p.tables e below (s₁.setTop (entryFrame m #[.ref d, .int (Int32.ofNat B.slots.size)] 2)) (s₁.setTop (mkF m 8 #[.val (.ref d), .val (.int (Int32.ofNat B.slots.size))] [.int (lo8 (ushr (Int32.ofNat B.slots.size - Int32.ofNat B.slots.size) 31))])) := c2.trans (by
    refine X0.alen hexec hB0 rfl rfl (hb hbytes d2) ?_
    refine XS.isub X0.here hexec rfl (hb hbytes d3) rfl ?_
    refine bipushV X0.here hexec rfl 31 (hb hbytes d4) (by decide) ?_
    refine iushr X0.here hexec rfl (hb hbytes d6) rfl ?_
    refine i2b X0.here hexec rfl (hb hbytes d7) rfl ?_
    exact Steps.refl _)
  have e0 : lo8 (ushr (Int32.ofNat B.slots.size - Int32.ofNat B.slots.size) 31) = 0 := by rw [Int32.sub_self]; decide
  rw [e0] at c3
  exact ⟨s₁, some (.int 0), _, _, _, X0, rfl, rfl, rfl, (fun h => by cases h), ⟨rfl, hh0⟩, fun fs hl => c3.trans (X0.ireturnOut hexec hret rfl (Or.inr (Or.inr (Or.inl rfl))) (hb hbytes d8) hl)⟩
end CodL
/-- the String at a is Latin-1 over a new byte[] (the heap's one new cell): the low bytes of the len chars of A from o on; every cell but a is kept -/
def Got (a : Addr) (D : Cell) (fV fC : Field) (A : Cell) (o len : Nat) (r : Option Value) (s u : State) : Prop := r = none ∧ ∃ D' V : Cell, Blank "java/lang/String" a D' u ∧ Same D D' [fV.slot, fC.slot] ∧ D'.slots[fV.slot]? = some (.ref s.heap.size) ∧ D'.slots[fC.slot]? = some (.int 0) ∧ Arr .byte s.heap.size V u ∧ V.vm = .none ∧ u.vm.findClass "[B" = some V.cls ∧ V.slots.size = len ∧ (∀ j, j < len → V.slots[j]? = some (.int (lo8 (cv A (o + j))))) ∧ (∀ (y : Addr) (c : Cell), y ≠ a → s.heap[y]? = some c → u.heap[y]? = some c) ∧ u.heap.size = s.heap.size + 1
theorem Got.mv {a : Addr} {D A : Cell} {fV fC : Field} {o len : Nat} : ∀ r (U U' V V' : State), U'.heap = U.heap → V.vm.Alike V'.vm → V'.heap = V.heap → Got a D fV fC A o len r U V → Got a D fV fC A o len r U' V' :=
  fun r U U' V V' h1 hal h2 ⟨e0, D', X, a1, a2, a3, a4, a5, a6, a7, a8, a9, a10, a11⟩ => ⟨e0, D', X, a1.mv hal h2, a2, by rw [h1]; exact a3, a4, by rw [h1]; exact a5.mv hal h2, a6, by rw [hal.findClass]; exact a7, a8, a9, by rw [h1, h2]; exact a10, by rw [h1, h2]; exact a11⟩
namespace New4
def yN : MethodName := ⟨"java/lang/String", "<init>", "([CIILjava/lang/Void;)V"⟩
abbrev yB : ByteArray := jdk_42_method_149_code
theorem d0 : decode yB 0 = .ok (.aload_n 0, 1) := by decide +kernel
theorem d1 : decode yB 1 = .ok (.invokespecial 1, 3) := by decide +kernel
theorem d4 : decode yB 4 = .ok (.iload_n 3, 1) := by decide +kernel
theorem d5 : decode yB 5 = .ok (.ifCond (.ne) 22, 3) := by decide +kernel
theorem d27 : decode yB 27 = .ok (.getstatic 38, 3) := by decide +kernel
theorem d30 : decode yB 30 = .ok (.ifCond (.eq) 28, 3) := by decide +kernel
theorem d33 : decode yB 33 = .ok (.aload_n 1, 1) := by decide +kernel
theorem d34 : decode yB 34 = .ok (.iload_n 2, 1) := by decide +kernel
theorem d35 : decode yB 35 = .ok (.iload_n 3, 1) := by decide +kernel
theorem d36 : decode yB 36 = .ok (.invokestatic 177, 3) := by decide +kernel
theorem d39 : decode yB 39 = .ok (.astore 5, 2) := by decide +kernel
theorem d41 : decode yB 41 = .ok (.aload_n 0, 1) := by decide +kernel
theorem d42 : decode yB 42 = .ok (.aload 5, 2) := by decide +kernel
theorem d44 : decode yB 44 = .ok (.iload_n 3, 1) := by decide +kernel
theorem d45 : decode yB 45 = .ok (.invokestatic 47, 3) := by decide +kernel
theorem d48 : decode yB 48 = .ok (.putfield 15, 3) := by decide +kernel
theorem d51 : decode yB 51 = .ok (.aload_n 0, 1) := by decide +kernel
theorem d52 : decode yB 52 = .ok (.aload 5, 2) := by decide +kernel
theorem d54 : decode yB 54 = .ok (.putfield 9, 3) := by decide +kernel
theorem d57 : decode yB 57 = .ok (.return_, 1) := by decide +kernel
def site : List Cond := [.fieldLink "java/lang/String" 38 "java/lang/String" "COMPACT_STRINGS" "Z", Cmp3.tab, CodL.tab, .laysFinal "java/lang/String" "java/lang/String" "value" "[B", .fieldLink "java/lang/String" 9 "java/lang/String" "value" "[B", .laysFinal "java/lang/String" "java/lang/String" "coder" "B", .fieldLink "java/lang/String" 15 "java/lang/String" "coder" "B"] ++ objW "java/lang/String" 1 ++ staticW "java/lang/String" 177 Cmp3.yN ++ staticW "java/lang/String" 47 CodL.yN
def tab : Cond := tabOf yN yB 6 none site
def P (a : Addr) (D : Cell) (fV fC : Field) (b : Addr) (A : Cell) (z : Int32) (o len : Nat) (args : Array Value) (s : State) : Prop := args = #[.ref a, .ref b, .int (Int32.ofNat o), .int (Int32.ofNat len), .null] ∧ Blank "java/lang/String" a D s ∧ Found "java/lang/String" "value" "[B" fV s ∧ Found "java/lang/String" "coder" "B" fC s ∧ Ch b A s ∧ StaticIs s "java/lang/String" "COMPACT_STRINGS" "Z" (.int z) ∧ ¬ z = 0 ∧ 0 < len ∧ o + len ≤ A.slots.size ∧ len ≤ 536870912 ∧ ∀ i, i < len → ¬ 255 < cv A (o + i)
def E (a : Addr) (D : Cell) (fV fC : Field) (A : Cell) (o len : Nat) (r : Option Value) (s u : State) : Prop := Got a D fV fC A o len r s u
/-- len > 0, no char of the range above 255: a Latin-1 String of their low bytes -/
theorem law (l : Launch) (a : Addr) (D : Cell) (fV fC : Field) (b : Addr) (A : Cell) (z : Int32) (o len : Nat) : Law l yN 5 4 2 35 yB 6 none site (P a D fV fC b A z o len) (E a D fV fC A o len) [⟨a, fC.slot⟩, ⟨a, fV.slot⟩] 1 len := by
  refine Law.of_walk (plainFor_of_name (by decide +kernel)) (by decide +kernel) (by decide +kernel) (by decide) (fun _ _ h => by rw [h.1]; rfl) (fun _ U U' hal hh h => ⟨h.1, h.2.1.mv hal hh, h.2.2.1.al hal, h.2.2.2.1.al hal, h.2.2.2.2.1.mv hal hh, h.2.2.2.2.2.1.there hal hh, h.2.2.2.2.2.2⟩) (fun r U U' V V' h1 hal h2 h => Got.mv r U U' V V' h1 hal h2 h) ?_
  intro p e s m args below meth c s₁ X0 hexec hbytes hml hret hlk hnm hown hh0 W hP
  obtain ⟨rfl, hB, f1, f2, hA, s1, hz, l0, l1, l2, hp⟩ := hP
  have a31 := hA.1.2.2.2
  have c1 : Steps p.tables e below (s₁.setTop (entryFrame m #[.ref a, .ref b, .int (Int32.ofNat o), .int (Int32.ofNat len), .null] 6)) (s₁.setTop (mkF m 0 #[.val (.ref a), .val (.ref b), .val (.int (Int32.ofNat o)), .val (.int (Int32.ofNat len)), .val .null, .unset] [])) := entry rfl
  have c2 : Steps p.tables e below (s₁.setTop (entryFrame m #[.ref a, .ref b, .int (Int32.ofNat o), .int (Int32.ofNat len), .null] 6)) (s₁.setTop (mkF m 1 #[.val (.ref a), .val (.ref b), .val (.int (Int32.ofNat o)), .val (.int (Int32.ofNat len)), .val .null, .unset] [.ref a])) := c1.trans (by
    refine XS.aloadN X0.here hexec rfl (hb hbytes d0) rfl rfl ?_
    exact Steps.refl _)
  obtain ⟨T3, X3, q3, st3⟩ := X0.oinit hexec hown (wks W (objW "java/lang/String" 1)) (g := (mkF m 1 #[.val (.ref a), .val (.ref b), .val (.int (Int32.ofNat o)), .val (.int (Int32.ofNat len)), .val .null, .unset] [.ref a])) rfl (by rw [hml]; rfl) (rest := []) rfl (hb hbytes d1) (W := 0) (by show 2 * 0 + 0 ≤ _; decide) (Nat.le_of_ble_eq_true rfl) (Nat.le_of_ble_eq_true rfl)
  have hh3 := q3.trans hh0
  have c4 : Steps p.tables e below (s₁.setTop (entryFrame m #[.ref a, .ref b, .int (Int32.ofNat o), .int (Int32.ofNat len), .null] 6)) (T3.setTop (mkF m 27 #[.val (.ref a), .val (.ref b), .val (.int (Int32.ofNat o)), .val (.int (Int32.ofNat len)), .val .null, .unset] [])) := (c2.trans (st3 _ (Steps.refl _))).trans (by
    refine XS.iloadN X3.here hexec rfl (hb hbytes d4) rfl ?_
    refine XS.ifYes X3.here hexec rfl (pc0 := 5) rfl (hb hbytes d5) rfl (i0_ne_t (nz32 (by omega) l0)) (by decide) rfl ?_
    exact Steps.refl _)
  obtain ⟨T5, X5, q5, st5⟩ := X3.sget hexec hown (wk W (.fieldLink "java/lang/String" 38 "java/lang/String" "COMPACT_STRINGS" "Z")) s1 (fun _ _ h => by rw [hh3]; exact h) (g := (mkF m 27 #[.val (.ref a), .val (.ref b), .val (.int (Int32.ofNat o)), .val (.int (Int32.ofNat len)), .val .null, .unset] [])) rfl (hb hbytes d27)
  have hh5 := q5.trans hh3
  have c6 : Steps p.tables e below (s₁.setTop (entryFrame m #[.ref a, .ref b, .int (Int32.ofNat o), .int (Int32.ofNat len), .null] 6)) (T5.setTop (mkF m 30 #[.val (.ref a), .val (.ref b), .val (.int (Int32.ofNat o)), .val (.int (Int32.ofNat len)), .val .null, .unset] [.int z])) := c4.trans (st5 _ (Steps.refl _))
  have c7 : Steps p.tables e below (s₁.setTop (entryFrame m #[.ref a, .ref b, .int (Int32.ofNat o), .int (Int32.ofNat len), .null] 6)) (T5.setTop (mkF m 36 #[.val (.ref a), .val (.ref b), .val (.int (Int32.ofNat o)), .val (.int (Int32.ofNat len)), .val .null, .unset] [.int (Int32.ofNat len), .int (Int32.ofNat o), .ref b])) := c6.trans (by
    refine XS.ifNo X5.here hexec rfl (hb hbytes d30) rfl (i0_eq_f hz) ?_
    refine XS.aloadN X5.here hexec rfl (hb hbytes d33) rfl rfl ?_
    refine XS.iloadN X5.here hexec rfl (hb hbytes d34) rfl ?_
    refine XS.iloadN X5.here hexec rfl (hb hbytes d35) rfl ?_
    exact Steps.refl _)
  obtain ⟨v8, T8, X8, E8, g8⟩ := X5.callS hexec (Cmp3.law l b A o len) hown (wks W (staticW "java/lang/String" 177 Cmp3.yN)) (wk W Cmp3.tab) (W := 0) (Nat.le_of_ble_eq_true rfl) (Nat.le_of_ble_eq_true rfl) (Nat.le_refl _) (by show 0 + len ≤ len; omega) (g := (mkF m 36 #[.val (.ref a), .val (.ref b), .val (.int (Int32.ofNat o)), .val (.int (Int32.ofNat len)), .val .null, .unset] [.int (Int32.ofNat len), .int (Int32.ofNat o), .ref b])) rfl (by rw [hml]; rfl) c7 (argsL := [.ref b, .int (Int32.ofNat o), .int (Int32.ofNat len)]) (rest := []) rfl rfl (by show 2 * 0 + 0 ≤ _; decide) (hb hbytes d36) (⟨rfl, hA.mv X5.warmed.alike hh5, l1, l2, hp⟩)
  obtain ⟨e8, z8⟩ := E8
  obtain ⟨rfl, N, n1, n2, n3, n4, n5, n6⟩ := NewArr.mv _ T5 s _ _ hh5.symm (Vm.Alike.refl _) rfl e8
  rw [hh5] at z8
  have hB1 := hB.keep X8.warmed.alike (n6 _ _ hB.1)
  have hne : s.heap.size ≠ a := (Nat.ne_of_lt (Array.getElem?_eq_some_iff.mp hB.1).1).symm
  have c9 : Steps p.tables e below (s₁.setTop (entryFrame m #[.ref a, .ref b, .int (Int32.ofNat o), .int (Int32.ofNat len), .null] 6)) (T8.setTop (mkF m 39 #[.val (.ref a), .val (.ref b), .val (.int (Int32.ofNat o)), .val (.int (Int32.ofNat len)), .val .null, .unset] [.ref s.heap.size])) := g8
  have c10 : Steps p.tables e below (s₁.setTop (entryFrame m #[.ref a, .ref b, .int (Int32.ofNat o), .int (Int32.ofNat len), .null] 6)) (T8.setTop (mkF m 45 #[.val (.ref a), .val (.ref b), .val (.int (Int32.ofNat o)), .val (.int (Int32.ofNat len)), .val .null, .val (.ref s.heap.size)] [.int (Int32.ofNat N.slots.size), .ref s.heap.size, .ref a])) := by
    have hc : Steps p.tables e below (s₁.setTop (entryFrame m #[.ref a, .ref b, .int (Int32.ofNat o), .int (Int32.ofNat len), .null] 6)) (T8.setTop (mkF m 45 #[.val (.ref a), .val (.ref b), .val (.int (Int32.ofNat o)), .val (.int (Int32.ofNat len)), .val .null, .val (.ref s.heap.size)] [.int (Int32.ofNat len), .ref s.heap.size, .ref a])) := c9.trans (by
      refine XS.astore X8.here hexec rfl (hb hbytes d39) rfl rfl rfl ?_
      refine XS.aloadN X8.here hexec rfl (hb hbytes d41) rfl rfl ?_
      refine XS.aload X8.here hexec rfl (hb hbytes d42) rfl rfl ?_
      refine XS.iloadN X8.here hexec rfl (hb hbytes d44) rfl ?_
      exact Steps.refl _)
    rw [n4]; exact hc
  obtain ⟨v11, T11, X11, E11, g11⟩ := X8.callS hexec (CodL.law l s.heap.size N) hown (wks W (staticW "java/lang/String" 47 CodL.yN)) (wk W CodL.tab) (W := 1) (Nat.le_of_ble_eq_true rfl) (Nat.le_of_ble_eq_true rfl) (Nat.le_refl _) (by show 0 + len + 0 ≤ len; omega) (g := (mkF m 45 #[.val (.ref a), .val (.ref b), .val (.int (Int32.ofNat o)), .val (.int (Int32.ofNat len)), .val .null, .val (.ref s.heap.size)] [.int (Int32.ofNat N.slots.size), .ref s.heap.size, .ref a])) rfl (by rw [hml]; rfl) c10 (argsL := [.ref s.heap.size, .int (Int32.ofNat N.slots.size)]) (rest := [.ref a]) rfl rfl (by show 2 * 0 + (1 + 0) ≤ _; decide) (hb hbytes d45) (⟨rfl, n1⟩)
  obtain ⟨rfl, q11⟩ := E11
  have hB11 := hB1.mv (X8.warmed.alike.symm.trans X11.warmed.alike) q11
  have c12 : Steps p.tables e below (s₁.setTop (entryFrame m #[.ref a, .ref b, .int (Int32.ofNat o), .int (Int32.ofNat len), .null] 6)) (T11.setTop (mkF m 48 #[.val (.ref a), .val (.ref b), .val (.int (Int32.ofNat o)), .val (.int (Int32.ofNat len)), .val .null, .val (.ref s.heap.size)] [.int 0, .ref a])) := g11
  obtain ⟨T13, X13, p13, bl13, sl13, st13⟩ := X11.finit hexec hown (wk W (.fieldLink "java/lang/String" 15 "java/lang/String" "coder" "B")) (Or.inr ⟨_, (wk W (.laysFinal "java/lang/String" "java/lang/String" "coder" "B"))⟩) (Or.inl ⟨rfl, hnm⟩) f2 (Or.inl rfl) hB11 (t := .byte) (by decide +kernel) rfl (g := (mkF m 48 #[.val (.ref a), .val (.ref b), .val (.int (Int32.ofNat o)), .val (.int (Int32.ofNat len)), .val .null, .val (.ref s.heap.size)] [.int 0, .ref a])) rfl (rest := []) rfl (hb hbytes d48)
  have c14 : Steps p.tables e below (s₁.setTop (entryFrame m #[.ref a, .ref b, .int (Int32.ofNat o), .int (Int32.ofNat len), .null] 6)) (T13.setTop (mkF m 54 #[.val (.ref a), .val (.ref b), .val (.int (Int32.ofNat o)), .val (.int (Int32.ofNat len)), .val .null, .val (.ref s.heap.size)] [.ref s.heap.size, .ref a])) := (c12.trans (st13 _ (Steps.refl _))).trans (by
    refine XS.aloadN X13.here hexec rfl (hb hbytes d51) rfl rfl ?_
    refine XS.aload X13.here hexec rfl (hb hbytes d52) rfl rfl ?_
    exact Steps.refl _)
  obtain ⟨T15, X15, p15, bl15, sl15, st15⟩ := X13.finit hexec hown (wk W (.fieldLink "java/lang/String" 9 "java/lang/String" "value" "[B")) (Or.inr ⟨_, (wk W (.laysFinal "java/lang/String" "java/lang/String" "value" "[B"))⟩) (Or.inl ⟨rfl, hnm⟩) f1 (Or.inl rfl) bl13 (t := (.array .byte)) (by decide +kernel) rfl (g := (mkF m 54 #[.val (.ref a), .val (.ref b), .val (.int (Int32.ofNat o)), .val (.int (Int32.ofNat len)), .val .null, .val (.ref s.heap.size)] [.ref s.heap.size, .ref a])) rfl (rest := []) rfl (hb hbytes d54)
  have c16 : Steps p.tables e below (s₁.setTop (entryFrame m #[.ref a, .ref b, .int (Int32.ofNat o), .int (Int32.ofNat len), .null] 6)) (T15.setTop (mkF m 57 #[.val (.ref a), .val (.ref b), .val (.int (Int32.ofNat o)), .val (.int (Int32.ofNat len)), .val .null, .val (.ref s.heap.size)] [])) := c14.trans (st15 _ (Steps.refl _))
  have ap := apart (Or.inr ⟨_, (wk W (.laysFinal "java/lang/String" "java/lang/String" "value" "[B"))⟩) (Or.inr ⟨_, (wk W (.laysFinal "java/lang/String" "java/lang/String" "coder" "B"))⟩) f1 f2 (t₁ := .array .byte) (t₂ := .byte) (by decide +kernel) (by decide +kernel) (by decide)
  have al := X8.warmed.alike.symm.trans X15.warmed.alike
  have n7 : T11.heap[s.heap.size]? = some N := by rw [q11]; exact n1.1
  exact ⟨T15, none, _, _, _, X15, by simp, rfl, by omega, (fun _ => rfl), ⟨rfl, _, N, bl15, ((Same.refl D _).set _ (by simp)).set _ (by simp), sl15, (Cell.slots_setSlot_ne _ ap).trans sl13, n1.keep al (p15.other hne (p13.other hne n7)), n2, by rw [al.findClass]; exact n3, n4, n5, fun y c h1 h2 => p15.other h1 (p13.other h1 (by rw [q11]; exact n6 y c h2)), by rw [p15.2.2, p13.2.2, q11]; exact z8⟩, fun fs hl => c16.trans (X15.returnOut hexec hret (hb hbytes d57) hl)⟩
end New4
namespace New1
def yN : MethodName := ⟨"java/lang/String", "<init>", "([C)V"⟩
abbrev yB : ByteArray := jdk_42_method_3_code
theorem d0 : decode yB 0 = .ok (.aload_n 0, 1) := by decide +kernel
theorem d1 : decode yB 1 = .ok (.aload_n 1, 1) := by decide +kernel
theorem d2 : decode yB 2 = .ok (.iconst 0, 1) := by decide +kernel
theorem d3 : decode yB 3 = .ok (.aload_n 1, 1) := by decide +kernel
theorem d4 : decode yB 4 = .ok (.arraylength, 1) := by decide +kernel
theorem d5 : decode yB 5 = .ok (.aconst_null, 1) := by decide +kernel
theorem d6 : decode yB 6 = .ok (.invokespecial 27, 3) := by decide +kernel
theorem d9 : decode yB 9 = .ok (.return_, 1) := by decide +kernel
def site : List Cond := [New4.tab] ++ initW "java/lang/String" 27 New4.yN
def tab : Cond := tabOf yN yB 2 none site
def P (a : Addr) (D : Cell) (fV fC : Field) (b : Addr) (A : Cell) (z : Int32) (args : Array Value) (s : State) : Prop := args = #[.ref a, .ref b] ∧ Blank "java/lang/String" a D s ∧ Found "java/lang/String" "value" "[B" fV s ∧ Found "java/lang/String" "coder" "B" fC s ∧ Ch b A s ∧ StaticIs s "java/lang/String" "COMPACT_STRINGS" "Z" (.int z) ∧ ¬ z = 0 ∧ 0 < A.slots.size ∧ A.slots.size ≤ 536870912 ∧ ∀ i, i < A.slots.size → ¬ 255 < cv A i
def E (a : Addr) (D : Cell) (fV fC : Field) (A : Cell) (r : Option Value) (s u : State) : Prop := Got a D fV fC A 0 A.slots.size r s u
/-- new String(chars), not empty, no char above 255: a Latin-1 String of their low bytes -/
theorem law (l : Launch) (a : Addr) (D : Cell) (fV fC : Field) (b : Addr) (A : Cell) (z : Int32) : Law l yN 2 1 3 52 yB 2 none site (P a D fV fC b A z) (E a D fV fC A) [⟨a, fC.slot⟩, ⟨a, fV.slot⟩] 1 A.slots.size := by
  refine Law.of_walk (plainFor_of_name (by decide +kernel)) (by decide +kernel) (by decide +kernel) (by decide) (fun _ _ h => by rw [h.1]; rfl) (fun _ U U' hal hh h => ⟨h.1, h.2.1.mv hal hh, h.2.2.1.al hal, h.2.2.2.1.al hal, h.2.2.2.2.1.mv hal hh, h.2.2.2.2.2.1.there hal hh, h.2.2.2.2.2.2⟩) (fun r U U' V V' h1 hal h2 h => Got.mv r U U' V V' h1 hal h2 h) ?_
  intro p e s m args below meth c s₁ X0 hexec hbytes hml hret hlk hnm hown hh0 W hP
  obtain ⟨rfl, hB, f1, f2, hA, s1, hz, l0, l2, hp⟩ := hP
  have c1 : Steps p.tables e below (s₁.setTop (entryFrame m #[.ref a, .ref b] 2)) (s₁.setTop (mkF m 0 #[.val (.ref a), .val (.ref b)] [])) := entry rfl
  have c2 : Steps p.tables e below (s₁.setTop (entryFrame m #[.ref a, .ref b] 2)) (s₁.setTop (mkF m 6 #[.val (.ref a), .val (.ref b)] [.null, .int (Int32.ofNat A.slots.size), .int 0, .ref b, .ref a])) := c1.trans (by
    refine XS.aloadN X0.here hexec rfl (hb hbytes d0) rfl rfl ?_
    refine XS.aloadN X0.here hexec rfl (hb hbytes d1) rfl rfl ?_
    refine iconstV X0.here hexec rfl 0 (hb hbytes d2) (by decide) ?_
    refine XS.aloadN X0.here hexec rfl (hb hbytes d3) rfl rfl ?_
    refine X0.alen hexec (hA.1.mv X0.warmed.alike hh0) rfl rfl (hb hbytes d4) ?_
    refine XS.aconstNull X0.here hexec rfl (hb hbytes d5) ?_
    exact Steps.refl _)
  obtain ⟨v3, T3, X3, E3, g3⟩ := X0.callN hexec (New4.law l a D fV fC b A z 0 A.slots.size) rfl hown (wks W (initW "java/lang/String" 27 New4.yN)) (W New4.tab (by simp only [site, List.mem_cons, List.mem_append, true_or, or_true])) (W := 0) (Nat.le_of_ble_eq_true rfl) (Nat.le_of_ble_eq_true rfl) (Nat.le_refl _) (by show 0 + A.slots.size ≤ A.slots.size; omega) (g := (mkF m 6 #[.val (.ref a), .val (.ref b)] [.null, .int (Int32.ofNat A.slots.size), .int (Int32.ofNat 0), .ref b, .ref a])) rfl (by rw [hml]; rfl) c2 (argsL := [.ref b, .int (Int32.ofNat 0), .int (Int32.ofNat A.slots.size), .null]) (rest := []) rfl rfl (by show 2 * 0 + 0 ≤ _; decide) (hb hbytes d6) (⟨rfl, hB.mv X0.warmed.alike hh0, f1.al X0.warmed.alike, f2.al X0.warmed.alike, hA.mv X0.warmed.alike hh0, s1.there X0.warmed.alike hh0, hz, l0, by omega, l2, fun i hi => by rw [Nat.zero_add]; exact hp i hi⟩)
  have e0 := Got.mv _ s₁ s _ _ hh0.symm (Vm.Alike.refl _) rfl E3
  obtain rfl := e0.1
  have c4 : Steps p.tables e below (s₁.setTop (entryFrame m #[.ref a, .ref b] 2)) (T3.setTop (mkF m 9 #[.val (.ref a), .val (.ref b)] [])) := g3
  exact ⟨T3, none, _, _, _, X3, by simp, rfl, by omega, (fun _ => rfl), e0, fun fs hl => c4.trans (X3.returnOut hexec hret (hb hbytes d9) hl)⟩
theorem pays {l : Launch} {R : Room} {p : Program} {e : Env} {below : List Frame} {s : State} {sargs : Array Value} {len W : Nat} (a : Addr) (D : Cell) (fV fC : Field) (b : Addr) (A : Cell) (z : Int32) (htab : tab.before sargs s = true) (hfr : 4 ≤ R.frames) (hlo : W + 65 ≤ R.locals) :
    Back l R p e below s sargs yN len W (fun A₁ a₁ => A₁.cells + 1 ≤ R.cells ∧ A₁.slots + A.slots.size ≤ R.slots ∧ P a D fV fC b A z a₁ A₁.U) (fun A₁ _ v₁ B₁ => E a D fV fC A v₁ A₁.U B₁.U ∧ B₁.locs = A₁.locs ++ [⟨a, fC.slot⟩, ⟨a, fV.slot⟩] ∧ B₁.cells = A₁.cells + 1 ∧ B₁.slots = A₁.slots + A.slots.size) :=
  (law l a D fV fC b A z).pays htab hfr (by omega)
end New1
end StrChars
namespace StrChars.Road
open Jvm Sem ClassFile Op Lib Jvm.Stand Jvm.Free Jvm.Free.XT
open Jvm.Lib.Cold (StaticIs)
abbrev ST : String := "java/lang/String"
/-- every table word that New1's law asks, flat -/
abbrev words : List Jvm.Cond := [.code New1.yN New1.yB 2 none, .initialized ST, .methodLink ST 27 New4.yN, .instanceMethod New4.yN,
  .code New4.yN New4.yB 6 none, .fieldLink ST 38 ST "COMPACT_STRINGS" "Z", .laysFinal ST ST "value" "[B", .fieldLink ST 9 ST "value" "[B", .laysFinal ST ST "coder" "B", .fieldLink ST 15 ST "coder" "B",
  .methodLink ST 1 Lib.objectInit, .instanceMethod Lib.objectInit, .code Lib.objectInit ⟨#[0xb1]⟩ 1 none, .methodLink ST 177 Cmp3.yN, .static Cmp3.yN, .methodLink ST 47 CodL.yN, .static CodL.yN,
  .code Cmp3.yN Cmp3.yB 6 (some (.array .byte)), .initialized U16, .arrayClass .byte, .methodLink U16 115 Cmp5.yN, .static Cmp5.yN, .code Cmp5.yN Cmp5.yB 7 (some .int), .code CodL.yN CodL.yB 2 (some .byte)]
theorem tab_of {a : Array Value} {s : State} (h : ∀ w ∈ words, w.before a s = true) : New1.tab.before a s = true := by
  have h5 : Cmp5.tab.before a s = true := unparts (wk h (.code Cmp5.yN Cmp5.yB 7 (some .int))) (wks h (.initialized Cmp5.yN.cls :: Cmp5.site))
  have hc : CodL.tab.before a s = true := unparts (wk h (.code CodL.yN CodL.yB 2 (some .byte))) (wks h (.initialized CodL.yN.cls :: CodL.site))
  have q5 : ∀ w ∈ Cmp5.tab :: words, w.before a s = true := fun w hw => (List.mem_cons.mp hw).elim (fun e => e ▸ h5) (h w)
  have h3 : Cmp3.tab.before a s = true := unparts (wk q5 (.code Cmp3.yN Cmp3.yB 6 (some (.array .byte)))) (wks q5 (.initialized Cmp3.yN.cls :: Cmp3.site))
  have q3 : ∀ w ∈ Cmp3.tab :: CodL.tab :: words, w.before a s = true := fun w hw => (List.mem_cons.mp hw).elim (fun e => e ▸ h3) fun hw => (List.mem_cons.mp hw).elim (fun e => e ▸ hc) (h w)
  have h4 : New4.tab.before a s = true := unparts (wk q3 (.code New4.yN New4.yB 6 none)) (wks q3 (.initialized New4.yN.cls :: New4.site))
  have q4 : ∀ w ∈ New4.tab :: words, w.before a s = true := fun w hw => (List.mem_cons.mp hw).elim (fun e => e ▸ h4) (h w)
  exact unparts (wk q4 (.code New1.yN New1.yB 2 none)) (wks q4 (.initialized New1.yN.cls :: New1.site))
/-- the words ride from the start Z to the walk's own state -/
theorem moved {Z s : State} {a0 args : Array Value} (hZ : Z.Warmed39 s.vm) (hw : ∀ d ∈ words, d.before a0 Z = true) : ∀ d ∈ words, d.before args s = true := fun d hd => by
  have q := hw d hd
  have t : ∀ d ∈ words, d = .arrayClass .byte ∨ (d.onTables && d.keepsFace) = true := by decide +kernel
  rcases t d hd with rfl | t
  · exact RoadKit.mvA hZ q
  · exact RoadKit.mv hZ q t
/-- WHAT COMES BACK, over the tables of the start Z: h the heap at the call, h' behind it -/
def Q (Z : State) (x : Addr) (A : Cell) (h : Heap) (v : Option Value) (h' : Heap) (L : List Loc) : Prop := v = none ∧ (∀ y ∈ L, y.base = x) ∧ RoadKit.Keep h h' [x] ∧ h'.size = h.size + 1 ∧ RoadKit.Exa Z h' x ST ∧ RoadKit.Fld Z h' x ST "value" "[B" (.ref h.size) ∧ RoadKit.Fld Z h' x ST "coder" "B" (.int 0) ∧
  (∃ V : Cell, RoadKit.Arr Z h' h.size V .byte ∧ V.vm = .none ∧ Z.vm.findClass "[B" = some V.cls ∧ V.slots.size = A.slots.size ∧ ∀ j, j < A.slots.size → V.slots[j]? = some (.int (lo8 (cv A j)))) ∧
  ∀ (O n d : String) (w : Value), RoadKit.Fld Z h x O n d w → RoadKit.slotOf Z O n d ≠ RoadKit.slotOf Z ST "value" "[B" → RoadKit.slotOf Z O n d ≠ RoadKit.slotOf Z ST "coder" "B" → RoadKit.Fld Z h' x O n d w
/-- **new String(chars) AT A CALL, IN THE ROAD'S FORM**: for specialBack behind newO: x the fresh String, b the char[] with the cell A -/
theorem back {p : Program} {l : Launch} {e : Env} {R : Room} {s : State} {args : Array Value} {below : List Frame} {len W : Nat} {Z : State} {a0 : Array Value} {h : Heap} (hZ : Z.Warmed39 s.vm) (hw : ∀ d ∈ words, d.before a0 Z = true) {kI : Nat} (wi : (Jvm.Cond.instantiable ST kI).before a0 Z = true)
    {x b : Addr} {A : Cell} {z : Int32} {v0 c0 : Value} (E : RoadKit.Exa Z h x ST) (V : RoadKit.Fld Z h x ST "value" "[B" v0) (C : RoadKit.Fld Z h x ST "coder" "B" c0) (K : RoadKit.Arr Z h b A .char) (hty : Typed .char A) (S : RoadKit.Sta Z h ST "COMPACT_STRINGS" "Z" (.int z)) (hz : ¬ z = 0)
    (l0 : 0 < A.slots.size) (l2 : A.slots.size ≤ 536870912) (hp : ∀ i, i < A.slots.size → ¬ 255 < cv A i) (hfr : 4 ≤ R.frames) (hlo : W + 65 ≤ R.locals) :
    Back l R p e below s args New1.yN len W (fun P a => a = #[.ref x, .ref b] ∧ P.U.heap = h ∧ P.cells + 1 ≤ R.cells ∧ P.slots + A.slots.size ≤ R.slots)
      (fun P _ v B => ∃ L, Q Z x A h v B.U.heap L ∧ B.locs = P.locs ++ L ∧ B.cells = P.cells + 1 ∧ B.slots = P.slots + A.slots.size) := by
  intro m meth c P g ig mk a X hg hsize hdg hW hn hp'
  obtain ⟨rfl, rfl, r1, r2⟩ := hp'
  have al : Z.vm.Alike P.U.vm := hZ.alike.trans X.warmed.alike
  obtain ⟨D, cfV, kV, iV, fV, hD, gV, stV, knV, obV, asV, slV⟩ := id V
  obtain ⟨D', cfC, kC, iC, fC, hD', gC, stC, -, -, asC, slC⟩ := id C
  cases hD.symm.trans hD'
  obtain ⟨D2, kD, e1, e2, e3, e4, e5⟩ := id E
  cases hD.symm.trans e1
  obtain ⟨c2, k2, i1, i2, i3, -⟩ := Cond.instantiable_spec wi
  cases e2.symm.trans i1
  cases e3.symm.trans i2
  obtain ⟨kU, u1, u2⟩ := al.2.2 _ _ e3
  have hB : Blank ST x D P.U := ⟨hD, ⟨knV, fun q hq => by rw [hq] at obV; cases obV⟩, by rw [al.findClass]; exact e2, kU, u1, by rw [u2]; exact i3, by rw [u2]; exact e5 i3⟩
  have F1 : Found ST "value" "[B" fV P.U := ⟨SBG.found_only al ⟨cfV, kV, iV, gV⟩, stV⟩
  have F2 : Found ST "coder" "B" fC P.U := ⟨SBG.found_only al ⟨cfC, kC, iC, gC⟩, stC⟩
  have hA : Ch b A P.U := ⟨⟨K.1, State.isArrayOf_alike al K.2.1, K.2.2, by omega⟩, hty⟩
  have hS : StaticIs P.U ST "COMPACT_STRINGS" "Z" (.int z) := by
    obtain ⟨cfS, iS, kS, fS, st, cS, t1, t2, t3, t4, t5, t6, t7⟩ := S
    exact StaticIs.there (s := { Z with heap := P.U.heap }) ⟨cfS, iS, kS, fS, st, cS, t1, t2, t3, t4, t5, (fun q => by rw [q] at t6; cases t6), t7⟩ al rfl
  obtain ⟨v, B, X', ⟨⟨hv, E', V', q1, q2, q3, q4, q5, q6, q7, q8, q9, q10, q11⟩, hl, hc, hs⟩, st⟩ := New1.pays x D fV fC b A z (tab_of (moved hZ hw)) hfr hlo m meth c P g ig mk _ X hg hsize hdg hW hn ⟨r1, r2, rfl, hB, F1, F2, hA, hS, hz, l0, l2, hp⟩
  have al' : Z.vm.Alike B.U.vm := hZ.alike.trans X'.warmed.alike
  have hsz : E'.slots.size = D.slots.size := by
    obtain ⟨-, -, -, kB, w1, w2, w3⟩ := q1
    obtain ⟨kB', y1, y2⟩ := al'.2.2 _ _ e3
    rw [q2.2.1] at w1
    cases w1.symm.trans y1
    rw [w3, e5 i3, y2]
  refine ⟨v, B, X', ⟨_, ⟨hv, ?_, ⟨by omega, fun y cy hy hn' => q10 y cy (by simpa using hn') hy, fun y cy hy => ?_⟩, q11, ⟨E', _, q1.1, by rw [q2.2.1]; exact e2, by rw [q2.2.1]; exact e3, by rw [q2.1]; exact obV, fun _ => by rw [hsz]; exact e5 i3⟩,
    ⟨E', cfV, kV, iV, fV, q1.1, gV, stV, by rw [q2.1]; exact knV, by rw [q2.1]; exact obV, by rw [q2.2.1]; exact asV, q3⟩, ⟨E', cfC, kC, iC, fC, q1.1, gC, stC, by rw [q2.1]; exact knV, by rw [q2.1]; exact obV, by rw [q2.2.1]; exact asC, q4⟩,
    ⟨V', ⟨q5.1, State.isArrayOf_alike al'.symm q5.2.1, q5.2.2.1⟩, q6, by rw [← al'.findClass]; exact q7, q8, fun j hj => by have := q9 j hj; rwa [Nat.zero_add] at this⟩, fun O n d w F n1 n2 => ?_⟩, hl, hc, hs⟩, st⟩
  · intro y hy
    simp only [List.mem_cons, List.not_mem_nil, or_false] at hy
    rcases hy with rfl | rfl <;> rfl
  · by_cases q : y = x
    · subst q
      cases hD.symm.trans hy
      exact ⟨E', q1.1, q2.2.1, q2.1, hsz⟩
    · exact ⟨cy, q10 y cy q hy, rfl, rfl, rfl⟩
  · obtain ⟨D3, cf, k, i, f, g1, g2, g3, g4, g5, g6, g7⟩ := F
    cases hD.symm.trans g1
    simp only [RoadKit.slotOf, g2, gV, gC, Option.map_some, Option.getD_some] at n1 n2
    exact ⟨E', cf, k, i, f, q1.1, g2, g3, by rw [q2.1]; exact g4, by rw [q2.1]; exact g5, by rw [q2.2.1]; exact g6, by rw [q2.2.2 f.slot (by simp [n1, n2])]; exact g7⟩
end StrChars.Road
namespace StrChars.Road
open Jvm Sem ClassFile Op Lib Jvm.Stand Jvm.Free Jvm.Free.XT
/-- WHAT COMES BACK, the byte[] as a list of values -/
def QA (Z : State) (x : Addr) (zn : Int32) (cs : List Int32) (h : Heap) (v : Option Value) (h' : Heap) (L : List Loc) : Prop := v = none ∧ (∀ y ∈ L, y.base = x) ∧ RoadKit.Keep h h' [x] ∧ h'.size = h.size + 1 ∧ RoadKit.Exa Z h' x ST ∧ RoadKit.Fld Z h' x ST "value" "[B" (.ref h.size) ∧ RoadKit.Fld Z h' x ST "coder" "B" (.int 0) ∧
  (∃ kb, Z.vm.findClass "[B" = some kb ∧ RoadKit.Arv Z h' h.size kb .byte zn (cs.map fun c => .int (lo8 c)) (.int 0)) ∧
  ∀ (O n d : String) (w : Value), RoadKit.Fld Z h x O n d w → RoadKit.slotOf Z O n d ≠ RoadKit.slotOf Z ST "value" "[B" → RoadKit.slotOf Z O n d ≠ RoadKit.slotOf Z ST "coder" "B" → RoadKit.Fld Z h' x O n d w
/-- **new String(chars) AT A CALL, THE ARRAYS AS LISTS**: the char[] at b holds cs, not empty, no char above 255 -/
theorem backArv {p : Program} {l : Launch} {e : Env} {R : Room} {s : State} {args : Array Value} {below : List Frame} {len W : Nat} {Z : State} {a0 : Array Value} {h : Heap} (hZ : Z.Warmed39 s.vm) (hw : ∀ d ∈ words, d.before a0 Z = true) {kI : Nat} (wi : (Jvm.Cond.instantiable ST kI).before a0 Z = true)
    {x b : Addr} {k : ClassId} {zn z : Int32} {cs : List Int32} {dv v0 c0 : Value} (E : RoadKit.Exa Z h x ST) (V : RoadKit.Fld Z h x ST "value" "[B" v0) (C : RoadKit.Fld Z h x ST "coder" "B" c0) (K : RoadKit.Arv Z h b k .char zn (cs.map Value.int) dv) (S : RoadKit.Sta Z h ST "COMPACT_STRINGS" "Z" (.int z)) (hz : ¬ z = 0)
    (hlen : zn.toNatClampNeg = cs.length) (h0 : 0 < cs.length) (hbig : cs.length ≤ 536870912) (hall : ∀ c ∈ cs, ¬ 255 < c) (hfr : 4 ≤ R.frames) (hlo : W + 65 ≤ R.locals) :
    Back l R p e below s args New1.yN len W (fun P a => a = #[.ref x, .ref b] ∧ P.U.heap = h ∧ P.cells + 1 ≤ R.cells ∧ P.slots + cs.length ≤ R.slots)
      (fun P _ v B => ∃ L, QA Z x zn cs h v B.U.heap L ∧ B.locs = P.locs ++ L ∧ B.cells = P.cells + 1 ∧ B.slots = P.slots + cs.length) := by
  obtain ⟨A, K1, K2, K3, K4, K5, K6⟩ := K
  have e : A.slots.size = cs.length := K3.trans hlen
  have hat : ∀ (i : Nat) (hi : i < cs.length), A.slots[i]? = some (.int cs[i]) := fun i hi => by rw [K5 i (by omega)]; simp [List.getD_eq_getElem?_getD, hi]
  have hcv : ∀ (i : Nat) (hi : i < cs.length), cv A i = cs[i] := fun i hi => by unfold cv; rw [hat i hi]
  have hty : Typed .char A := fun i v hv => by
    have hi : i < A.slots.size := (Array.getElem?_eq_some_iff.mp hv).1
    have q := K5 i hi
    rw [hv] at q
    rw [Option.some.inj q]
    exact K6 i hi
  refine Back.mono (back hZ hw wi E V C K1 hty S hz (by omega) (by omega) (fun i hi => by rw [hcv i (by omega)]; exact hall _ (List.getElem_mem _)) hfr hlo) (fun P a hp => ⟨hp.1, hp.2.1, hp.2.2.1, by rw [e]; exact hp.2.2.2⟩) (fun P a v B hp hq => ?_)
  obtain ⟨L, ⟨q1, q2, q3, q4, q5, q6, q7, ⟨V', v1, v2, v3, v4, v5⟩, q9⟩, hl, hc, hs⟩ := hq
  refine ⟨L, ⟨q1, q2, q3, q4, q5, q6, q7, ⟨V'.cls, v3, V', v1, rfl, by rw [v4, e, hlen], K4, fun i hi => ?_, fun i hi => ?_⟩, q9⟩, hl, hc, by rw [hs, e]⟩
  · have hi' : i < cs.length := by omega
    rw [v5 i (by omega), hcv i hi']; simp [List.getD_eq_getElem?_getD, hi']
  · have hi' : i < cs.length := by omega
    simp only [List.getD_eq_getElem?_getD, List.getElem?_map, List.getElem?_eq_getElem hi', Option.map_some, Option.getD_some]
    exact fits_lo8 _
end StrChars.Road
namespace StrChars.Road
open Jvm Sem ClassFile Op Lib Jvm.Stand Jvm.Free Jvm.Free.XT
/-- WHAT COMES BACK, in the writer's own shape -/
def QV (Z : State) (x : Addr) (N : Int32) (bs : List Int32) (h : Heap) (n0 : Nat) (v : Option Value) (h' : Heap) (L : List Loc) : Prop := v = none ∧ RoadKit.Fr n0 L ∧ RoadKit.Keep h h' [x] ∧ RoadKit.Exa Z h' x ST ∧ RoadKit.Fld Z h' x ST "coder" "B" (.int 0) ∧
  ∃ (t : Addr) (kb : ClassId), n0 ≤ t ∧ h.size ≤ t ∧ ¬ t = x ∧ RoadKit.Fld Z h' x ST "value" "[B" (.ref t) ∧ RoadKit.Arv Z h' t kb .byte N (bs.map Value.int) (.int 0)
/-- **new String(chars) AT A CALL, FOR THE WRITER**: a char[] of n known ints, each 0 to 255 -/
theorem backV {p : Program} {l : Launch} {e : Env} {R : Room} {s : State} {args : Array Value} {below : List Frame} {len W : Nat} {Z : State} {a0 : Array Value} {h : Heap} (hZ : Z.Warmed39 s.vm) (hw : ∀ d ∈ words, d.before a0 Z = true) {kI : Nat} (wi : (Jvm.Cond.instantiable ST kI).before a0 Z = true)
    {x b : Addr} {kC : ClassId} {cs bs : List Int32} {d v0 c0 : Value} {z N : Int32} {n n0 : Nat} (hx0 : n0 ≤ x) (hh0 : n0 ≤ h.size) (E : RoadKit.Exa Z h x ST) (V : RoadKit.Fld Z h x ST "value" "[B" v0) (C : RoadKit.Fld Z h x ST "coder" "B" c0) (K : RoadKit.Arv Z h b kC .char N (cs.map Value.int) d) (S : RoadKit.Sta Z h ST "COMPACT_STRINGS" "Z" (.int z)) (hz : ¬ z = 0)
    (hn : cs.length = n) (hN : N = Int32.ofNat n) (l0 : 0 < n) (l2 : n ≤ 4000) (hp : ∀ c ∈ cs, ¬ c < 0 ∧ ¬ (255 : Int32) < c) (hb : bs = cs.map (fun c => c.toInt8.toInt32)) (hfr : 4 ≤ R.frames) (hlo : W + 65 ≤ R.locals) :
    Back l R p e below s args (⟨"java/lang/String", "<init>", "([C)V"⟩ : MethodName) len W (fun P a => a = #[.ref x, .ref b] ∧ P.U.heap = h ∧ P.cells + 1 ≤ R.cells ∧ P.slots + n ≤ R.slots)
      (fun P _ v B => ∃ L, QV Z x N bs h n0 v B.U.heap L ∧ B.locs = P.locs ++ L ∧ B.cells = P.cells + 1 ∧ B.slots = P.slots + n) := by
  subst hn hN hb
  refine Back.mono (backArv hZ hw wi E V C K S hz (n32 (by omega)) l0 (by omega) (fun c hc => (hp c hc).2) hfr hlo) (fun P a hp => hp) (fun P a v B hp hq => ?_)
  obtain ⟨L, ⟨q1, q2, q3, q4, q5, q6, q7, ⟨kb, v1, v2⟩, q9⟩, hl, hc, hs⟩ := hq
  exact ⟨L, ⟨q1, fun y hy => by rw [q2 y hy]; exact hx0, q3, q5, q7, h.size, kb, hh0, Nat.le_refl _, Nat.ne_of_gt E.lt, q6, by rw [List.map_map]; exact v2⟩, hl, hc, hs⟩
end StrChars.Road
end Jvm.Pilot.@@N@@
namespace Jvm.Pilot.@@N@@
set_option maxRecDepth 65536
set_option maxHeartbeats 40000000
open Jvm Jvm.ClassFile Sem Op Lib Jvm.Free Jvm.Stand Jvm.LawKit Jvm.RoadKit Bundle Jvm.Pilot.@@N@@.Jvm.D
abbrev own_W (a0 : Array Value) (Z : State) : Prop := ∀ d ∈ tables_1, d.before a0 Z = true
theorem own_i32 {x : Int32} (k : Int32) {n : Int} (e : k.toInt = n) (h : x.toInt = n) : x = k := Int32.toInt_inj.mp (h.trans e.symm)
section Own
variable {p : Program} {l : Launch} {e : Env} {R : Room} {s : State} {m : MethodId} {args : Array Value} {below : List Frame} {meth : Method} {c : Code} {T T' : State} {locs : List Loc} {cells slots : Nat} {Z : State} {a0 : Array Value} {h : Heap} {P : Outcome → State → Prop}
theorem own_hw {L : List Jvm.Cond} (hw : ∀ d ∈ L, d.before a0 Z = true) (i : Nat) {d : Jvm.Cond} (q : L[i]? = some d) : d.before a0 Z = true := hw d (List.mem_of_getElem? q)
/-- from here the run comes to an end that P allows -/
def own_Go (p : Program) (e : Env) (below : List Frame) (P : Outcome → State → Prop) (T : State) (g : JFrame) : Prop :=
  ∃ s₂ o, Steps p.tables e below (T.setTop g) s₂ ∧ s₂.status = .running ∧ Ended s₂ below o ∧ P o s₂
theorem own_go {g g' : JFrame} (h : ∀ t, Steps p.tables e below (T'.setTop g') t → Steps p.tables e below (T.setTop g) t) (k : own_Go p e below P T' g') : own_Go p e below P T g := by
  obtain ⟨s₂, o, h1, h2⟩ := k
  exact ⟨s₂, o, h _ h1, h2⟩
theorem own_cut {α : Type} {g : JFrame} {F : α → JFrame} (tl : ∀ v, own_Go p e below P T (F v)) (k : (∀ v, own_Go p e below P T (F v)) → own_Go p e below P T g) : own_Go p e below P T g := k tl
theorem own_laid1 {v : Value} (h : v.isRef = true) : Jvm.Sym.laidSlots [v] = [.val v] := by
  have hc : ¬ v.category = 2 := by cases v <;> first | (intro q; cases q; done) | (cases h; done)
  show (if v.category = 2 then Slot.val v :: .second :: Jvm.Sym.laidSlots [] else Slot.val v :: Jvm.Sym.laidSlots []) = _
  rw [if_neg hc]; rfl
theorem own_frame {m : MethodId} {as' : Array Value} {n : Nat} {L : List Slot} {ls : Array Slot} (hl : Jvm.Sym.laidSlots as'.toList = L) (h : L ++ List.replicate (n - L.length) .unset = ls.toList) : entryFrame m as' n = mkF m 0 ls [] := by
  show mkF m 0 (argsToLocals as' n) [] = _
  have e := Jvm.Sym.argsToLocals_toList as' n
  rw [hl] at e
  rw [show argsToLocals as' n = ls from Array.toList_inj.mp (e.trans h)]
theorem own_cast {g g' : JFrame} (q : g = g') (k : own_Go p e below P T g') : own_Go p e below P T g := q ▸ k
/-- what a body leaves: Q of its answer, of the heap and of the places written; no more cells and slots than k and n -/
def own_End (s : State) (Q : Option Value → Heap → List Loc → Prop) (k n : Nat) (o : Outcome) (t : State) : Prop := ∃ v L, o = .returned v ∧ Q v t.heap L ∧ FrameEnd s o t L k n
/-- a body's contract, at one heap and one list of arguments -/
def own_Met (l : Launch) (Z : State) (y : MethodName) (bytes : ByteArray) (maxL : Nat) (ret : Option FieldType) (rm : Room) (as' : Array Value) (h0 : Heap) (Q : Option Value → Heap → List Loc → Prop) : Prop :=
  ∀ ws : List Jvm.Cond, MetFree l y (head1 (Jvm.Cond.code y bytes maxL ret :: ws) rm) (fun a U => a = as' ∧ Z.Warmed39 U.vm ∧ U.heap = h0) (fun _ _ _ _ _ => True) (fun _ U o U' => ∃ v L, o = .returned v ∧ Q v U'.heap L ∧ FrameEnd U o U' L rm.cells rm.slots)
theorem own_body {y : MethodName} {bytes : ByteArray} {maxL : Nat} {ret : Option FieldType} {rm : Room} {as' : Array Value} {h0 : Heap} {Q : Option Value → Heap → List Loc → Prop} (hp : plainFor y = true)
    (k : ∀ (p : Program) (e : Env) (s : State) (m : MethodId) (below : List Frame) (meth : Method) (c : Code) (T : State), Stand p l e rm s m as' below meth c T [] 0 0 → p.tables.exec = Jvm.exec → Z.Warmed39 s.vm → c.code = bytes → c.maxLocals = maxL → s.vm.findClass y.cls = some m.cls → meth.name = y.name →
      meth.sig.returnType = ret → meth.locks = false → T.heap = h0 → own_Go p e below (own_End s Q rm.cells rm.slots) T (entryFrame m as' maxL)) : own_Met l Z y bytes maxL ret rm as' h0 Q := by
  intro ws
  refine MetFree.of_bodySF hp hisR ?_
  intro p e s m args below meth c s₁ Bd hml0 hP hK
  obtain ⟨rfl, hZ, hh⟩ := hP
  exact k p e s m below meth c s₁ (Stand.of_body Bd) Bd.exec hZ Bd.bytes hml0 (findClass_of_methodNamed Bd.named) (name_of_methodNamed Bd.named Bd.method).1 Bd.returns Bd.notSynchronized (by rw [← hh, Bd.state]; rfl)
/-- a return with a value -/
theorem own_ret (X : Stand p l e R s m args below meth c T locs cells slots) (hx : p.tables.exec = Jvm.exec) {pc : Nat} {Ls : Array Slot} {w : Value} {t : FieldType} {i : Instr} {rest : List Value} (hret : meth.sig.returnType = some t) (hlk : meth.locks = false) (hd : decode c.code pc = .ok (i, 1)) (hn : narrow t w = w)
    (hi : (i = .ireturn ∧ (t = .int ∨ t = .boolean ∨ t = .byte ∨ t = .char ∨ t = .short) ∧ ∃ z, w = .int z) ∨ (i = .lreturn ∧ t = .long ∧ ∃ z, w = .long z) ∨ (i = .dreturn ∧ t = .double ∧ ∃ z, w = .double z) ∨ (i = .freturn ∧ t = .float ∧ ∃ z, w = .float z) ∨ (i = .areturn ∧ t.isReference = true ∧ w.isRef = true))
    {Q : Option Value → Heap → List Loc → Prop} {kc kn : Nat} (hc : cells ≤ kc) (hs : slots ≤ kn) (hQ : Q (some w) T.heap locs) : own_Go p e below (own_End s Q kc kn) T (mkF m pc Ls (w :: rest)) := by
  obtain ⟨fs, hr, hrun, hended, hW, hsame⟩ := X.leave (v := some w) (fun h => by rw [hret] at h; cases h) hlk
  exact ⟨_, _, retOut X hx hret hn hi hd hr, hrun, hended, _, _, rfl, hQ, ⟨_, rfl⟩, hW, hsame.mono hc hs⟩
theorem own_retI (X : Stand p l e R s m args below meth c T locs cells slots) (hx : p.tables.exec = Jvm.exec) {pc : Nat} {Ls : Array Slot} {z : Int32} {t : FieldType} {rest : List Value} (hret : meth.sig.returnType = some t) (hlk : meth.locks = false) (hd : decode c.code pc = .ok (.ireturn, 1)) (hn : narrow t (.int z) = .int z)
    (ht : t = .int ∨ t = .boolean ∨ t = .byte ∨ t = .char ∨ t = .short) {Q : Option Value → Heap → List Loc → Prop} {kc kn : Nat} (hc : cells ≤ kc) (hs : slots ≤ kn) (hQ : Q (some (.int z)) T.heap locs) : own_Go p e below (own_End s Q kc kn) T (mkF m pc Ls (.int z :: rest)) :=
  own_ret X hx hret hlk hd hn (Or.inl ⟨rfl, ht, z, rfl⟩) hc hs hQ
theorem own_retA (X : Stand p l e R s m args below meth c T locs cells slots) (hx : p.tables.exec = Jvm.exec) {pc : Nat} {Ls : Array Slot} {w : Value} {t : FieldType} {rest : List Value} (hret : meth.sig.returnType = some t) (hlk : meth.locks = false) (hd : decode c.code pc = .ok (.areturn, 1)) (ht : t.isReference = true) (hw : w.isRef = true)
    {Q : Option Value → Heap → List Loc → Prop} {kc kn : Nat} (hc : cells ≤ kc) (hs : slots ≤ kn) (hQ : Q (some w) T.heap locs) : own_Go p e below (own_End s Q kc kn) T (mkF m pc Ls (w :: rest)) :=
  own_ret X hx hret hlk hd (by cases t <;> first | rfl | (cases w <;> rfl) | (simp [FieldType.isReference] at ht)) (Or.inr (Or.inr (Or.inr (Or.inr ⟨rfl, ht, hw⟩)))) hc hs hQ
theorem own_retV (X : Stand p l e R s m args below meth c T locs cells slots) (hx : p.tables.exec = Jvm.exec) {pc : Nat} {Ls : Array Slot} (hret : meth.sig.returnType = none) (hlk : meth.locks = false) (hd : decode c.code pc = .ok (.return_, 1))
    {Q : Option Value → Heap → List Loc → Prop} {kc kn : Nat} (hc : cells ≤ kc) (hs : slots ≤ kn) (hQ : Q none T.heap locs) : own_Go p e below (own_End s Q kc kn) T (mkF m pc Ls []) := by
  obtain ⟨fs, hr, hrun, hended, hW, hsame⟩ := X.leave (v := none) (fun _ => rfl) hlk
  exact ⟨_, _, X.returnOut hx hret hd hr, hrun, hended, _, _, rfl, hQ, ⟨_, rfl⟩, hW, hsame.mono hc hs⟩
section Og
variable {pc : Nat} {Ls : Array Slot} {st : List Value}
theorem og_iload (X : Stand p l e R s m args below meth c T locs cells slots) (hx : p.tables.exec = Jvm.exec) {k : Nat} {v : Int32} (hd : decode c.code pc = .ok (.iload k, 2)) (hl : Ls[k]? = some (.val (.int v))) (kk : own_Go p e below P T (mkF m (pc + 2) Ls (.int v :: st))) : own_Go p e below P T (mkF m pc Ls st) :=
  own_go (fun _ q => XS.iload X.here hx rfl hd hl q) kk
theorem og_iloadN (X : Stand p l e R s m args below meth c T locs cells slots) (hx : p.tables.exec = Jvm.exec) {k : Fin 4} {v : Int32} (hd : decode c.code pc = .ok (.iload_n k, 1)) (hl : Ls[k.val]? = some (.val (.int v))) (kk : own_Go p e below P T (mkF m (pc + 1) Ls (.int v :: st))) : own_Go p e below P T (mkF m pc Ls st) :=
  own_go (fun _ q => XS.iloadN X.here hx rfl hd hl q) kk
theorem og_aload (X : Stand p l e R s m args below meth c T locs cells slots) (hx : p.tables.exec = Jvm.exec) {k : Nat} {v : Value} (hd : decode c.code pc = .ok (.aload k, 2)) (hl : Ls[k]? = some (.val v)) (hv : v.isRef = true) (kk : own_Go p e below P T (mkF m (pc + 2) Ls (v :: st))) : own_Go p e below P T (mkF m pc Ls st) :=
  own_go (fun _ q => XS.aload X.here hx rfl hd hl hv q) kk
theorem og_aloadN (X : Stand p l e R s m args below meth c T locs cells slots) (hx : p.tables.exec = Jvm.exec) {k : Fin 4} {v : Value} (hd : decode c.code pc = .ok (.aload_n k, 1)) (hl : Ls[k.val]? = some (.val v)) (hv : v.isRef = true) (kk : own_Go p e below P T (mkF m (pc + 1) Ls (v :: st))) : own_Go p e below P T (mkF m pc Ls st) :=
  own_go (fun _ q => XS.aloadN X.here hx rfl hd hl hv q) kk
theorem og_istore (X : Stand p l e R s m args below meth c T locs cells slots) (hx : p.tables.exec = Jvm.exec) {k : Nat} {x : Int32} (l' : Array Slot) (hd : decode c.code pc = .ok (.istore k, 2)) (hl : storeLocals Ls k (.int x) = some l') (kk : own_Go p e below P T (mkF m (pc + 2) l' st)) : own_Go p e below P T (mkF m pc Ls (.int x :: st)) :=
  own_go (fun _ q => XS.istore X.here hx rfl hd rfl hl q) kk
theorem og_istoreN (X : Stand p l e R s m args below meth c T locs cells slots) (hx : p.tables.exec = Jvm.exec) {k : Fin 4} {x : Int32} (l' : Array Slot) (hd : decode c.code pc = .ok (.istore_n k, 1)) (hl : storeLocals Ls k.val (.int x) = some l') (kk : own_Go p e below P T (mkF m (pc + 1) l' st)) : own_Go p e below P T (mkF m pc Ls (.int x :: st)) :=
  own_go (fun _ q => XS.istoreN X.here hx rfl hd rfl hl q) kk
theorem og_astore (X : Stand p l e R s m args below meth c T locs cells slots) (hx : p.tables.exec = Jvm.exec) {k : Nat} {x : Value} (l' : Array Slot) (hd : decode c.code pc = .ok (.astore k, 2)) (hv : x.isRef = true) (hl : storeLocals Ls k x = some l') (kk : own_Go p e below P T (mkF m (pc + 2) l' st)) : own_Go p e below P T (mkF m pc Ls (x :: st)) :=
  own_go (fun _ q => XS.astore X.here hx rfl hd rfl hv hl q) kk
theorem og_iconst (X : Stand p l e R s m args below meth c T locs cells slots) (hx : p.tables.exec = Jvm.exec) {i : Int} (hd : decode c.code pc = .ok (.iconst i, 1)) (kk : own_Go p e below P T (mkF m (pc + 1) Ls (.int (Int32.ofInt i) :: st))) : own_Go p e below P T (mkF m pc Ls st) :=
  own_go (fun _ q => XS.iconst X.here hx rfl hd q) kk
theorem og_bipush (X : Stand p l e R s m args below meth c T locs cells slots) (hx : p.tables.exec = Jvm.exec) {i : Int} (hd : decode c.code pc = .ok (.bipush i, 2)) (kk : own_Go p e below P T (mkF m (pc + 2) Ls (.int (Int8.ofInt i).toInt32 :: st))) : own_Go p e below P T (mkF m pc Ls st) :=
  own_go (fun _ q => XS.bipush X.here hx rfl hd q) kk
theorem og_sipush (X : Stand p l e R s m args below meth c T locs cells slots) (hx : p.tables.exec = Jvm.exec) {i : Int} (hd : decode c.code pc = .ok (.sipush i, 3)) (kk : own_Go p e below P T (mkF m (pc + 3) Ls (.int (Int16.ofInt i).toInt32 :: st))) : own_Go p e below P T (mkF m pc Ls st) :=
  own_go (fun _ q => XS.sipush X.here hx rfl hd q) kk
theorem og_null (X : Stand p l e R s m args below meth c T locs cells slots) (hx : p.tables.exec = Jvm.exec) (hd : decode c.code pc = .ok (.aconst_null, 1)) (kk : own_Go p e below P T (mkF m (pc + 1) Ls (.null :: st))) : own_Go p e below P T (mkF m pc Ls st) :=
  own_go (fun _ q => XS.aconstNull X.here hx rfl hd q) kk
theorem og_iadd (X : Stand p l e R s m args below meth c T locs cells slots) (hx : p.tables.exec = Jvm.exec) {x y : Int32} (hd : decode c.code pc = .ok (.iadd, 1)) (kk : own_Go p e below P T (mkF m (pc + 1) Ls (.int (x + y) :: st))) : own_Go p e below P T (mkF m pc Ls (.int y :: .int x :: st)) :=
  own_go (fun _ q => XS.iadd X.here hx rfl hd rfl q) kk
theorem og_isub (X : Stand p l e R s m args below meth c T locs cells slots) (hx : p.tables.exec = Jvm.exec) {x y : Int32} (hd : decode c.code pc = .ok (.isub, 1)) (kk : own_Go p e below P T (mkF m (pc + 1) Ls (.int (x - y) :: st))) : own_Go p e below P T (mkF m pc Ls (.int y :: .int x :: st)) :=
  own_go (fun _ q => XS.isub X.here hx rfl hd rfl q) kk
theorem og_iand (X : Stand p l e R s m args below meth c T locs cells slots) (hx : p.tables.exec = Jvm.exec) {x y : Int32} (hd : decode c.code pc = .ok (.iand, 1)) (kk : own_Go p e below P T (mkF m (pc + 1) Ls (.int (x &&& y) :: st))) : own_Go p e below P T (mkF m pc Ls (.int y :: .int x :: st)) :=
  own_go (fun _ q => XS.iand X.here hx rfl hd rfl q) kk
theorem og_dup (X : Stand p l e R s m args below meth c T locs cells slots) (hx : p.tables.exec = Jvm.exec) {x : Value} (hd : decode c.code pc = .ok (.dup, 1)) (hc : x.category = 1) (kk : own_Go p e below P T (mkF m (pc + 1) Ls (x :: x :: st))) : own_Go p e below P T (mkF m pc Ls (x :: st)) :=
  own_go (fun _ q => XS.dup X.here hx rfl hd rfl hc q) kk
theorem og_pop (X : Stand p l e R s m args below meth c T locs cells slots) (hx : p.tables.exec = Jvm.exec) {x : Value} (hd : decode c.code pc = .ok (.pop, 1)) (hc : x.category = 1) (kk : own_Go p e below P T (mkF m (pc + 1) Ls st)) : own_Go p e below P T (mkF m pc Ls (x :: st)) :=
  own_go (fun _ q => XS.pop X.here hx rfl hd rfl hc q) kk
theorem og_goto (X : Stand p l e R s m args below meth c T locs cells slots) (hx : p.tables.exec = Jvm.exec) {o : Int} (pc' : Nat) (hd : decode c.code pc = .ok (.goto o, 3)) (ho : 0 ≤ (pc : Int) + o) (hp : ((pc : Int) + o).toNat = pc') (kk : own_Go p e below P T (mkF m pc' Ls st)) : own_Go p e below P T (mkF m pc Ls st) :=
  own_go (fun _ q => XS.goto X.here hx rfl rfl hd ho hp q) kk
theorem og_ifN (X : Stand p l e R s m args below meth c T locs cells slots) (hx : p.tables.exec = Jvm.exec) {cd : ClassFile.Cond} {o : Int} {x : Int32} (hd : decode c.code pc = .ok (.ifCond cd o, 3)) (hc : if_icmp.holds cd x 0 = false) (kk : own_Go p e below P T (mkF m (pc + 3) Ls st)) : own_Go p e below P T (mkF m pc Ls (.int x :: st)) :=
  own_go (fun _ q => XS.ifNo X.here hx rfl hd rfl ((if0 _ _).trans hc) q) kk
theorem og_ifY (X : Stand p l e R s m args below meth c T locs cells slots) (hx : p.tables.exec = Jvm.exec) {cd : ClassFile.Cond} {o : Int} {x : Int32} (pc' : Nat) (hd : decode c.code pc = .ok (.ifCond cd o, 3)) (hc : if_icmp.holds cd x 0 = true) (ho : 0 ≤ (pc : Int) + o) (hp : ((pc : Int) + o).toNat = pc') (kk : own_Go p e below P T (mkF m pc' Ls st)) : own_Go p e below P T (mkF m pc Ls (.int x :: st)) :=
  own_go (fun _ q => XS.ifYes X.here hx rfl rfl hd rfl ((if0 _ _).trans hc) ho hp q) kk
theorem og_icN (X : Stand p l e R s m args below meth c T locs cells slots) (hx : p.tables.exec = Jvm.exec) {cd : ClassFile.Cond} {o : Int} {x y : Int32} (hd : decode c.code pc = .ok (.if_icmp cd o, 3)) (hc : if_icmp.holds cd x y = false) (kk : own_Go p e below P T (mkF m (pc + 3) Ls st)) : own_Go p e below P T (mkF m pc Ls (.int y :: .int x :: st)) :=
  own_go (fun _ q => XS.icmpNo X.here hx rfl hd rfl hc q) kk
theorem og_icY (X : Stand p l e R s m args below meth c T locs cells slots) (hx : p.tables.exec = Jvm.exec) {cd : ClassFile.Cond} {o : Int} {x y : Int32} (pc' : Nat) (hd : decode c.code pc = .ok (.if_icmp cd o, 3)) (hc : if_icmp.holds cd x y = true) (ho : 0 ≤ (pc : Int) + o) (hp : ((pc : Int) + o).toNat = pc') (kk : own_Go p e below P T (mkF m pc' Ls st)) : own_Go p e below P T (mkF m pc Ls (.int y :: .int x :: st)) :=
  own_go (fun _ q => XS.icmpYes X.here hx rfl rfl hd rfl hc ho hp q) kk
theorem og_getF (X : Stand p l e R s m args below meth c T locs cells slots) (hx : p.tables.exec = Jvm.exec) (hZ : Z.Warmed39 s.vm) {own R0 O n d : String} {index : Nat} (hown : s.vm.findClass own = some m.cls) (w : (Jvm.Cond.fieldLink own index R0 n d).before a0 Z = true) (via : Via Z R0 O n d) (eT : T.heap = h) {a : Addr} {v : Value} (F : Fld Z h a O n d v) (hd : decode c.code pc = .ok (.getfield index, 3))
    (kk : ∀ T', Stand p l e R s m args below meth c T' locs cells slots → T'.heap = h → own_Go p e below P T' (mkF m (pc + 3) Ls (v :: st))) : own_Go p e below P T (mkF m pc Ls (.ref a :: st)) := by
  obtain ⟨T', X', e', stp⟩ := getF X hx hZ hown (host := "") (Or.inl w) via eT F (g := mkF m pc Ls (.ref a :: st)) rfl rfl hd
  exact own_go stp (kk T' X' e')
theorem og_getS (X : Stand p l e R s m args below meth c T locs cells slots) (hx : p.tables.exec = Jvm.exec) (hZ : Z.Warmed39 s.vm) {own R0 O n d : String} {index : Nat} (hown : s.vm.findClass own = some m.cls) (w : (Jvm.Cond.fieldLink own index R0 n d).before a0 Z = true) (via : Via Z R0 O n d) (eT : T.heap = h) {v : Value} (F : Sta Z h O n d v) (hd : decode c.code pc = .ok (.getstatic index, 3))
    (kk : ∀ T', Stand p l e R s m args below meth c T' locs cells slots → T'.heap = h → own_Go p e below P T' (mkF m (pc + 3) Ls (v :: st))) : own_Go p e below P T (mkF m pc Ls st) := by
  obtain ⟨T', X', e', stp⟩ := getS2 X hx hZ hown (host := "") (Or.inl w) via eT F (g := mkF m pc Ls st) rfl hd
  exact own_go stp (kk T' X' e')
theorem og_ldcI (X : Stand p l e R s m args below meth c T locs cells slots) (hx : p.tables.exec = Jvm.exec) (hZ : Z.Warmed39 s.vm) {own : String} {index : Nat} {v : Int32} (hown : s.vm.findClass own = some m.cls) (w : (Jvm.Cond.constant own index v).before a0 Z = true) (hd : decode c.code pc = .ok (.ldc index, 2)) (kk : own_Go p e below P T (mkF m (pc + 2) Ls (.int v :: st))) : own_Go p e below P T (mkF m pc Ls st) :=
  own_go (fun _ q => X.ldcI hx hown (mvT hZ w) rfl hd q) kk
theorem og_iremM (X : Stand p l e R s m args below meth c T locs cells slots) (hx : p.tables.exec = Jvm.exec) {x y : Int32} (hd : decode c.code pc = .ok (.irem, 1)) (hy : y ≠ 0) (kk : own_Go p e below P T (mkF m (pc + 1) Ls (.int (x % y) :: st))) : own_Go p e below P T (mkF m pc Ls (.int y :: .int x :: st)) :=
  own_go (fun _ q => iremM X hx rfl hd rfl hy q) kk
end Og
/-! the calls: by a Back (..B), or by a body's own contract -/
theorem own_callSB (X : Stand p l e R s m args below meth c T locs cells slots) (hx : p.tables.exec = Jvm.exec) (hZ : Z.Warmed39 s.vm) {own : String} {index : Nat} {y : MethodName} {bytes : ByteArray} {maxL : Nat} {ret : Option FieldType} (hown : s.vm.findClass own = some m.cls)
    (w1 : (Jvm.Cond.methodLink own index y).before a0 Z = true) (w2 : (Jvm.Cond.static y).before a0 Z = true) (w3 : (Jvm.Cond.initialized y.cls).before a0 Z = true) (w4 : (Jvm.Cond.code y bytes maxL ret).before a0 Z = true) (hy : y.cls ≠ "java/lang/invoke/MethodHandle" ∧ y.cls ≠ "java/lang/invoke/VarHandle")
    {argsL rest : List Value} {Q : Option Value → Heap → List Loc → Prop} {kc kn W : Nat} (hK : Back l R p e below s args y 3 W (fun A a => a = (argsL).toArray ∧ A.U.heap = h ∧ A.cells + kc ≤ R.cells ∧ A.slots + kn ≤ R.slots) (fun A _ v B => ∃ L, Q v B.U.heap L ∧ B.locs = A.locs ++ L ∧ B.cells = A.cells + kc ∧ B.slots = A.slots + kn)) (eT : T.heap = h) {pc : Nat} {Ls : Array Slot} {st : List Value} (hsize : Ls.size = c.maxLocals)
    (hlen : ∀ sig, parseMethodDescriptor y.desc = some sig → argsL.length = sig.parameters.length) (hstack : st = argsL.reverse ++ rest) (hd : decode c.code pc = .ok (.invokestatic index, 3)) (hW : (rest.map fun v => v.category).sum ≤ W) (hc : cells + kc ≤ R.cells) (hs : slots + kn ≤ R.slots)
    (k : ∀ (v : Option Value) (T' : State) (L : List Loc), Stand p l e R s m args below meth c T' (locs ++ L) (cells + kc) (slots + kn) → Q v T'.heap L → own_Go p e below P T' (mkF m (pc + 3) Ls (v.toList ++ rest))) : own_Go p e below P T (mkF m pc Ls st) := by
  obtain ⟨v, _, ⟨T', L', k', n'⟩, -, X', ⟨Lc, hQ, l1, y1, z1⟩, stp⟩ := Jvm.LawKit.callS X hx (y := y) hown (mvT hZ w1) (mvT hZ w2) (mvT hZ w3) (mvT hZ w4) hy hK (g := mkF m pc Ls st) rfl hsize (argsL := argsL) (rest := rest) hlen hstack (by show 2 * 0 + _ ≤ _; omega) hd (fun _ _ => ⟨rfl, eT, hc, hs⟩)
  dsimp only [Pt.U, Pt.locs, Pt.cells, Pt.slots] at X' l1 y1 z1 stp hQ
  subst l1 y1 z1
  exact own_go stp (k v T' Lc X' hQ)
theorem own_callS (X : Stand p l e R s m args below meth c T locs cells slots) (hx : p.tables.exec = Jvm.exec) (hZ : Z.Warmed39 s.vm) {own : String} {index : Nat} {y : MethodName} {bytes : ByteArray} {maxL : Nat} {ret : Option FieldType} (hown : s.vm.findClass own = some m.cls)
    (w1 : (Jvm.Cond.methodLink own index y).before a0 Z = true) (w2 : (Jvm.Cond.static y).before a0 Z = true) (w3 : (Jvm.Cond.initialized y.cls).before a0 Z = true) (w4 : (Jvm.Cond.code y bytes maxL ret).before a0 Z = true) (hy : y.cls ≠ "java/lang/invoke/MethodHandle" ∧ y.cls ≠ "java/lang/invoke/VarHandle")
    {argsL rest : List Value} {rm : Room} {Q : Option Value → Heap → List Loc → Prop} (hM : own_Met l Z y bytes maxL ret rm (argsL).toArray h Q) (eT : T.heap = h) {pc : Nat} {Ls : Array Slot} {st : List Value} (hsize : Ls.size = c.maxLocals)
    (hlen : ∀ sig, parseMethodDescriptor y.desc = some sig → argsL.length = sig.parameters.length) (hstack : st = argsL.reverse ++ rest) (hd : decode c.code pc = .ok (.invokestatic index, 3)) {W : Nat} (hW : (rest.map fun v => v.category).sum ≤ W) (h4 : rm.frames + 1 ≤ R.frames ∧ W + (maxL + 11) + rm.locals ≤ R.locals ∧ cells + rm.cells ≤ R.cells ∧ slots + rm.slots ≤ R.slots)
    (k : ∀ (v : Option Value) (T' : State) (L : List Loc), Stand p l e R s m args below meth c T' (locs ++ L) (cells + rm.cells) (slots + rm.slots) → Q v T'.heap L → own_Go p e below P T' (mkF m (pc + 3) Ls (v.toList ++ rest))) : own_Go p e below P T (mkF m pc Ls st) :=
  own_callSB X hx hZ hown w1 w2 w3 w4 hy (backOf (W := W) (hM []) hZ w4 w3 h4.1 h4.2.1) eT hsize hlen hstack hd hW h4.2.2.1 h4.2.2.2 k
theorem own_callVB (X : Stand p l e R s m args below meth c T locs cells slots) (hx : p.tables.exec = Jvm.exec) (hZ : Z.Warmed39 s.vm) {own C : String} {index : Nat} {y z : MethodName} {bytes : ByteArray} {maxL : Nat} {ret : Option FieldType} (hown : s.vm.findClass own = some m.cls)
    (w1 : (Jvm.Cond.methodLink own index y).before a0 Z = true) (w2 : (Jvm.Cond.declares y).before a0 Z = true) (nf : NotFace s y) (w3 : (Jvm.Cond.selects C y z).before a0 Z = true) (w4 : (Jvm.Cond.instanceMethod z).before a0 Z = true) (w5 : (Jvm.Cond.code z bytes maxL ret).before a0 Z = true) (w6 : (Jvm.Cond.initialized z.cls).before a0 Z = true) (hy : y.cls ≠ "java/lang/invoke/MethodHandle" ∧ y.cls ≠ "java/lang/invoke/VarHandle")
    {b : Addr} {argsL rest : List Value} {Q : Option Value → Heap → List Loc → Prop} {kc kn W : Nat} (hK : Back l R p e below s args z 3 W (fun A a => a = (.ref b :: argsL).toArray ∧ A.U.heap = h ∧ A.cells + kc ≤ R.cells ∧ A.slots + kn ≤ R.slots) (fun A _ v B => ∃ L, Q v B.U.heap L ∧ B.locs = A.locs ++ L ∧ B.cells = A.cells + kc ∧ B.slots = A.slots + kn)) (eT : T.heap = h) (E : Exa Z h b C) {pc : Nat} {Ls : Array Slot} {st : List Value} (hsize : Ls.size = c.maxLocals)
    (hlen : ∀ sig, parseMethodDescriptor y.desc = some sig → argsL.length = sig.parameters.length) (hstack : st = argsL.reverse ++ .ref b :: rest) (hd : decode c.code pc = .ok (.invokevirtual index, 3)) (hW : (rest.map fun v => v.category).sum ≤ W) (hc : cells + kc ≤ R.cells) (hs : slots + kn ≤ R.slots)
    (k : ∀ (v : Option Value) (T' : State) (L : List Loc), Stand p l e R s m args below meth c T' (locs ++ L) (cells + kc) (slots + kn) → Q v T'.heap L → own_Go p e below P T' (mkF m (pc + 3) Ls (v.toList ++ rest))) : own_Go p e below P T (mkF m pc Ls st) := by
  obtain ⟨cq, kq, qa, qb, qc⟩ := isOf hZ eT E
  obtain ⟨v, _, ⟨T', L', k', n'⟩, -, X', ⟨Lc, hQ, l1, y1, z1⟩, stp⟩ := X.virtualBack hx (y := y) (z := z) hown (mvT hZ w1) (mvT hZ w2) nf (mvT hZ w3) (mvT hZ w4) hy hK qa qc (g := mkF m pc Ls st) rfl hsize (Steps.refl _) (argsL := argsL) (rest := rest) hlen hstack (by show 2 * 0 + _ ≤ _; omega) hd (fun _ _ => ⟨rfl, eT, hc, hs⟩)
  dsimp only [Pt.U, Pt.locs, Pt.cells, Pt.slots] at X' l1 y1 z1 stp hQ
  subst l1 y1 z1
  exact own_go (fun _ q => stp.trans q) (k v T' Lc X' hQ)
theorem own_callV (X : Stand p l e R s m args below meth c T locs cells slots) (hx : p.tables.exec = Jvm.exec) (hZ : Z.Warmed39 s.vm) {own C : String} {index : Nat} {y z : MethodName} {bytes : ByteArray} {maxL : Nat} {ret : Option FieldType} (hown : s.vm.findClass own = some m.cls)
    (w1 : (Jvm.Cond.methodLink own index y).before a0 Z = true) (w2 : (Jvm.Cond.declares y).before a0 Z = true) (nf : NotFace s y) (w3 : (Jvm.Cond.selects C y z).before a0 Z = true) (w4 : (Jvm.Cond.instanceMethod z).before a0 Z = true) (w5 : (Jvm.Cond.code z bytes maxL ret).before a0 Z = true) (w6 : (Jvm.Cond.initialized z.cls).before a0 Z = true) (hy : y.cls ≠ "java/lang/invoke/MethodHandle" ∧ y.cls ≠ "java/lang/invoke/VarHandle")
    {b : Addr} {argsL rest : List Value} {rm : Room} {Q : Option Value → Heap → List Loc → Prop} (hM : own_Met l Z z bytes maxL ret rm (.ref b :: argsL).toArray h Q) (eT : T.heap = h) (E : Exa Z h b C) {pc : Nat} {Ls : Array Slot} {st : List Value} (hsize : Ls.size = c.maxLocals)
    (hlen : ∀ sig, parseMethodDescriptor y.desc = some sig → argsL.length = sig.parameters.length) (hstack : st = argsL.reverse ++ .ref b :: rest) (hd : decode c.code pc = .ok (.invokevirtual index, 3)) {W : Nat} (hW : (rest.map fun v => v.category).sum ≤ W) (h4 : rm.frames + 1 ≤ R.frames ∧ W + (maxL + 11) + rm.locals ≤ R.locals ∧ cells + rm.cells ≤ R.cells ∧ slots + rm.slots ≤ R.slots)
    (k : ∀ (v : Option Value) (T' : State) (L : List Loc), Stand p l e R s m args below meth c T' (locs ++ L) (cells + rm.cells) (slots + rm.slots) → Q v T'.heap L → own_Go p e below P T' (mkF m (pc + 3) Ls (v.toList ++ rest))) : own_Go p e below P T (mkF m pc Ls st) :=
  own_callVB X hx hZ hown w1 w2 nf w3 w4 w5 w6 hy (backOf (W := W) (hM []) hZ w5 w6 h4.1 h4.2.1) eT E hsize hlen hstack hd hW h4.2.2.1 h4.2.2.2 k
theorem own_callNB (X : Stand p l e R s m args below meth c T locs cells slots) (hx : p.tables.exec = Jvm.exec) (hZ : Z.Warmed39 s.vm) {own : String} {index : Nat} {y : MethodName} {bytes : ByteArray} {maxL : Nat} (hown : s.vm.findClass own = some m.cls)
    (w1 : (Jvm.Cond.methodLink own index y).before a0 Z = true) (w2 : (Jvm.Cond.instanceMethod y).before a0 Z = true) (w4 : (Jvm.Cond.code y bytes maxL none).before a0 Z = true) (w3 : (Jvm.Cond.initialized y.cls).before a0 Z = true) (hy : y.cls ≠ "java/lang/invoke/MethodHandle" ∧ y.cls ≠ "java/lang/invoke/VarHandle") (hn : y.name = "<init>")
    {b : Addr} {argsL rest : List Value} {Q : Option Value → Heap → List Loc → Prop} {kc kn W : Nat} (hK : Back l R p e below s args y 3 W (fun A a => a = (.ref b :: argsL).toArray ∧ A.U.heap = h ∧ A.cells + kc ≤ R.cells ∧ A.slots + kn ≤ R.slots) (fun A _ v B => ∃ L, Q v B.U.heap L ∧ B.locs = A.locs ++ L ∧ B.cells = A.cells + kc ∧ B.slots = A.slots + kn)) (eT : T.heap = h) {pc : Nat} {Ls : Array Slot} {st : List Value} (hsize : Ls.size = c.maxLocals)
    (hlen : ∀ sig, parseMethodDescriptor y.desc = some sig → argsL.length = sig.parameters.length) (hstack : st = argsL.reverse ++ .ref b :: rest) (hd : decode c.code pc = .ok (.invokespecial index, 3)) (hW : (rest.map fun v => v.category).sum ≤ W) (hc : cells + kc ≤ R.cells) (hs : slots + kn ≤ R.slots)
    (k : ∀ (v : Option Value) (T' : State) (L : List Loc), Stand p l e R s m args below meth c T' (locs ++ L) (cells + kc) (slots + kn) → Q v T'.heap L → own_Go p e below P T' (mkF m (pc + 3) Ls (v.toList ++ rest))) : own_Go p e below P T (mkF m pc Ls st) := by
  obtain ⟨v, _, ⟨T', L', k', n'⟩, -, X', ⟨Lc, hQ, l1, y1, z1⟩, stp⟩ := X.specialBack hx (y := y) hn hown (mvT hZ w1) (mvT hZ w2) (mvT hZ w4) hy hK (g := mkF m pc Ls st) rfl hsize (Steps.refl _) (a := b) (argsL := argsL) (rest := rest) hlen hstack (by show 2 * 0 + _ ≤ _; omega) hd (fun _ _ => ⟨rfl, eT, hc, hs⟩)
  dsimp only [Pt.U, Pt.locs, Pt.cells, Pt.slots] at X' l1 y1 z1 stp hQ
  subst l1 y1 z1
  exact own_go (fun _ q => stp.trans q) (k v T' Lc X' hQ)
theorem own_callN (X : Stand p l e R s m args below meth c T locs cells slots) (hx : p.tables.exec = Jvm.exec) (hZ : Z.Warmed39 s.vm) {own : String} {index : Nat} {y : MethodName} {bytes : ByteArray} {maxL : Nat} (hown : s.vm.findClass own = some m.cls)
    (w1 : (Jvm.Cond.methodLink own index y).before a0 Z = true) (w2 : (Jvm.Cond.instanceMethod y).before a0 Z = true) (w4 : (Jvm.Cond.code y bytes maxL none).before a0 Z = true) (w3 : (Jvm.Cond.initialized y.cls).before a0 Z = true) (hy : y.cls ≠ "java/lang/invoke/MethodHandle" ∧ y.cls ≠ "java/lang/invoke/VarHandle") (hn : y.name = "<init>")
    {b : Addr} {argsL rest : List Value} {rm : Room} {Q : Option Value → Heap → List Loc → Prop} (hM : own_Met l Z y bytes maxL none rm (.ref b :: argsL).toArray h Q) (eT : T.heap = h) {pc : Nat} {Ls : Array Slot} {st : List Value} (hsize : Ls.size = c.maxLocals)
    (hlen : ∀ sig, parseMethodDescriptor y.desc = some sig → argsL.length = sig.parameters.length) (hstack : st = argsL.reverse ++ .ref b :: rest) (hd : decode c.code pc = .ok (.invokespecial index, 3)) {W : Nat} (hW : (rest.map fun v => v.category).sum ≤ W) (h4 : rm.frames + 1 ≤ R.frames ∧ W + (maxL + 11) + rm.locals ≤ R.locals ∧ cells + rm.cells ≤ R.cells ∧ slots + rm.slots ≤ R.slots)
    (k : ∀ (v : Option Value) (T' : State) (L : List Loc), Stand p l e R s m args below meth c T' (locs ++ L) (cells + rm.cells) (slots + rm.slots) → Q v T'.heap L → own_Go p e below P T' (mkF m (pc + 3) Ls (v.toList ++ rest))) : own_Go p e below P T (mkF m pc Ls st) :=
  own_callNB X hx hZ hown w1 w2 w4 w3 hy hn (backOf (W := W) (hM []) hZ w4 w3 h4.1 h4.2.1) eT hsize hlen hstack hd hW h4.2.2.1 h4.2.2.2 k
/-- answers w, writes nothing old, leaves the heap as it was -/
def own_Qv (w : Option Value) (h0 : Heap) (n0 : Nat) (v : Option Value) (h : Heap) (L : List Loc) : Prop := v = w ∧ Fr n0 L ∧ h = h0
/-- the law's own: it answers 1 and writes nothing old -/
def own_Q1 (n0 : Nat) (v : Option Value) (h : Heap) (L : List Loc) : Prop := v = some (.int 1) ∧ Fr n0 L
end Own
section Own2
variable {p : Program} {l : Launch} {e : Env} {R : Room} {s : State} {m : MethodId} {args : Array Value} {below : List Frame} {meth : Method} {c : Code} {T T' : State} {locs : List Loc} {cells slots : Nat} {Z : State} {a0 : Array Value} {h : Heap} {P : Outcome → State → Prop} {a b : Addr} {pc : Nat} {Ls : Array Slot} {rest : List Value} {k : ClassId} {ty : FieldType} {n j : Int32} {vs : List Value} {dv v : Value}
theorem own_oldle {n0 : Nat} (O : Old Z n0 h) : n0 ≤ h.size := O.1 ▸ O.2.1
theorem own_newP (X : Stand p l e R s m args below meth c T locs cells slots) (hx : p.tables.exec = Jvm.exec) (hZ : Z.Warmed39 s.vm) {aty : ArrayType} (w : (Jvm.Cond.arrayClass (newarray.typeOf aty)).before a0 Z = true) (eT : T.heap = h)
    (hd : decode c.code pc = .ok (.newarray aty, 2)) (hn : ¬ n < 0) (cap : Nat) (hcap : n.toNatClampNeg ≤ cap) (hb : cap * 8 ≤ 536870912) (hc : cells + 1 ≤ R.cells) (hl : slots + cap ≤ R.slots)
    (kk : ∀ (T' : State) (h' : Heap) (cA : ClassId) (b : Addr), b = h.size → Stand p l e R s m args below meth c T' locs (cells + 1) (slots + cap) → T'.heap = h' → Ext h h' → Arv Z h' b cA (newarray.typeOf aty) n (List.replicate cap (defaultValue (newarray.typeOf aty))) (defaultValue (newarray.typeOf aty)) → own_Go p e below P T' (mkF m (pc + 2) Ls (.ref b :: rest))) :
    own_Go p e below P T (mkF m pc Ls (.int n :: rest)) := by
  obtain ⟨T', h', cA, X', e', E, A, st⟩ := newP X hx hZ w eT (g := mkF m pc Ls (.int n :: rest)) rfl hd rfl hn hcap hb hc hl
  exact own_go st (kk T' h' cA _ rfl X' e' E ((Arv.new A hn).pad (pad_rep [] _ cap)))
theorem own_newO (X : Stand p l e R s m args below meth c T locs cells slots) (hx : p.tables.exec = Jvm.exec) (hZ : Z.Warmed39 s.vm) {own C : String} {index n : Nat} {st : List Value} (hown : s.vm.findClass own = some m.cls) (w : (Jvm.Cond.classLink own index C).before a0 Z = true) (wi : (Jvm.Cond.instantiable C n).before a0 Z = true) (wz : (Jvm.Cond.initialized C).before a0 Z = true) (eT : T.heap = h)
    (hd : decode c.code pc = .ok (.new index, 3)) (hc : cells + 1 ≤ R.cells) (hl : slots + n ≤ R.slots)
    (kk : ∀ (T' : State) (h' : Heap) (b : Addr), b = h.size → Stand p l e R s m args below meth c T' locs (cells + 1) (slots + n) → T'.heap = h' → Ext h h' → Exa Z h' b C → (∀ {O nm d : String} {ty : FieldType}, Laid Z a0 C O nm d → parseFieldDescriptor d = some ty → Fld Z h' b O nm d (defaultValue ty)) → own_Go p e below P T' (mkF m (pc + 3) Ls (.ref b :: st))) :
    own_Go p e below P T (mkF m pc Ls st) := by
  obtain ⟨T', h', X', e', E, A, D, -, stp⟩ := newO X hx hZ hown w wi wz eT (g := mkF m pc Ls st) rfl hd hc hl
  exact own_go stp (kk T' h' _ rfl X' e' E A (fun {_ _ _ _} q r => D q r))
theorem own_stC (X : Stand p l e R s m args below meth c T locs cells slots) (hx : p.tables.exec = Jvm.exec) (hZ : Z.Warmed39 s.vm) {x : Int32} (eT : T.heap = h) (A : Arv Z h b k .char n vs dv) (hj : ¬ j < 0 ∧ j < n) (i : Nat) (hi : j.toNatClampNeg = i) (hil : i < vs.length) (hd : decode c.code pc = .ok (.castore, 1))
    (kk : ∀ (T' : State) (h' : Heap), Stand p l e R s m args below meth c T' (locs ++ [⟨b, j.toNatClampNeg⟩]) cells slots → T'.heap = h' → Wr h h' b j.toNatClampNeg (.int (nar .char x)) → Arv Z h' b k .char n (vs.set i (.int (nar .char x))) dv → own_Go p e below P T' (mkF m (pc + 1) Ls rest)) :
    own_Go p e below P T (mkF m pc Ls (.int x :: .int j :: .ref b :: rest)) := by
  obtain ⟨cl, A1, q1, S, q3, H, G⟩ := A
  obtain ⟨T', h', X', e', W, st⟩ := stC X hx hZ eT A1 (j := j) (x := x) (inb_of S hj) (g := mkF m pc Ls (.int x :: .int j :: .ref b :: rest)) rfl rfl hd
  exact own_go st (kk T' h' X' e' W (Arv.set A1 q1 S q3 H G (fits_nar_char _) W i hi hil))
theorem own_ldC (X : Stand p l e R s m args below meth c T locs cells slots) (hx : p.tables.exec = Jvm.exec) (hZ : Z.Warmed39 s.vm) (eT : T.heap = h) (A : Arv Z h b k .char n vs dv) (hj : ¬ j < 0 ∧ j < n) (hv : vs.getD j.toNatClampNeg dv = v) (hd : decode c.code pc = .ok (.caload, 1))
    (kk : own_Go p e below P T (mkF m (pc + 1) Ls (v :: rest))) : own_Go p e below P T (mkF m pc Ls (.int j :: .ref b :: rest)) := by
  obtain ⟨cl, A1, q1, S, q3, H, G⟩ := A
  exact own_go (X.caload hx (j := j) (v := v) (by rw [eT]; exact A1.1) (State.isArrayOf_alike hZ.alike A1.2.1) A1.2.2 (inb_of S hj) (H.at (inb_of S hj) hv) (g := mkF m pc Ls (.int j :: .ref b :: rest)) rfl rfl hd) kk
theorem own_ldB (X : Stand p l e R s m args below meth c T locs cells slots) (hx : p.tables.exec = Jvm.exec) (hZ : Z.Warmed39 s.vm) (eT : T.heap = h) (A : Arv Z h b k .byte n vs dv) (hj : ¬ j < 0 ∧ j < n) (hv : vs.getD j.toNatClampNeg dv = v) (hd : decode c.code pc = .ok (.baload, 1))
    (kk : own_Go p e below P T (mkF m (pc + 1) Ls (v :: rest))) : own_Go p e below P T (mkF m pc Ls (.int j :: .ref b :: rest)) := by
  obtain ⟨cl, A1, q1, S, q3, H, G⟩ := A
  exact own_go (X.baloadBytes hx (j := j) (v := v) (by rw [eT]; exact A1.1) (State.isArrayOf_alike hZ.alike A1.2.1) A1.2.2 (inb_of S hj) (H.at (inb_of S hj) hv) (g := mkF m pc Ls (.int j :: .ref b :: rest)) rfl rfl hd) kk
theorem own_len (X : Stand p l e R s m args below meth c T locs cells slots) (hx : p.tables.exec = Jvm.exec) (hZ : Z.Warmed39 s.vm) (eT : T.heap = h) (A : Arv Z h b k ty n vs dv) (hd : decode c.code pc = .ok (.arraylength, 1))
    (kk : own_Go p e below P T (mkF m (pc + 1) Ls (.int n :: rest))) : own_Go p e below P T (mkF m pc Ls (.ref b :: rest)) := by
  obtain ⟨cl, A1, q1, S, q3, H, G⟩ := A
  refine own_go (X.arraylength hx (by rw [eT]; exact A1.1) (State.isArrayOf_alike hZ.alike A1.2.1) (g := mkF m pc Ls (.ref b :: rest)) rfl rfl hd) ?_
  rw [len_of S q3]
  exact kk
end Own2
section Own3
variable {p : Program} {l : Launch} {e : Env} {R : Room} {s : State} {vm0 : Vm} {m : MethodId} {args : Array Value} {below : List Frame} {meth : Method} {c : Code} {T T' : State} {locs : List Loc} {cells slots : Nat} {Z : State} {a0 : Array Value} {h : Heap} {P : Outcome → State → Prop} {a b : Addr} {pc : Nat} {Ls : Array Slot} {rest st : List Value}
/-- as own_End, where String constants may have been booked -/
def own_EndW (s : State) (Q : Option Value → Heap → List Loc → Prop) (k n : Nat) (o : Outcome) (t : State) : Prop := ∃ v L, o = .returned v ∧ Q v t.heap L ∧ ReturnedEndW s o t L k n
end Own3
section Own4
variable {p : Program} {l : Launch} {e : Env} {R : Room} {s : State} {vm0 : Vm} {m : MethodId} {args : Array Value} {below : List Frame} {meth : Method} {c : Code} {T T' : State} {locs : List Loc} {cells slots : Nat} {Z : State} {a0 : Array Value} {h h0 : Heap} {P : Outcome → State → Prop} {a b : Addr} {pc : Nat} {Ls : Array Slot} {rest st : List Value} {EL : List (String × Nat)}
/-- as own_EndW; what the constants of EL hold is still known -/
def own_EndH (Z : State) (EL : List (String × Nat)) (s : State) (h0 : Heap) (Q : Option Value → Heap → List Loc → Prop) (k n : Nat) (o : Outcome) (t : State) : Prop := ∃ v L, o = .returned v ∧ Q v t.heap L ∧ CHr Z EL s.vm h0 t.vm t.heap ∧ ReturnedEndW s o t L k n
def own_MetH (l : Launch) (Z : State) (EL : List (String × Nat)) (y : MethodName) (bytes : ByteArray) (maxL : Nat) (ret : Option FieldType) (rm : Room) (as' : Array Value) (h0 : Heap) (Q : Option Value → Heap → List Loc → Prop) : Prop :=
  ∀ ws : List Jvm.Cond, MetFree l y (head1 (Jvm.Cond.code y bytes maxL ret :: ws) rm) (fun a U => a = as' ∧ Z.Warmed39 U.vm ∧ U.heap = h0 ∧ CHv Z EL U.vm h0) (fun _ _ _ _ _ => True) (fun _ U o U' => ∃ v L, o = .returned v ∧ Q v U'.heap L ∧ CHr Z EL U.vm U.heap U'.vm U'.heap ∧ ReturnedEndW U o U' L rm.cells rm.slots)
theorem own_bodyH {y : MethodName} {bytes : ByteArray} {maxL : Nat} {ret : Option FieldType} {rm : Room} {as' : Array Value} {Q : Option Value → Heap → List Loc → Prop} (hp : plainFor y = true)
    (k : ∀ (p : Program) (e : Env) (s : State) (m : MethodId) (below : List Frame) (meth : Method) (c : Code) (T : State), Stand p l e rm (s.setVm s.vm) m as' below meth c T [] 0 0 → p.tables.exec = Jvm.exec → Z.Warmed39 (s.setVm s.vm).vm → c.code = bytes → c.maxLocals = maxL → (s.setVm s.vm).vm.findClass y.cls = some m.cls → meth.name = y.name →
      meth.sig.returnType = ret → meth.locks = false → T.heap = h0 → s.Since s.vm h0.size → h0.size ≤ h0.size → CHr Z EL s.vm h0 s.vm h0 → own_Go p e below (own_EndH Z EL s h0 Q rm.cells rm.slots) T (entryFrame m as' maxL)) : own_MetH l Z EL y bytes maxL ret rm as' h0 Q := by
  intro ws
  refine MetFree.of_bodySF hp hisR ?_
  intro p e s m args below meth c s₁ Bd hml0 hP hK
  obtain ⟨rfl, hZ, hh, hC⟩ := hP
  obtain ⟨s₂, o, q1, q2, q3, v, L, q4, q5, q6, q7⟩ := k p e s m below meth c s₁ (Stand.of_body Bd) Bd.exec hZ Bd.bytes hml0 (findClass_of_methodNamed Bd.named) (name_of_methodNamed Bd.named Bd.method).1 Bd.returns Bd.notSynchronized (by rw [← hh, Bd.state]; rfl) ((State.WarmedH.refl s).since _) (Nat.le_refl _) (CHr.refl hC)
  exact ⟨s₂, o, q1, q2, q3, v, L, q4, q5, by rw [hh]; exact q6, q7⟩
theorem own_retH (X : Stand p l e R (s.setVm vm0) m args below meth c T locs cells slots) (hx : p.tables.exec = Jvm.exec) {w : Value} {t : FieldType} {i : Instr} (hret : meth.sig.returnType = some t) (hlk : meth.locks = false) (hd : decode c.code pc = .ok (i, 1)) (hn : narrow t w = w)
    (hi : (i = .ireturn ∧ (t = .int ∨ t = .boolean ∨ t = .byte ∨ t = .char ∨ t = .short) ∧ ∃ z, w = .int z) ∨ (i = .lreturn ∧ t = .long ∧ ∃ z, w = .long z) ∨ (i = .dreturn ∧ t = .double ∧ ∃ z, w = .double z) ∨ (i = .freturn ∧ t = .float ∧ ∃ z, w = .float z) ∨ (i = .areturn ∧ t.isReference = true ∧ w.isRef = true))
    (hZ : Z.Warmed39 vm0) (hEL : EW Z a0 EL) (hC : CHr Z EL s.vm h0 vm0 h) (eT : T.heap = h) {n : Nat} (hS : s.Since vm0 n) (hk : n ≤ h.size) {Q : Option Value → Heap → List Loc → Prop} {kc kn : Nat} (hc : cells ≤ kc) (hs : slots ≤ kn) (hQ : Q (some w) T.heap locs) : own_Go p e below (own_EndH Z EL s h0 Q kc kn) T (mkF m pc Ls (w :: rest)) := by
  subst eT
  obtain ⟨fs, hr, hrun, hended, hE⟩ := X.leaveW hS hk (v := some w) (fun h => by rw [hret] at h; cases h) hlk
  exact ⟨_, _, retOut X hx hret hn hi hd hr, hrun, hended, _, _, rfl, hQ, hC.trans (show CHr Z EL vm0 T.heap T.vm T.heap from CHv.at X hZ hEL hC.1), hE.1, hE.2.1, hE.2.2.1, hE.2.2.2.mono hc hs⟩
theorem own_retIH (X : Stand p l e R (s.setVm vm0) m args below meth c T locs cells slots) (hx : p.tables.exec = Jvm.exec) {z : Int32} {t : FieldType} (hret : meth.sig.returnType = some t) (hlk : meth.locks = false) (hd : decode c.code pc = .ok (.ireturn, 1)) (hn : narrow t (.int z) = .int z)
    (ht : t = .int ∨ t = .boolean ∨ t = .byte ∨ t = .char ∨ t = .short) (hZ : Z.Warmed39 vm0) (hEL : EW Z a0 EL) (hC : CHr Z EL s.vm h0 vm0 h) (eT : T.heap = h) {n : Nat} (hS : s.Since vm0 n) (hk : n ≤ h.size) {Q : Option Value → Heap → List Loc → Prop} {kc kn : Nat} (hc : cells ≤ kc) (hs : slots ≤ kn) (hQ : Q (some (.int z)) T.heap locs) :
    own_Go p e below (own_EndH Z EL s h0 Q kc kn) T (mkF m pc Ls (.int z :: rest)) :=
  own_retH X hx hret hlk hd hn (Or.inl ⟨rfl, ht, z, rfl⟩) hZ hEL hC eT hS hk hc hs hQ
theorem own_retAH (X : Stand p l e R (s.setVm vm0) m args below meth c T locs cells slots) (hx : p.tables.exec = Jvm.exec) {w : Value} {t : FieldType} (hret : meth.sig.returnType = some t) (hlk : meth.locks = false) (hd : decode c.code pc = .ok (.areturn, 1)) (ht : t.isReference = true) (hw : w.isRef = true)
    (hZ : Z.Warmed39 vm0) (hEL : EW Z a0 EL) (hC : CHr Z EL s.vm h0 vm0 h) (eT : T.heap = h) {n : Nat} (hS : s.Since vm0 n) (hk : n ≤ h.size) {Q : Option Value → Heap → List Loc → Prop} {kc kn : Nat} (hc : cells ≤ kc) (hs : slots ≤ kn) (hQ : Q (some w) T.heap locs) :
    own_Go p e below (own_EndH Z EL s h0 Q kc kn) T (mkF m pc Ls (w :: rest)) :=
  own_retH X hx hret hlk hd (by cases t <;> first | rfl | (cases w <;> rfl) | (simp [FieldType.isReference] at ht)) (Or.inr (Or.inr (Or.inr (Or.inr ⟨rfl, ht, hw⟩)))) hZ hEL hC eT hS hk hc hs hQ
theorem own_retVH (X : Stand p l e R (s.setVm vm0) m args below meth c T locs cells slots) (hx : p.tables.exec = Jvm.exec) (hret : meth.sig.returnType = none) (hlk : meth.locks = false) (hd : decode c.code pc = .ok (.return_, 1))
    (hZ : Z.Warmed39 vm0) (hEL : EW Z a0 EL) (hC : CHr Z EL s.vm h0 vm0 h) (eT : T.heap = h) {n : Nat} (hS : s.Since vm0 n) (hk : n ≤ h.size) {Q : Option Value → Heap → List Loc → Prop} {kc kn : Nat} (hc : cells ≤ kc) (hs : slots ≤ kn) (hQ : Q none T.heap locs) : own_Go p e below (own_EndH Z EL s h0 Q kc kn) T (mkF m pc Ls []) := by
  subst eT
  obtain ⟨fs, hr, hrun, hended, hE⟩ := X.leaveW hS hk (v := none) (fun _ => rfl) hlk
  exact ⟨_, _, X.returnOut hx hret hd hr, hrun, hended, _, _, rfl, hQ, hC.trans (show CHr Z EL vm0 T.heap T.vm T.heap from CHv.at X hZ hEL hC.1), hE.1, hE.2.1, hE.2.2.1, hE.2.2.2.mono hc hs⟩
/-- a String constant that is read -/
theorem own_ldcH (X : Stand p l e R (s.setVm vm0) m args below meth c T locs cells slots) (hx : p.tables.exec = Jvm.exec) (hZ : Z.Warmed39 vm0) {own text : String} {index : Nat} (hown : vm0.findClass own = some m.cls) (w : (Jvm.Cond.stringLink own index text).before a0 Z = true) (wS : ∀ a ∈ Bundle.stringAtoms, a.before a0 Z = true)
    (eT : T.heap = h) {k0 : Nat} (hS : s.Since vm0 k0) (hk : k0 ≤ h.size) (hEL : EW Z a0 EL) (hmem : (own, index) ∈ EL) (H : CHv Z EL vm0 h) {vs : List Value} {z : Int32} (ht : (∀ c ∈ text.toList, c.toNat < 256) ∧ text.toList.map (fun c => Value.int (Jvm.Lit.byteI c.toNat.toUInt16)) = vs) (hz : ¬ z < 0) (hlz : z.toNatClampNeg = vs.length)
    (hd : decode c.code pc = .ok (.ldc index, 2)) (n : Nat) (hn : 4 * text.toList.length ≤ n) (hbig : n ≤ 536870912) (hc : cells + 2 ≤ R.cells) (hl : slots + (n + 4) ≤ R.slots)
    (kk : ∀ (a : Addr) (T' : State) (h' : Heap) (k1 : Nat) (b : Addr) (k : ClassId), Stand p l e R (s.setVm T'.vm) m args below meth c T' locs (cells + 2) (slots + (n + 4)) → T'.heap = h' → Ext h h' → s.Since T'.vm k1 → k1 ≤ h'.size → Z.Warmed39 (s.setVm T'.vm).vm → (s.setVm T'.vm).vm.findClass own = some m.cls →
      Exa Z h' a "java/lang/String" → Fld Z h' a "java/lang/String" "coder" "B" (.int 0) → Fld Z h' a "java/lang/String" "value" "[B" (.ref b) → Arv Z h' b k .byte z vs (.int 0) → CHr Z EL vm0 h T'.vm h' → Lit (s.setVm T'.vm) own index a → (∀ x, Safe Z EL T'.vm h' x → x ≠ a ∧ x ≠ b) → own_Go p e below P T' (mkF m (pc + 2) Ls (.ref a :: st))) :
    own_Go p e below P T (mkF m pc Ls st) := by
  obtain ⟨a, T', h', k1, b, k, X', e', E, S', hk', hZ', hown', q1, q2, q3, q4, -, -, hC, hL, hne, stp⟩ := ldcCH X hx hZ hown w wS eT hS hk hEL hmem H ht hz hlz (g := mkF m pc Ls st) rfl hd hn hbig hc hl
  exact own_go stp (kk a T' h' k1 b k X' e' E S' hk' hZ' hown' q1 q2 q3 q4 hC hL hne)
theorem own_callSH (X : Stand p l e R (s.setVm vm0) m args below meth c T locs cells slots) (hx : p.tables.exec = Jvm.exec) (hZ : Z.Warmed39 vm0) {own : String} {index : Nat} {y : MethodName} {bytes : ByteArray} {maxL : Nat} {ret : Option FieldType} (hown : vm0.findClass own = some m.cls)
    (w1 : (Jvm.Cond.methodLink own index y).before a0 Z = true) (w2 : (Jvm.Cond.static y).before a0 Z = true) (w3 : (Jvm.Cond.initialized y.cls).before a0 Z = true) (w4 : (Jvm.Cond.code y bytes maxL ret).before a0 Z = true) (hy : y.cls ≠ "java/lang/invoke/MethodHandle" ∧ y.cls ≠ "java/lang/invoke/VarHandle")
    {argsL rest : List Value} {rm : Room} {Q : Option Value → Heap → List Loc → Prop} (hM : own_MetH l Z EL y bytes maxL ret rm (argsL).toArray h Q) (hEL : EW Z a0 EL) (H : CHv Z EL vm0 h) {k0 : Nat} (hS : s.Since vm0 k0) (hk : k0 ≤ h.size) (eT : T.heap = h) {st : List Value} (hsize : Ls.size = c.maxLocals)
    (hlen : ∀ sig, parseMethodDescriptor y.desc = some sig → argsL.length = sig.parameters.length) (hstack : st = argsL.reverse ++ rest) (hd : decode c.code pc = .ok (.invokestatic index, 3)) {W : Nat} (hW : (rest.map fun v => v.category).sum ≤ W) (h4 : rm.frames + 1 ≤ R.frames ∧ W + (maxL + 11) + rm.locals ≤ R.locals ∧ cells + rm.cells ≤ R.cells ∧ slots + rm.slots ≤ R.slots)
    (k : ∀ (v : Option Value) (T' : State) (L : List Loc), Stand p l e R (s.setVm T'.vm) m args below meth c T' (locs ++ L) (cells + rm.cells) (slots + rm.slots) → s.Since T'.vm T'.heap.size → Z.Warmed39 (s.setVm T'.vm).vm → (s.setVm T'.vm).vm.findClass own = some m.cls → CHr Z EL vm0 h T'.vm T'.heap → Q v T'.heap L → own_Go p e below P T' (mkF m (pc + 3) Ls (v.toList ++ rest))) : own_Go p e below P T (mkF m pc Ls st) := by
  obtain ⟨v, _, ⟨T', L', k', n'⟩, -, X', hS', hg, ⟨Lc, hQ, l1, y1, z1, hC⟩, stp⟩ := callSS X hx (y := y) hown (mvT (s := s.setVm vm0) hZ w1) (mvT (s := s.setVm vm0) hZ w2) (mvT (s := s.setVm vm0) hZ w3) (mvT (s := s.setVm vm0) hZ w4) hy (backOfSH (W := W) (hM []) hZ w4 w3 h4.1 h4.2.1 hEL H) (g := mkF m pc Ls st) rfl hsize (argsL := argsL) (rest := rest) hlen hstack (by show 2 * 0 + _ ≤ _; omega) hd (fun _ _ => ⟨rfl, eT, h4.2.2.1, h4.2.2.2⟩)
  dsimp only [Pt.U, Pt.locs, Pt.cells, Pt.slots] at X' l1 y1 z1 stp hQ hS' hg hC
  subst l1 y1 z1
  exact own_go (fun _ q => stp.trans q) (k v T' Lc X' (foldS hS (by rw [eT]; exact hk) hS' hg) (State.Warmed39.trans (t := s.setVm vm0) hZ hS'.1) (by rw [show (s.setVm T'.vm).vm = T'.vm from rfl, hS'.1.alike.findClass]; exact hown) hC hQ)
theorem own_callNH (X : Stand p l e R (s.setVm vm0) m args below meth c T locs cells slots) (hx : p.tables.exec = Jvm.exec) (hZ : Z.Warmed39 vm0) {own : String} {index : Nat} {y : MethodName} {bytes : ByteArray} {maxL : Nat} (hown : vm0.findClass own = some m.cls)
    (w1 : (Jvm.Cond.methodLink own index y).before a0 Z = true) (w2 : (Jvm.Cond.instanceMethod y).before a0 Z = true) (w4 : (Jvm.Cond.code y bytes maxL none).before a0 Z = true) (w3 : (Jvm.Cond.initialized y.cls).before a0 Z = true) (hy : y.cls ≠ "java/lang/invoke/MethodHandle" ∧ y.cls ≠ "java/lang/invoke/VarHandle") (hn : y.name = "<init>")
    {argsL rest : List Value} {rm : Room} {Q : Option Value → Heap → List Loc → Prop} (hM : own_MetH l Z EL y bytes maxL none rm (.ref b :: argsL).toArray h Q) (hEL : EW Z a0 EL) (H : CHv Z EL vm0 h) {k0 : Nat} (hS : s.Since vm0 k0) (hk : k0 ≤ h.size) (eT : T.heap = h) {st : List Value} (hsize : Ls.size = c.maxLocals)
    (hlen : ∀ sig, parseMethodDescriptor y.desc = some sig → argsL.length = sig.parameters.length) (hstack : st = argsL.reverse ++ .ref b :: rest) (hd : decode c.code pc = .ok (.invokespecial index, 3)) {W : Nat} (hW : (rest.map fun v => v.category).sum ≤ W) (h4 : rm.frames + 1 ≤ R.frames ∧ W + (maxL + 11) + rm.locals ≤ R.locals ∧ cells + rm.cells ≤ R.cells ∧ slots + rm.slots ≤ R.slots)
    (k : ∀ (v : Option Value) (T' : State) (L : List Loc), Stand p l e R (s.setVm T'.vm) m args below meth c T' (locs ++ L) (cells + rm.cells) (slots + rm.slots) → s.Since T'.vm T'.heap.size → Z.Warmed39 (s.setVm T'.vm).vm → (s.setVm T'.vm).vm.findClass own = some m.cls → CHr Z EL vm0 h T'.vm T'.heap → Q v T'.heap L → own_Go p e below P T' (mkF m (pc + 3) Ls (v.toList ++ rest))) : own_Go p e below P T (mkF m pc Ls st) := by
  obtain ⟨v, _, ⟨T', L', k', n'⟩, -, X', hS', hg, ⟨Lc, hQ, l1, y1, z1, hC⟩, stp⟩ := X.specialBackS hx (y := y) hn hown (mvT (s := s.setVm vm0) hZ w1) (mvT (s := s.setVm vm0) hZ w2) (mvT (s := s.setVm vm0) hZ w4) hy (backOfSH (W := W) (hM []) hZ w4 w3 h4.1 h4.2.1 hEL H) (g := mkF m pc Ls st) rfl hsize (Steps.refl _) (a := b) (argsL := argsL) (rest := rest) hlen hstack (by show 2 * 0 + _ ≤ _; omega) hd (fun _ _ => ⟨rfl, eT, h4.2.2.1, h4.2.2.2⟩)
  dsimp only [Pt.U, Pt.locs, Pt.cells, Pt.slots] at X' l1 y1 z1 stp hQ hS' hg hC
  subst l1 y1 z1
  exact own_go (fun _ q => stp.trans q) (k v T' Lc X' (foldS hS (by rw [eT]; exact hk) hS' hg) (State.Warmed39.trans (t := s.setVm vm0) hZ hS'.1) (by rw [show (s.setVm T'.vm).vm = T'.vm from rfl, hS'.1.alike.findClass]; exact hown) hC hQ)
theorem own_callVH (X : Stand p l e R (s.setVm vm0) m args below meth c T locs cells slots) (hx : p.tables.exec = Jvm.exec) (hZ : Z.Warmed39 vm0) {own C : String} {index : Nat} {y z : MethodName} {bytes : ByteArray} {maxL : Nat} {ret : Option FieldType} (hown : vm0.findClass own = some m.cls)
    (w1 : (Jvm.Cond.methodLink own index y).before a0 Z = true) (w2 : (Jvm.Cond.declares y).before a0 Z = true) (nf : NotFace (s.setVm vm0) y) (w3 : (Jvm.Cond.selects C y z).before a0 Z = true) (w4 : (Jvm.Cond.instanceMethod z).before a0 Z = true) (w5 : (Jvm.Cond.code z bytes maxL ret).before a0 Z = true) (w6 : (Jvm.Cond.initialized z.cls).before a0 Z = true) (hy : y.cls ≠ "java/lang/invoke/MethodHandle" ∧ y.cls ≠ "java/lang/invoke/VarHandle")
    {argsL rest : List Value} {rm : Room} {Q : Option Value → Heap → List Loc → Prop} (hM : own_MetH l Z EL z bytes maxL ret rm (.ref b :: argsL).toArray h Q) (hEL : EW Z a0 EL) (H : CHv Z EL vm0 h) {k0 : Nat} (hS : s.Since vm0 k0) (hk : k0 ≤ h.size) (eT : T.heap = h) (E : Exa Z h b C) {st : List Value} (hsize : Ls.size = c.maxLocals)
    (hlen : ∀ sig, parseMethodDescriptor y.desc = some sig → argsL.length = sig.parameters.length) (hstack : st = argsL.reverse ++ .ref b :: rest) (hd : decode c.code pc = .ok (.invokevirtual index, 3)) {W : Nat} (hW : (rest.map fun v => v.category).sum ≤ W) (h4 : rm.frames + 1 ≤ R.frames ∧ W + (maxL + 11) + rm.locals ≤ R.locals ∧ cells + rm.cells ≤ R.cells ∧ slots + rm.slots ≤ R.slots)
    (k : ∀ (v : Option Value) (T' : State) (L : List Loc), Stand p l e R (s.setVm T'.vm) m args below meth c T' (locs ++ L) (cells + rm.cells) (slots + rm.slots) → s.Since T'.vm T'.heap.size → Z.Warmed39 (s.setVm T'.vm).vm → (s.setVm T'.vm).vm.findClass own = some m.cls → CHr Z EL vm0 h T'.vm T'.heap → Q v T'.heap L → own_Go p e below P T' (mkF m (pc + 3) Ls (v.toList ++ rest))) : own_Go p e below P T (mkF m pc Ls st) := by
  obtain ⟨cq, kq, qa, qb, qc⟩ := isOf (s := s.setVm vm0) hZ eT E
  obtain ⟨v, _, ⟨T', L', k', n'⟩, -, X', hS', hg, ⟨Lc, hQ, l1, y1, z1, hC⟩, stp⟩ := X.virtualBackS hx (y := y) (z := z) hown (mvT (s := s.setVm vm0) hZ w1) (mvT (s := s.setVm vm0) hZ w2) nf (mvT (s := s.setVm vm0) hZ w3) (mvT (s := s.setVm vm0) hZ w4) hy (backOfSH (W := W) (hM []) hZ w5 w6 h4.1 h4.2.1 hEL H) qa qc (g := mkF m pc Ls st) rfl hsize (Steps.refl _) (argsL := argsL) (rest := rest) hlen hstack (by show 2 * 0 + _ ≤ _; omega) hd (fun _ _ => ⟨rfl, eT, h4.2.2.1, h4.2.2.2⟩)
  dsimp only [Pt.U, Pt.locs, Pt.cells, Pt.slots] at X' l1 y1 z1 stp hQ hS' hg hC
  subst l1 y1 z1
  exact own_go (fun _ q => stp.trans q) (k v T' Lc X' (foldS hS (by rw [eT]; exact hk) hS' hg) (State.Warmed39.trans (t := s.setVm vm0) hZ hS'.1) (by rw [show (s.setVm T'.vm).vm = T'.vm from rfl, hS'.1.alike.findClass]; exact hown) hC hQ)
/-- a String under construction is no constant's -/
theorem own_safe0 {vm : Vm} {x : Addr} (hal : Z.vm.Alike vm) (E : Exa Z h x "java/lang/String") (F : Fld Z h x "java/lang/String" "value" "[B" .null) : Safe Z EL vm h x := fun B => by
  obtain ⟨p, hp, u, a, hb, q, hq, ⟨cS, ⟨⟨s1, s2, s3, ⟨cv, kv, iv, s4, s4'⟩, s5, s6, s7, s8, s9, s10, -⟩, hfS, hcS⟩, -, hB, -⟩, hy⟩ := B
  obtain ⟨cell, k, e1, e2, e3, -, -⟩ := E
  obtain ⟨cell', cf, k', i, f, f1, f2, -, -, -, -, f7⟩ := F
  cases e1.symm.trans f1
  rcases hy with rfl | rfl
  · have hs1 : h[q.sa]? = some q.sC := s1
    cases e1.symm.trans hs1
    obtain ⟨kv', z4⟩ := ff_back (U := Wst Z vm h) hal s4
    have z4' : Z.fieldFound? "java/lang/String" "value" "[B" = some (cv, kv', iv, q.fSV) := z4
    cases f2.symm.trans z4'
    have s8' : q.sC.slots[q.fSV.slot]? = some (.ref q.sd) := s8
    rw [f7] at s8'
    cases s8'
  · have hs1 : h[q.sd]? = some q.SA := s10
    cases e1.symm.trans hs1
    have hB' : vm.findClass "[B" = some q.SA.cls := hB
    rw [hal.findClass] at hB'
    obtain ⟨k1, q1, q2⟩ := Vm.findClass_spec hB'
    obtain ⟨k2, q3, q4⟩ := Vm.findClass_spec e2
    cases q1.symm.trans q3
    exact absurd (q2.symm.trans q4) (by decide)
end Own4
theorem own_bytes : ∀ n : Fin 256, ((Int32.ofNat n.val).toInt8.toInt32 &&& 255) = Int32.ofNat n.val ∧ (Int32.ofNat n.val).toUInt32.toUInt16.toUInt32.toInt32 = Int32.ofNat n.val := by decide +kernel
theorem own_nat (c : Int32) (h : ¬ c < 0 ∧ ¬ (255 : Int32) < c) : ∃ n : Fin 256, c = Int32.ofNat n.val := by
  have e0 : (0 : Int32).toInt = 0 := rfl
  have e1 : (255 : Int32).toInt = 255 := rfl
  obtain ⟨h1, h2⟩ := h
  rw [Int32.lt_iff_toInt_lt, e0] at h1
  rw [Int32.lt_iff_toInt_lt, e1] at h2
  refine ⟨⟨c.toInt.toNat, by omega⟩, Int32.toInt_inj.mp ?_⟩
  rw [Int32.toInt_ofNat_small (by show c.toInt.toNat < 2 ^ 31; omega)]
  show c.toInt = (c.toInt.toNat : Int); omega
theorem own_rt (c : Int32) (h : ¬ c < 0 ∧ ¬ (255 : Int32) < c) : (c.toInt8.toInt32 &&& 255) = c := by obtain ⟨n, rfl⟩ := own_nat c h; exact (own_bytes n).1
theorem own_ic (c : Int32) (h : ¬ c < 0 ∧ ¬ (255 : Int32) < c) : c.toUInt32.toUInt16.toUInt32.toInt32 = c := by obtain ⟨n, rfl⟩ := own_nat c h; exact (own_bytes n).2
theorem own_nc (c : Int32) (h : ¬ c < 0 ∧ ¬ (255 : Int32) < c) : narrow .char (.int c) = .int c := by
  have q := own_ic c h
  show Value.int c.toUInt32.toUInt16.toUInt32.toInt32 = _
  rw [q]
theorem own_and255 (x : Int32) : 0 ≤ (x &&& 255).toInt ∧ (x &&& 255).toInt ≤ 255 := by
  have h : (x &&& 255).toInt = x.toInt % 2 ^ 8 := Jvm.Kit.i32_mask x 255 (k := 8) (by decide) (by decide)
  rw [h]; omega
theorem own_ch (x : Int32) : ¬ (x &&& 255) < 0 ∧ ¬ (255 : Int32) < (x &&& 255) := by
  have h := own_and255 x
  have e0 : (0 : Int32).toInt = 0 := rfl
  have e1 : (255 : Int32).toInt = 255 := rfl
  rw [Int32.lt_iff_toInt_lt, Int32.lt_iff_toInt_lt, e0, e1]; omega
theorem own_b47n : ∀ n : Fin 256, (Int32.ofNat n.val).toInt8.toInt32 = 47 → Int32.ofNat n.val = 47 := by decide +kernel
theorem own_b47 (c : Int32) (h : ¬ c < 0 ∧ ¬ (255 : Int32) < c) (q : c.toInt8.toInt32 = 47) : c = 47 := by obtain ⟨n, rfl⟩ := own_nat c h; exact own_b47n n q
theorem own_rem5 (x : Int32) : 0 ≤ ((x &&& 2147483647) % 5).toInt ∧ ((x &&& 2147483647) % 5).toInt ≤ 4 := by
  have h : (x &&& 2147483647).toInt = x.toInt % 2 ^ 31 := Jvm.Kit.i32_mask x 2147483647 (k := 31) (by decide) (by decide)
  have q : ((x &&& 2147483647) % 5).toInt = (x &&& 2147483647).toInt % (5 : Int32).toInt := Jvm.Kit.i32_rem_nonneg (by omega)
  have e : (5 : Int32).toInt = 5 := rfl
  rw [q, e]; omega
theorem own_cases (x : Int32) : (x &&& 2147483647) % 5 = 0 ∨ (x &&& 2147483647) % 5 = 1 ∨ (x &&& 2147483647) % 5 = 2 ∨ (x &&& 2147483647) % 5 = 3 ∨ (x &&& 2147483647) % 5 = 4 := by
  have q := own_rem5 x
  have hh : ((x &&& 2147483647) % 5).toInt = 0 ∨ ((x &&& 2147483647) % 5).toInt = 1 ∨ ((x &&& 2147483647) % 5).toInt = 2 ∨ ((x &&& 2147483647) % 5).toInt = 3 ∨ ((x &&& 2147483647) % 5).toInt = 4 := by omega
  rcases hh with h | h | h | h | h
  · exact Or.inl (own_i32 0 rfl h)
  · exact Or.inr (Or.inl (own_i32 1 rfl h))
  · exact Or.inr (Or.inr (Or.inl (own_i32 2 rfl h)))
  · exact Or.inr (Or.inr (Or.inr (Or.inl (own_i32 3 rfl h))))
  · exact Or.inr (Or.inr (Or.inr (Or.inr (own_i32 4 rfl h))))
def own_EL : List (String × Nat) := [("java/lang/String", 7), ("java/lang/StringLatin1", 151)]
theorem own_EW {Z : State} {a0 : Array Value} (hw : ∀ d ∈ tables_1, d.before a0 Z = true) : EW Z a0 own_EL := (EW.cons (own_hw hw 22 rfl) (by decide) (EW.cons (own_hw hw 106 rfl) (by decide) EW.nil))
def own_Gs (Z : State) (z : Int32) (sf : Value) : Prop := Sta Z Z.heap "java/lang/String" "COMPACT_STRINGS" "Z" (.int z) ∧ ¬ z = 0 ∧ Sta Z Z.heap "jdk/internal/util/Preconditions" "SIOOBE_FORMATTER" "Ljava/util/function/BiFunction;" sf ∧ sf.isRef = true
abbrev own_E (Z : State) (h : Heap) (t : Addr) : Prop := Exa Z h t "java/lang/String"
abbrev own_V (Z : State) (h : Heap) (t b : Addr) : Prop := Fld Z h t "java/lang/String" "value" "[B" (.ref b)
abbrev own_C (Z : State) (h : Heap) (t : Addr) : Prop := Fld Z h t "java/lang/String" "coder" "B" (.int 0)
def own_Qh (h0 : Heap) (n0 : Nat) (v : Option Value) (h : Heap) (L : List Loc) : Prop := ∃ c : Int32, v = some (.int c) ∧ Fr n0 L ∧ h = h0 ∧ (¬ c < 0 ∧ ¬ (255 : Int32) < c)
theorem d1_0 : decode method_4_code 0 = .ok (.iload_n 0, 1) := by decide +kernel
theorem d1_1 : decode method_4_code 1 = .ok (.iconst 3, 1) := by decide +kernel
theorem d1_2 : decode method_4_code 2 = .ok (.iand, 1) := by decide +kernel
theorem d1_3 : decode method_4_code 3 = .ok (.ifCond .ne 6, 3) := by decide +kernel
theorem d1_6 : decode method_4_code 6 = .ok (.bipush 47, 2) := by decide +kernel
theorem d1_8 : decode method_4_code 8 = .ok (.ireturn, 1) := by decide +kernel
theorem d1_9 : decode method_4_code 9 = .ok (.iload_n 0, 1) := by decide +kernel
theorem d1_10 : decode method_4_code 10 = .ok (.iconst 2, 1) := by decide +kernel
theorem d1_11 : decode method_4_code 11 = .ok (.iushr, 1) := by decide +kernel
theorem d1_12 : decode method_4_code 12 = .ok (.sipush 255, 3) := by decide +kernel
theorem d1_15 : decode method_4_code 15 = .ok (.iand, 1) := by decide +kernel
theorem d1_16 : decode method_4_code 16 = .ok (.i2c, 1) := by decide +kernel
theorem d1_17 : decode method_4_code 17 = .ok (.ireturn, 1) := by decide +kernel
def own_r_own_chr : Room := { frames := 0, cells := 0, slots := 0, locals := 0 }
theorem own_chr (l : Launch) (Z : State) (a0 : Array Value) (hw : own_W a0 Z) (p1 : Int32) (h0 : Heap) (n0 : Nat)  :
    own_Met l Z (⟨"com/example/svazek/svazek/PackageFolderNameOfPinLaw", "draw", "(I)C"⟩ : MethodName) method_4_code 1 (some .char) own_r_own_chr #[(.int p1)] h0 (own_Qh h0 n0) := by
  refine own_body (by decide +kernel) ?_
  intro p e s m below meth c T0 X0 hx hZ hby hml hown hnm hret hlk e0
  have N0 := Fr.nil n0
  refine own_cast (own_frame (L := [iv p1]) (ls := #[iv p1]) rfl rfl) ?_
  refine og_iloadN X0 hx (hb hby d1_0) rfl ?_
  refine og_iconst X0 hx (hb hby d1_1) ?_
  refine og_iand X0 hx (hb hby d1_2) ?_
  show own_Go p e below _ T0 (mkF m 3 #[iv p1] [(.int (p1 &&& 3))])
  by_cases hc3 : (p1 &&& 3) = 0
  · refine og_ifN X0 hx (hb hby d1_3) (teq hc3).2 ?_
    refine og_bipush X0 hx (hb hby d1_6) ?_
    exact own_retI X0 hx hret hlk (hb hby d1_8) rfl (by simp) (by decide) (by decide) (⟨_, rfl, N0, e0, by decide⟩)
  · refine og_ifY X0 hx 9 (hb hby d1_3) (feq hc3).2 (by decide) (by decide) ?_
    refine og_iloadN X0 hx (hb hby d1_9) rfl ?_
    refine og_iconst X0 hx (hb hby d1_10) ?_
    refine own_go (fun t k => XS.iushr X0.here hx rfl (hb hby d1_11) rfl k) ?_
    show own_Go p e below _ T0 (mkF m 12 #[iv p1] [(.int ((p1.toUInt32 >>> ((2 : Int32) &&& 31).toUInt32).toInt32))])
    refine og_sipush X0 hx (hb hby d1_12) ?_
    refine og_iand X0 hx (hb hby d1_15) ?_
    show own_Go p e below _ T0 (mkF m 16 #[iv p1] [(.int (((p1.toUInt32 >>> ((2 : Int32) &&& 31).toUInt32).toInt32) &&& 255))])
    refine own_go (fun t k => XS.i2c X0.here hx rfl (hb hby d1_16) rfl k) ?_
    show own_Go p e below _ T0 (mkF m 17 #[iv p1] [(.int ((((p1.toUInt32 >>> ((2 : Int32) &&& 31).toUInt32).toInt32) &&& 255).toUInt32.toUInt16.toUInt32.toInt32))])
    obtain ⟨c1, hc1, ec1⟩ : ∃ c : Int32, (¬ c < 0 ∧ ¬ (255 : Int32) < c) ∧ (((p1.toUInt32 >>> ((2 : Int32) &&& 31).toUInt32).toInt32) &&& 255).toUInt32.toUInt16.toUInt32.toInt32 = c := ⟨_, own_ch _, i2c_mask _⟩
    rw [ec1]
    show own_Go p e below _ T0 (mkF m 17 #[iv p1] [(.int c1)])
    exact own_retI X0 hx hret hlk (hb hby d1_17) (own_nc _ hc1) (by simp) (by decide) (by decide) (⟨_, rfl, N0, e0, hc1⟩)
def own_Qc0 (Z : State) (h0 : Heap) (n0 : Nat) (v : Option Value) (h : Heap) (L : List Loc) : Prop := ∃ (b : Addr) (k : ClassId), v = some (.ref b) ∧ Fr n0 L ∧ Keep h0 h [] ∧ h0.size ≤ b ∧ n0 ≤ b ∧ Arv Z h b k .char 0 [] (.int (0 : Int32))
theorem d2_0 : decode method_5_code 0 = .ok (.iload_n 0, 1) := by decide +kernel
theorem d2_1 : decode method_5_code 1 = .ok (.ifCond .ne 7, 3) := by decide +kernel
theorem d2_4 : decode method_5_code 4 = .ok (.iconst 0, 1) := by decide +kernel
theorem d2_5 : decode method_5_code 5 = .ok (.newarray .char, 2) := by decide +kernel
theorem d2_7 : decode method_5_code 7 = .ok (.areturn, 1) := by decide +kernel
def own_r_own_mk0 : Room := { frames := 0, cells := 1, slots := 0, locals := 0 }
theorem own_mk0 (l : Launch) (Z : State) (a0 : Array Value) (hw : own_W a0 Z) (c0 c1 c2 c3 : Int32) (h0 : Heap) (n0 : Nat) (hO : Old Z n0 h0) (hc0 : ¬ c0 < 0 ∧ ¬ (255 : Int32) < c0) (hc1 : ¬ c1 < 0 ∧ ¬ (255 : Int32) < c1) (hc2 : ¬ c2 < 0 ∧ ¬ (255 : Int32) < c2) (hc3 : ¬ c3 < 0 ∧ ¬ (255 : Int32) < c3) :
    own_Met l Z (⟨"com/example/svazek/svazek/PackageFolderNameOfPinLaw", "chars", "(ICCCC)[C"⟩ : MethodName) method_5_code 5 (some (.array .char)) own_r_own_mk0 #[(.int 0), (.int c0), (.int c1), (.int c2), (.int c3)] h0 (own_Qc0 Z h0 n0) := by
  refine own_body (by decide +kernel) ?_
  intro p e s m below meth c T0 X0 hx hZ hby hml hown hnm hret hlk e0
  have N0 := Fr.nil n0
  refine own_cast (own_frame (L := [iv 0, iv c0, iv c1, iv c2, iv c3]) (ls := #[iv 0, iv c0, iv c1, iv c2, iv c3]) rfl rfl) ?_
  refine og_iloadN X0 hx (hb hby d2_0) rfl ?_
  refine og_ifN X0 hx (hb hby d2_1) (teq rfl).2 ?_
  refine og_iconst X0 hx (hb hby d2_4) ?_
  refine own_newP X0 hx hZ (own_hw hw 8 rfl) e0 (hb hby d2_5) (by decide) 0 (by decide) (by decide) (by decide) (by decide) ?_
  intro T1 h1 k1 b1 g1 X1 e1 E1 A1
  have ge_b1 : n0 ≤ b1 := Nat.le_trans (own_oldle hO) (Nat.le_of_eq g1.symm)
  have sz_b1 : h0.size ≤ b1 := Nat.le_trans (Keep.refl h0 []).1 (Nat.le_of_eq g1.symm)
  have O1 := hO.ext E1
  have K1 := (Keep.refl h0 []).ext E1
  have A_b1_1 : Arv Z h1 b1 k1 .char 0 [] (.int (0 : Int32)) := A1
  show own_Go p e below _ T1 (mkF m 7 #[iv 0, iv c0, iv c1, iv c2, iv c3] [(.ref b1)])
  exact own_retA X1 hx hret hlk (hb hby d2_7) rfl rfl (by decide) (by decide) (by rw [e1]; exact ⟨b1, _, rfl, N0, K1, sz_b1, ge_b1, A_b1_1⟩)
def own_Qc1 (Z : State) (h0 : Heap) (n0 : Nat) (c0 : Int32) (v : Option Value) (h : Heap) (L : List Loc) : Prop := ∃ (b : Addr) (k : ClassId), v = some (.ref b) ∧ Fr n0 L ∧ Keep h0 h [] ∧ h0.size ≤ b ∧ n0 ≤ b ∧ Arv Z h b k .char 1 [.int c0] (.int (0 : Int32))
theorem d2_8 : decode method_5_code 8 = .ok (.iload_n 0, 1) := by decide +kernel
theorem d2_9 : decode method_5_code 9 = .ok (.iconst 1, 1) := by decide +kernel
theorem d2_10 : decode method_5_code 10 = .ok (.if_icmp .ne 11, 3) := by decide +kernel
theorem d2_13 : decode method_5_code 13 = .ok (.iconst 1, 1) := by decide +kernel
theorem d2_14 : decode method_5_code 14 = .ok (.newarray .char, 2) := by decide +kernel
theorem d2_16 : decode method_5_code 16 = .ok (.dup, 1) := by decide +kernel
theorem d2_17 : decode method_5_code 17 = .ok (.iconst 0, 1) := by decide +kernel
theorem d2_18 : decode method_5_code 18 = .ok (.iload_n 1, 1) := by decide +kernel
theorem d2_19 : decode method_5_code 19 = .ok (.castore, 1) := by decide +kernel
theorem d2_20 : decode method_5_code 20 = .ok (.areturn, 1) := by decide +kernel
def own_r_own_mk1 : Room := { frames := 0, cells := 1, slots := 1, locals := 0 }
theorem own_mk1 (l : Launch) (Z : State) (a0 : Array Value) (hw : own_W a0 Z) (c0 c1 c2 c3 : Int32) (h0 : Heap) (n0 : Nat) (hO : Old Z n0 h0) (hc0 : ¬ c0 < 0 ∧ ¬ (255 : Int32) < c0) (hc1 : ¬ c1 < 0 ∧ ¬ (255 : Int32) < c1) (hc2 : ¬ c2 < 0 ∧ ¬ (255 : Int32) < c2) (hc3 : ¬ c3 < 0 ∧ ¬ (255 : Int32) < c3) :
    own_Met l Z (⟨"com/example/svazek/svazek/PackageFolderNameOfPinLaw", "chars", "(ICCCC)[C"⟩ : MethodName) method_5_code 5 (some (.array .char)) own_r_own_mk1 #[(.int 1), (.int c0), (.int c1), (.int c2), (.int c3)] h0 (own_Qc1 Z h0 n0 c0) := by
  refine own_body (by decide +kernel) ?_
  intro p e s m below meth c T0 X0 hx hZ hby hml hown hnm hret hlk e0
  have N0 := Fr.nil n0
  refine own_cast (own_frame (L := [iv 1, iv c0, iv c1, iv c2, iv c3]) (ls := #[iv 1, iv c0, iv c1, iv c2, iv c3]) rfl rfl) ?_
  refine og_iloadN X0 hx (hb hby d2_0) rfl ?_
  refine og_ifY X0 hx 8 (hb hby d2_1) (feq (by decide)).2 (by decide) (by decide) ?_
  refine og_iloadN X0 hx (hb hby d2_8) rfl ?_
  refine og_iconst X0 hx (hb hby d2_9) ?_
  refine og_icN X0 hx (hb hby d2_10) (teq rfl).2 ?_
  refine og_iconst X0 hx (hb hby d2_13) ?_
  refine own_newP X0 hx hZ (own_hw hw 8 rfl) e0 (hb hby d2_14) (by decide) 1 (by decide) (by decide) (by decide) (by decide) ?_
  intro T1 h1 k1 b1 g1 X1 e1 E1 A1
  have ge_b1 : n0 ≤ b1 := Nat.le_trans (own_oldle hO) (Nat.le_of_eq g1.symm)
  have sz_b1 : h0.size ≤ b1 := Nat.le_trans (Keep.refl h0 []).1 (Nat.le_of_eq g1.symm)
  have O1 := hO.ext E1
  have K1 := (Keep.refl h0 []).ext E1
  have A_b1_1 : Arv Z h1 b1 k1 .char 1 [(.int (0 : Int32))] (.int (0 : Int32)) := A1
  show own_Go p e below _ T1 (mkF m 16 #[iv 1, iv c0, iv c1, iv c2, iv c3] [(.ref b1)])
  refine og_dup X1 hx (hb hby d2_16) rfl ?_
  refine og_iconst X1 hx (hb hby d2_17) ?_
  refine og_iloadN X1 hx (hb hby d2_18) rfl ?_
  refine own_stC X1 hx hZ e1 A_b1_1 ⟨by decide, by decide⟩ 0 rfl (by show 0 < 1; decide) (hb hby d2_19) ?_
  intro T2 h2 X2 e2 W2 A2
  have O2 := O1.wr W2 ge_b1
  have K2 := K1.wr W2 (Or.inr sz_b1)
  have N2 := Fr.snoc X2 N0 ge_b1
  have A_b1_2 : Arv Z h2 b1 k1 .char 1 [(.int c0)] (.int (0 : Int32)) := (by have q := A2; rw [show nar .char c0 = c0 from own_ic _ hc0] at q; exact q)
  show own_Go p e below _ T2 (mkF m 20 #[iv 1, iv c0, iv c1, iv c2, iv c3] [(.ref b1)])
  exact own_retA X2 hx hret hlk (hb hby d2_20) rfl rfl (by decide) (by decide) (by rw [e2]; exact ⟨b1, _, rfl, N2, K2, sz_b1, ge_b1, A_b1_2⟩)
def own_Qc2 (Z : State) (h0 : Heap) (n0 : Nat) (c0 c1 : Int32) (v : Option Value) (h : Heap) (L : List Loc) : Prop := ∃ (b : Addr) (k : ClassId), v = some (.ref b) ∧ Fr n0 L ∧ Keep h0 h [] ∧ h0.size ≤ b ∧ n0 ≤ b ∧ Arv Z h b k .char 2 [.int c0, .int c1] (.int (0 : Int32))
theorem d2_21 : decode method_5_code 21 = .ok (.iload_n 0, 1) := by decide +kernel
theorem d2_22 : decode method_5_code 22 = .ok (.iconst 2, 1) := by decide +kernel
theorem d2_23 : decode method_5_code 23 = .ok (.if_icmp .ne 15, 3) := by decide +kernel
theorem d2_26 : decode method_5_code 26 = .ok (.iconst 2, 1) := by decide +kernel
theorem d2_27 : decode method_5_code 27 = .ok (.newarray .char, 2) := by decide +kernel
theorem d2_29 : decode method_5_code 29 = .ok (.dup, 1) := by decide +kernel
theorem d2_30 : decode method_5_code 30 = .ok (.iconst 0, 1) := by decide +kernel
theorem d2_31 : decode method_5_code 31 = .ok (.iload_n 1, 1) := by decide +kernel
theorem d2_32 : decode method_5_code 32 = .ok (.castore, 1) := by decide +kernel
theorem d2_33 : decode method_5_code 33 = .ok (.dup, 1) := by decide +kernel
theorem d2_34 : decode method_5_code 34 = .ok (.iconst 1, 1) := by decide +kernel
theorem d2_35 : decode method_5_code 35 = .ok (.iload_n 2, 1) := by decide +kernel
theorem d2_36 : decode method_5_code 36 = .ok (.castore, 1) := by decide +kernel
theorem d2_37 : decode method_5_code 37 = .ok (.areturn, 1) := by decide +kernel
def own_r_own_mk2 : Room := { frames := 0, cells := 1, slots := 2, locals := 0 }
theorem own_mk2 (l : Launch) (Z : State) (a0 : Array Value) (hw : own_W a0 Z) (c0 c1 c2 c3 : Int32) (h0 : Heap) (n0 : Nat) (hO : Old Z n0 h0) (hc0 : ¬ c0 < 0 ∧ ¬ (255 : Int32) < c0) (hc1 : ¬ c1 < 0 ∧ ¬ (255 : Int32) < c1) (hc2 : ¬ c2 < 0 ∧ ¬ (255 : Int32) < c2) (hc3 : ¬ c3 < 0 ∧ ¬ (255 : Int32) < c3) :
    own_Met l Z (⟨"com/example/svazek/svazek/PackageFolderNameOfPinLaw", "chars", "(ICCCC)[C"⟩ : MethodName) method_5_code 5 (some (.array .char)) own_r_own_mk2 #[(.int 2), (.int c0), (.int c1), (.int c2), (.int c3)] h0 (own_Qc2 Z h0 n0 c0 c1) := by
  refine own_body (by decide +kernel) ?_
  intro p e s m below meth c T0 X0 hx hZ hby hml hown hnm hret hlk e0
  have N0 := Fr.nil n0
  refine own_cast (own_frame (L := [iv 2, iv c0, iv c1, iv c2, iv c3]) (ls := #[iv 2, iv c0, iv c1, iv c2, iv c3]) rfl rfl) ?_
  refine og_iloadN X0 hx (hb hby d2_0) rfl ?_
  refine og_ifY X0 hx 8 (hb hby d2_1) (feq (by decide)).2 (by decide) (by decide) ?_
  refine og_iloadN X0 hx (hb hby d2_8) rfl ?_
  refine og_iconst X0 hx (hb hby d2_9) ?_
  refine og_icY X0 hx 21 (hb hby d2_10) (feq (by decide)).2 (by decide) (by decide) ?_
  refine og_iloadN X0 hx (hb hby d2_21) rfl ?_
  refine og_iconst X0 hx (hb hby d2_22) ?_
  refine og_icN X0 hx (hb hby d2_23) (teq rfl).2 ?_
  refine og_iconst X0 hx (hb hby d2_26) ?_
  refine own_newP X0 hx hZ (own_hw hw 8 rfl) e0 (hb hby d2_27) (by decide) 2 (by decide) (by decide) (by decide) (by decide) ?_
  intro T1 h1 k1 b1 g1 X1 e1 E1 A1
  have ge_b1 : n0 ≤ b1 := Nat.le_trans (own_oldle hO) (Nat.le_of_eq g1.symm)
  have sz_b1 : h0.size ≤ b1 := Nat.le_trans (Keep.refl h0 []).1 (Nat.le_of_eq g1.symm)
  have O1 := hO.ext E1
  have K1 := (Keep.refl h0 []).ext E1
  have A_b1_1 : Arv Z h1 b1 k1 .char 2 [(.int (0 : Int32)), (.int (0 : Int32))] (.int (0 : Int32)) := A1
  show own_Go p e below _ T1 (mkF m 29 #[iv 2, iv c0, iv c1, iv c2, iv c3] [(.ref b1)])
  refine og_dup X1 hx (hb hby d2_29) rfl ?_
  refine og_iconst X1 hx (hb hby d2_30) ?_
  refine og_iloadN X1 hx (hb hby d2_31) rfl ?_
  refine own_stC X1 hx hZ e1 A_b1_1 ⟨by decide, by decide⟩ 0 rfl (by show 0 < 2; decide) (hb hby d2_32) ?_
  intro T2 h2 X2 e2 W2 A2
  have O2 := O1.wr W2 ge_b1
  have K2 := K1.wr W2 (Or.inr sz_b1)
  have N2 := Fr.snoc X2 N0 ge_b1
  have A_b1_2 : Arv Z h2 b1 k1 .char 2 [(.int c0), (.int (0 : Int32))] (.int (0 : Int32)) := (by have q := A2; rw [show nar .char c0 = c0 from own_ic _ hc0] at q; exact q)
  show own_Go p e below _ T2 (mkF m 33 #[iv 2, iv c0, iv c1, iv c2, iv c3] [(.ref b1)])
  refine og_dup X2 hx (hb hby d2_33) rfl ?_
  refine og_iconst X2 hx (hb hby d2_34) ?_
  refine og_iloadN X2 hx (hb hby d2_35) rfl ?_
  refine own_stC X2 hx hZ e2 A_b1_2 ⟨by decide, by decide⟩ 1 rfl (by show 1 < 2; decide) (hb hby d2_36) ?_
  intro T3 h3 X3 e3 W3 A3
  have O3 := O2.wr W3 ge_b1
  have K3 := K2.wr W3 (Or.inr sz_b1)
  have N3 := Fr.snoc X3 N2 ge_b1
  have A_b1_3 : Arv Z h3 b1 k1 .char 2 [(.int c0), (.int c1)] (.int (0 : Int32)) := (by have q := A3; rw [show nar .char c1 = c1 from own_ic _ hc1] at q; exact q)
  show own_Go p e below _ T3 (mkF m 37 #[iv 2, iv c0, iv c1, iv c2, iv c3] [(.ref b1)])
  exact own_retA X3 hx hret hlk (hb hby d2_37) rfl rfl (by decide) (by decide) (by rw [e3]; exact ⟨b1, _, rfl, N3, K3, sz_b1, ge_b1, A_b1_3⟩)
def own_Qc3 (Z : State) (h0 : Heap) (n0 : Nat) (c0 c1 c2 : Int32) (v : Option Value) (h : Heap) (L : List Loc) : Prop := ∃ (b : Addr) (k : ClassId), v = some (.ref b) ∧ Fr n0 L ∧ Keep h0 h [] ∧ h0.size ≤ b ∧ n0 ≤ b ∧ Arv Z h b k .char 3 [.int c0, .int c1, .int c2] (.int (0 : Int32))
theorem d2_38 : decode method_5_code 38 = .ok (.iload_n 0, 1) := by decide +kernel
theorem d2_39 : decode method_5_code 39 = .ok (.iconst 3, 1) := by decide +kernel
theorem d2_40 : decode method_5_code 40 = .ok (.if_icmp .ne 19, 3) := by decide +kernel
theorem d2_43 : decode method_5_code 43 = .ok (.iconst 3, 1) := by decide +kernel
theorem d2_44 : decode method_5_code 44 = .ok (.newarray .char, 2) := by decide +kernel
theorem d2_46 : decode method_5_code 46 = .ok (.dup, 1) := by decide +kernel
theorem d2_47 : decode method_5_code 47 = .ok (.iconst 0, 1) := by decide +kernel
theorem d2_48 : decode method_5_code 48 = .ok (.iload_n 1, 1) := by decide +kernel
theorem d2_49 : decode method_5_code 49 = .ok (.castore, 1) := by decide +kernel
theorem d2_50 : decode method_5_code 50 = .ok (.dup, 1) := by decide +kernel
theorem d2_51 : decode method_5_code 51 = .ok (.iconst 1, 1) := by decide +kernel
theorem d2_52 : decode method_5_code 52 = .ok (.iload_n 2, 1) := by decide +kernel
theorem d2_53 : decode method_5_code 53 = .ok (.castore, 1) := by decide +kernel
theorem d2_54 : decode method_5_code 54 = .ok (.dup, 1) := by decide +kernel
theorem d2_55 : decode method_5_code 55 = .ok (.iconst 2, 1) := by decide +kernel
theorem d2_56 : decode method_5_code 56 = .ok (.iload_n 3, 1) := by decide +kernel
theorem d2_57 : decode method_5_code 57 = .ok (.castore, 1) := by decide +kernel
theorem d2_58 : decode method_5_code 58 = .ok (.areturn, 1) := by decide +kernel
def own_r_own_mk3 : Room := { frames := 0, cells := 1, slots := 3, locals := 0 }
theorem own_mk3 (l : Launch) (Z : State) (a0 : Array Value) (hw : own_W a0 Z) (c0 c1 c2 c3 : Int32) (h0 : Heap) (n0 : Nat) (hO : Old Z n0 h0) (hc0 : ¬ c0 < 0 ∧ ¬ (255 : Int32) < c0) (hc1 : ¬ c1 < 0 ∧ ¬ (255 : Int32) < c1) (hc2 : ¬ c2 < 0 ∧ ¬ (255 : Int32) < c2) (hc3 : ¬ c3 < 0 ∧ ¬ (255 : Int32) < c3) :
    own_Met l Z (⟨"com/example/svazek/svazek/PackageFolderNameOfPinLaw", "chars", "(ICCCC)[C"⟩ : MethodName) method_5_code 5 (some (.array .char)) own_r_own_mk3 #[(.int 3), (.int c0), (.int c1), (.int c2), (.int c3)] h0 (own_Qc3 Z h0 n0 c0 c1 c2) := by
  refine own_body (by decide +kernel) ?_
  intro p e s m below meth c T0 X0 hx hZ hby hml hown hnm hret hlk e0
  have N0 := Fr.nil n0
  refine own_cast (own_frame (L := [iv 3, iv c0, iv c1, iv c2, iv c3]) (ls := #[iv 3, iv c0, iv c1, iv c2, iv c3]) rfl rfl) ?_
  refine og_iloadN X0 hx (hb hby d2_0) rfl ?_
  refine og_ifY X0 hx 8 (hb hby d2_1) (feq (by decide)).2 (by decide) (by decide) ?_
  refine og_iloadN X0 hx (hb hby d2_8) rfl ?_
  refine og_iconst X0 hx (hb hby d2_9) ?_
  refine og_icY X0 hx 21 (hb hby d2_10) (feq (by decide)).2 (by decide) (by decide) ?_
  refine og_iloadN X0 hx (hb hby d2_21) rfl ?_
  refine og_iconst X0 hx (hb hby d2_22) ?_
  refine og_icY X0 hx 38 (hb hby d2_23) (feq (by decide)).2 (by decide) (by decide) ?_
  refine og_iloadN X0 hx (hb hby d2_38) rfl ?_
  refine og_iconst X0 hx (hb hby d2_39) ?_
  refine og_icN X0 hx (hb hby d2_40) (teq rfl).2 ?_
  refine og_iconst X0 hx (hb hby d2_43) ?_
  refine own_newP X0 hx hZ (own_hw hw 8 rfl) e0 (hb hby d2_44) (by decide) 3 (by decide) (by decide) (by decide) (by decide) ?_
  intro T1 h1 k1 b1 g1 X1 e1 E1 A1
  have ge_b1 : n0 ≤ b1 := Nat.le_trans (own_oldle hO) (Nat.le_of_eq g1.symm)
  have sz_b1 : h0.size ≤ b1 := Nat.le_trans (Keep.refl h0 []).1 (Nat.le_of_eq g1.symm)
  have O1 := hO.ext E1
  have K1 := (Keep.refl h0 []).ext E1
  have A_b1_1 : Arv Z h1 b1 k1 .char 3 [(.int (0 : Int32)), (.int (0 : Int32)), (.int (0 : Int32))] (.int (0 : Int32)) := A1
  show own_Go p e below _ T1 (mkF m 46 #[iv 3, iv c0, iv c1, iv c2, iv c3] [(.ref b1)])
  refine og_dup X1 hx (hb hby d2_46) rfl ?_
  refine og_iconst X1 hx (hb hby d2_47) ?_
  refine og_iloadN X1 hx (hb hby d2_48) rfl ?_
  refine own_stC X1 hx hZ e1 A_b1_1 ⟨by decide, by decide⟩ 0 rfl (by show 0 < 3; decide) (hb hby d2_49) ?_
  intro T2 h2 X2 e2 W2 A2
  have O2 := O1.wr W2 ge_b1
  have K2 := K1.wr W2 (Or.inr sz_b1)
  have N2 := Fr.snoc X2 N0 ge_b1
  have A_b1_2 : Arv Z h2 b1 k1 .char 3 [(.int c0), (.int (0 : Int32)), (.int (0 : Int32))] (.int (0 : Int32)) := (by have q := A2; rw [show nar .char c0 = c0 from own_ic _ hc0] at q; exact q)
  show own_Go p e below _ T2 (mkF m 50 #[iv 3, iv c0, iv c1, iv c2, iv c3] [(.ref b1)])
  refine og_dup X2 hx (hb hby d2_50) rfl ?_
  refine og_iconst X2 hx (hb hby d2_51) ?_
  refine og_iloadN X2 hx (hb hby d2_52) rfl ?_
  refine own_stC X2 hx hZ e2 A_b1_2 ⟨by decide, by decide⟩ 1 rfl (by show 1 < 3; decide) (hb hby d2_53) ?_
  intro T3 h3 X3 e3 W3 A3
  have O3 := O2.wr W3 ge_b1
  have K3 := K2.wr W3 (Or.inr sz_b1)
  have N3 := Fr.snoc X3 N2 ge_b1
  have A_b1_3 : Arv Z h3 b1 k1 .char 3 [(.int c0), (.int c1), (.int (0 : Int32))] (.int (0 : Int32)) := (by have q := A3; rw [show nar .char c1 = c1 from own_ic _ hc1] at q; exact q)
  show own_Go p e below _ T3 (mkF m 54 #[iv 3, iv c0, iv c1, iv c2, iv c3] [(.ref b1)])
  refine og_dup X3 hx (hb hby d2_54) rfl ?_
  refine og_iconst X3 hx (hb hby d2_55) ?_
  refine og_iloadN X3 hx (hb hby d2_56) rfl ?_
  refine own_stC X3 hx hZ e3 A_b1_3 ⟨by decide, by decide⟩ 2 rfl (by show 2 < 3; decide) (hb hby d2_57) ?_
  intro T4 h4 X4 e4 W4 A4
  have O4 := O3.wr W4 ge_b1
  have K4 := K3.wr W4 (Or.inr sz_b1)
  have N4 := Fr.snoc X4 N3 ge_b1
  have A_b1_4 : Arv Z h4 b1 k1 .char 3 [(.int c0), (.int c1), (.int c2)] (.int (0 : Int32)) := (by have q := A4; rw [show nar .char c2 = c2 from own_ic _ hc2] at q; exact q)
  show own_Go p e below _ T4 (mkF m 58 #[iv 3, iv c0, iv c1, iv c2, iv c3] [(.ref b1)])
  exact own_retA X4 hx hret hlk (hb hby d2_58) rfl rfl (by decide) (by decide) (by rw [e4]; exact ⟨b1, _, rfl, N4, K4, sz_b1, ge_b1, A_b1_4⟩)
def own_Qc4 (Z : State) (h0 : Heap) (n0 : Nat) (c0 c1 c2 c3 : Int32) (v : Option Value) (h : Heap) (L : List Loc) : Prop := ∃ (b : Addr) (k : ClassId), v = some (.ref b) ∧ Fr n0 L ∧ Keep h0 h [] ∧ h0.size ≤ b ∧ n0 ≤ b ∧ Arv Z h b k .char 4 [.int c0, .int c1, .int c2, .int c3] (.int (0 : Int32))
theorem d2_59 : decode method_5_code 59 = .ok (.iconst 4, 1) := by decide +kernel
theorem d2_60 : decode method_5_code 60 = .ok (.newarray .char, 2) := by decide +kernel
theorem d2_62 : decode method_5_code 62 = .ok (.dup, 1) := by decide +kernel
theorem d2_63 : decode method_5_code 63 = .ok (.iconst 0, 1) := by decide +kernel
theorem d2_64 : decode method_5_code 64 = .ok (.iload_n 1, 1) := by decide +kernel
theorem d2_65 : decode method_5_code 65 = .ok (.castore, 1) := by decide +kernel
theorem d2_66 : decode method_5_code 66 = .ok (.dup, 1) := by decide +kernel
theorem d2_67 : decode method_5_code 67 = .ok (.iconst 1, 1) := by decide +kernel
theorem d2_68 : decode method_5_code 68 = .ok (.iload_n 2, 1) := by decide +kernel
theorem d2_69 : decode method_5_code 69 = .ok (.castore, 1) := by decide +kernel
theorem d2_70 : decode method_5_code 70 = .ok (.dup, 1) := by decide +kernel
theorem d2_71 : decode method_5_code 71 = .ok (.iconst 2, 1) := by decide +kernel
theorem d2_72 : decode method_5_code 72 = .ok (.iload_n 3, 1) := by decide +kernel
theorem d2_73 : decode method_5_code 73 = .ok (.castore, 1) := by decide +kernel
theorem d2_74 : decode method_5_code 74 = .ok (.dup, 1) := by decide +kernel
theorem d2_75 : decode method_5_code 75 = .ok (.iconst 3, 1) := by decide +kernel
theorem d2_76 : decode method_5_code 76 = .ok (.iload 4, 2) := by decide +kernel
theorem d2_78 : decode method_5_code 78 = .ok (.castore, 1) := by decide +kernel
theorem d2_79 : decode method_5_code 79 = .ok (.areturn, 1) := by decide +kernel
def own_r_own_mk4 : Room := { frames := 0, cells := 1, slots := 4, locals := 0 }
theorem own_mk4 (l : Launch) (Z : State) (a0 : Array Value) (hw : own_W a0 Z) (c0 c1 c2 c3 : Int32) (h0 : Heap) (n0 : Nat) (hO : Old Z n0 h0) (hc0 : ¬ c0 < 0 ∧ ¬ (255 : Int32) < c0) (hc1 : ¬ c1 < 0 ∧ ¬ (255 : Int32) < c1) (hc2 : ¬ c2 < 0 ∧ ¬ (255 : Int32) < c2) (hc3 : ¬ c3 < 0 ∧ ¬ (255 : Int32) < c3) :
    own_Met l Z (⟨"com/example/svazek/svazek/PackageFolderNameOfPinLaw", "chars", "(ICCCC)[C"⟩ : MethodName) method_5_code 5 (some (.array .char)) own_r_own_mk4 #[(.int 4), (.int c0), (.int c1), (.int c2), (.int c3)] h0 (own_Qc4 Z h0 n0 c0 c1 c2 c3) := by
  refine own_body (by decide +kernel) ?_
  intro p e s m below meth c T0 X0 hx hZ hby hml hown hnm hret hlk e0
  have N0 := Fr.nil n0
  refine own_cast (own_frame (L := [iv 4, iv c0, iv c1, iv c2, iv c3]) (ls := #[iv 4, iv c0, iv c1, iv c2, iv c3]) rfl rfl) ?_
  refine og_iloadN X0 hx (hb hby d2_0) rfl ?_
  refine og_ifY X0 hx 8 (hb hby d2_1) (feq (by decide)).2 (by decide) (by decide) ?_
  refine og_iloadN X0 hx (hb hby d2_8) rfl ?_
  refine og_iconst X0 hx (hb hby d2_9) ?_
  refine og_icY X0 hx 21 (hb hby d2_10) (feq (by decide)).2 (by decide) (by decide) ?_
  refine og_iloadN X0 hx (hb hby d2_21) rfl ?_
  refine og_iconst X0 hx (hb hby d2_22) ?_
  refine og_icY X0 hx 38 (hb hby d2_23) (feq (by decide)).2 (by decide) (by decide) ?_
  refine og_iloadN X0 hx (hb hby d2_38) rfl ?_
  refine og_iconst X0 hx (hb hby d2_39) ?_
  refine og_icY X0 hx 59 (hb hby d2_40) (feq (by decide)).2 (by decide) (by decide) ?_
  refine og_iconst X0 hx (hb hby d2_59) ?_
  refine own_newP X0 hx hZ (own_hw hw 8 rfl) e0 (hb hby d2_60) (by decide) 4 (by decide) (by decide) (by decide) (by decide) ?_
  intro T1 h1 k1 b1 g1 X1 e1 E1 A1
  have ge_b1 : n0 ≤ b1 := Nat.le_trans (own_oldle hO) (Nat.le_of_eq g1.symm)
  have sz_b1 : h0.size ≤ b1 := Nat.le_trans (Keep.refl h0 []).1 (Nat.le_of_eq g1.symm)
  have O1 := hO.ext E1
  have K1 := (Keep.refl h0 []).ext E1
  have A_b1_1 : Arv Z h1 b1 k1 .char 4 [(.int (0 : Int32)), (.int (0 : Int32)), (.int (0 : Int32)), (.int (0 : Int32))] (.int (0 : Int32)) := A1
  show own_Go p e below _ T1 (mkF m 62 #[iv 4, iv c0, iv c1, iv c2, iv c3] [(.ref b1)])
  refine og_dup X1 hx (hb hby d2_62) rfl ?_
  refine og_iconst X1 hx (hb hby d2_63) ?_
  refine og_iloadN X1 hx (hb hby d2_64) rfl ?_
  refine own_stC X1 hx hZ e1 A_b1_1 ⟨by decide, by decide⟩ 0 rfl (by show 0 < 4; decide) (hb hby d2_65) ?_
  intro T2 h2 X2 e2 W2 A2
  have O2 := O1.wr W2 ge_b1
  have K2 := K1.wr W2 (Or.inr sz_b1)
  have N2 := Fr.snoc X2 N0 ge_b1
  have A_b1_2 : Arv Z h2 b1 k1 .char 4 [(.int c0), (.int (0 : Int32)), (.int (0 : Int32)), (.int (0 : Int32))] (.int (0 : Int32)) := (by have q := A2; rw [show nar .char c0 = c0 from own_ic _ hc0] at q; exact q)
  show own_Go p e below _ T2 (mkF m 66 #[iv 4, iv c0, iv c1, iv c2, iv c3] [(.ref b1)])
  refine og_dup X2 hx (hb hby d2_66) rfl ?_
  refine og_iconst X2 hx (hb hby d2_67) ?_
  refine og_iloadN X2 hx (hb hby d2_68) rfl ?_
  refine own_stC X2 hx hZ e2 A_b1_2 ⟨by decide, by decide⟩ 1 rfl (by show 1 < 4; decide) (hb hby d2_69) ?_
  intro T3 h3 X3 e3 W3 A3
  have O3 := O2.wr W3 ge_b1
  have K3 := K2.wr W3 (Or.inr sz_b1)
  have N3 := Fr.snoc X3 N2 ge_b1
  have A_b1_3 : Arv Z h3 b1 k1 .char 4 [(.int c0), (.int c1), (.int (0 : Int32)), (.int (0 : Int32))] (.int (0 : Int32)) := (by have q := A3; rw [show nar .char c1 = c1 from own_ic _ hc1] at q; exact q)
  show own_Go p e below _ T3 (mkF m 70 #[iv 4, iv c0, iv c1, iv c2, iv c3] [(.ref b1)])
  refine og_dup X3 hx (hb hby d2_70) rfl ?_
  refine og_iconst X3 hx (hb hby d2_71) ?_
  refine og_iloadN X3 hx (hb hby d2_72) rfl ?_
  refine own_stC X3 hx hZ e3 A_b1_3 ⟨by decide, by decide⟩ 2 rfl (by show 2 < 4; decide) (hb hby d2_73) ?_
  intro T4 h4 X4 e4 W4 A4
  have O4 := O3.wr W4 ge_b1
  have K4 := K3.wr W4 (Or.inr sz_b1)
  have N4 := Fr.snoc X4 N3 ge_b1
  have A_b1_4 : Arv Z h4 b1 k1 .char 4 [(.int c0), (.int c1), (.int c2), (.int (0 : Int32))] (.int (0 : Int32)) := (by have q := A4; rw [show nar .char c2 = c2 from own_ic _ hc2] at q; exact q)
  show own_Go p e below _ T4 (mkF m 74 #[iv 4, iv c0, iv c1, iv c2, iv c3] [(.ref b1)])
  refine og_dup X4 hx (hb hby d2_74) rfl ?_
  refine og_iconst X4 hx (hb hby d2_75) ?_
  refine og_iload X4 hx (hb hby d2_76) rfl ?_
  refine own_stC X4 hx hZ e4 A_b1_4 ⟨by decide, by decide⟩ 3 rfl (by show 3 < 4; decide) (hb hby d2_78) ?_
  intro T5 h5 X5 e5 W5 A5
  have O5 := O4.wr W5 ge_b1
  have K5 := K4.wr W5 (Or.inr sz_b1)
  have N5 := Fr.snoc X5 N4 ge_b1
  have A_b1_5 : Arv Z h5 b1 k1 .char 4 [(.int c0), (.int c1), (.int c2), (.int c3)] (.int (0 : Int32)) := (by have q := A5; rw [show nar .char c3 = c3 from own_ic _ hc3] at q; exact q)
  show own_Go p e below _ T5 (mkF m 79 #[iv 4, iv c0, iv c1, iv c2, iv c3] [(.ref b1)])
  exact own_retA X5 hx hret hlk (hb hby d2_79) rfl rfl (by decide) (by decide) (by rw [e5]; exact ⟨b1, _, rfl, N5, K5, sz_b1, ge_b1, A_b1_5⟩)
theorem d18_0 : decode jdk_41_method_12_code 0 = .ok (.iload_n 0, 1) := by decide +kernel
theorem d18_1 : decode jdk_41_method_12_code 1 = .ok (.ifCond .lt 13, 3) := by decide +kernel
theorem d18_4 : decode jdk_41_method_12_code 4 = .ok (.iload_n 0, 1) := by decide +kernel
theorem d18_5 : decode jdk_41_method_12_code 5 = .ok (.iload_n 1, 1) := by decide +kernel
theorem d18_6 : decode jdk_41_method_12_code 6 = .ok (.if_icmp .gt 8, 3) := by decide +kernel
theorem d18_9 : decode jdk_41_method_12_code 9 = .ok (.iload_n 1, 1) := by decide +kernel
theorem d18_10 : decode jdk_41_method_12_code 10 = .ok (.iload_n 2, 1) := by decide +kernel
theorem d18_11 : decode jdk_41_method_12_code 11 = .ok (.if_icmp .le 11, 3) := by decide +kernel
theorem d18_22 : decode jdk_41_method_12_code 22 = .ok (.iload_n 0, 1) := by decide +kernel
theorem d18_23 : decode jdk_41_method_12_code 23 = .ok (.ireturn, 1) := by decide +kernel
def own_r_own_cft : Room := { frames := 0, cells := 0, slots := 0, locals := 0 }
theorem own_cft (l : Launch) (Z : State) (a0 : Array Value) (hw : own_W a0 Z) (lo hi n : Int32) (sf : Value) (h0 : Heap) (n0 : Nat) (rf : sf.isRef = true) (h1 : ¬ lo < 0) (h2 : ¬ hi < lo) (h3 : ¬ n < hi) :
    own_Met l Z (⟨"jdk/internal/util/Preconditions", "checkFromToIndex", "(IIILjava/util/function/BiFunction;)I"⟩ : MethodName) jdk_41_method_12_code 4 (some .int) own_r_own_cft #[(.int lo), (.int hi), (.int n), sf] h0 (own_Qv (some (.int lo)) h0 n0) := by
  refine own_body (by decide +kernel) ?_
  intro p e s m below meth c T0 X0 hx hZ hby hml hown hnm hret hlk e0
  have N0 := Fr.nil n0
  refine own_cast (own_frame (L := [iv lo, iv hi, iv n, .val sf]) (ls := #[iv lo, iv hi, iv n, .val sf]) (congrArg (fun q => iv lo :: iv hi :: iv n :: q) (own_laid1 rf)) rfl) ?_
  refine og_iloadN X0 hx (hb hby d18_0) rfl ?_
  refine og_ifN X0 hx (hb hby d18_1) (flt h1).1 ?_
  refine og_iloadN X0 hx (hb hby d18_4) rfl ?_
  refine og_iloadN X0 hx (hb hby d18_5) rfl ?_
  refine og_icN X0 hx (hb hby d18_6) (flt h2).2.2.1 ?_
  refine og_iloadN X0 hx (hb hby d18_9) rfl ?_
  refine og_iloadN X0 hx (hb hby d18_10) rfl ?_
  refine og_icY X0 hx 22 (hb hby d18_11) (flt h3).2.2.2 (by decide) (by decide) ?_
  refine og_iloadN X0 hx (hb hby d18_22) rfl ?_
  exact own_retI X0 hx hret hlk (hb hby d18_23) rfl (by simp) (by decide) (by decide) (⟨rfl, N0, e0⟩)
theorem d17_0 : decode jdk_42_method_158_code 0 = .ok (.iload_n 0, 1) := by decide +kernel
theorem d17_1 : decode jdk_42_method_158_code 1 = .ok (.iload_n 1, 1) := by decide +kernel
theorem d17_2 : decode jdk_42_method_158_code 2 = .ok (.iload_n 2, 1) := by decide +kernel
theorem d17_3 : decode jdk_42_method_158_code 3 = .ok (.getstatic 1053, 3) := by decide +kernel
theorem d17_6 : decode jdk_42_method_158_code 6 = .ok (.invokestatic 1062, 3) := by decide +kernel
theorem d17_9 : decode jdk_42_method_158_code 9 = .ok (.pop, 1) := by decide +kernel
theorem d17_10 : decode jdk_42_method_158_code 10 = .ok (.return_, 1) := by decide +kernel
theorem own_pd49920 : parseMethodDescriptor "(IIILjava/util/function/BiFunction;)I" = some ⟨[.int, .int, .int, (.object "java/util/function/BiFunction")], some .int⟩ := by decide +kernel
def own_r_own_cbb : Room := { frames := 1, cells := 0, slots := 0, locals := 15 }
theorem own_cbb (l : Launch) (Z : State) (a0 : Array Value) (hw : own_W a0 Z) (z : Int32) (sf : Value) (lo hi n : Int32) (h0 : Heap) (n0 : Nat) (hO : Old Z n0 h0) (hG : own_Gs Z z sf) (h1 : ¬ lo < 0) (h2 : ¬ hi < lo) (h3 : ¬ n < hi) :
    own_Met l Z (⟨"java/lang/String", "checkBoundsBeginEnd", "(III)V"⟩ : MethodName) jdk_42_method_158_code 3 none own_r_own_cbb #[(.int lo), (.int hi), (.int n)] h0 (own_Qv none h0 n0) := by
  refine own_body (by decide +kernel) ?_
  intro p e s m below meth c T0 X0 hx hZ hby hml hown hnm hret hlk e0
  have N0 := Fr.nil n0
  refine own_cast (own_frame (L := [iv lo, iv hi, iv n]) (ls := #[iv lo, iv hi, iv n]) rfl rfl) ?_
  obtain ⟨SC, hz, SF, rf⟩ := id hG
  refine og_iloadN X0 hx (hb hby d17_0) rfl ?_
  refine og_iloadN X0 hx (hb hby d17_1) rfl ?_
  refine og_iloadN X0 hx (hb hby d17_2) rfl ?_
  refine og_getS X0 hx hZ hown (own_hw hw 84 rfl) Via.refl e0 (SF.ext hO.2) (hb hby d17_3) ?_
  intro T1 X1 e1
  show own_Go p e below _ T1 (mkF m 6 #[iv lo, iv hi, iv n] [sf, (.int n), (.int hi), (.int lo)])
  refine own_callS X1 hx hZ hown (own_hw hw 86 rfl) (own_hw hw 87 rfl) (own_hw hw 85 rfl) (own_hw hw 88 rfl) (by decide) (argsL := [(.int lo), (.int hi), (.int n), sf]) (rest := []) (own_cft l Z a0 hw lo hi n sf h0 n0 rf h1 h2 h3) e1 (by rw [hml]; rfl) (lenOf own_pd49920 rfl) rfl (hb hby d17_6) (W := 0) (Nat.le_of_eq rfl) (by decide) ?_
  intro v2 T2 L2 X2 q2
  obtain ⟨rfl, N2q, e2⟩ := q2
  have N2 := Fr.app N0 N2q
  show own_Go p e below _ T2 (mkF m 9 #[iv lo, iv hi, iv n] [(.int lo)])
  refine og_pop X2 hx (hb hby d17_9) rfl ?_
  exact own_retV X2 hx hret hlk (hb hby d17_10) (by decide) (by decide) (⟨rfl, N2, e2⟩)
theorem own_shr0 (n : Int32) : (n >>> ((0 : Int32) &&& 31)) = n := Int32.toInt_inj.mp (by rw [Jvm.Kit.i32_shr n _ (k := 0) (by decide)]; omega)
theorem d9_0 : decode jdk_42_method_152_code 0 = .ok (.getstatic 38, 3) := by decide +kernel
theorem d9_3 : decode jdk_42_method_152_code 3 = .ok (.ifCond .eq 10, 3) := by decide +kernel
theorem d9_6 : decode jdk_42_method_152_code 6 = .ok (.aload_n 0, 1) := by decide +kernel
theorem d9_7 : decode jdk_42_method_152_code 7 = .ok (.getfield 15, 3) := by decide +kernel
theorem d9_10 : decode jdk_42_method_152_code 10 = .ok (.goto 4, 3) := by decide +kernel
theorem d9_14 : decode jdk_42_method_152_code 14 = .ok (.ireturn, 1) := by decide +kernel
def own_r_own_coder : Room := { frames := 0, cells := 0, slots := 0, locals := 0 }
theorem own_coder (l : Launch) (Z : State) (a0 : Array Value) (hw : own_W a0 Z) (z : Int32) (sf : Value) (t : Addr) (h0 : Heap) (n0 : Nat) (hO : Old Z n0 h0) (hG : own_Gs Z z sf) (Fc : own_C Z h0 t) :
    own_Met l Z (⟨"java/lang/String", "coder", "()B"⟩ : MethodName) jdk_42_method_152_code 1 (some .byte) own_r_own_coder #[(.ref t)] h0 (own_Qv (some (.int 0)) h0 n0) := by
  refine own_body (by decide +kernel) ?_
  intro p e s m below meth c T0 X0 hx hZ hby hml hown hnm hret hlk e0
  have N0 := Fr.nil n0
  refine own_cast (own_frame (L := [rv t]) (ls := #[rv t]) rfl rfl) ?_
  obtain ⟨SC, hz, SF, rf⟩ := id hG
  refine og_getS X0 hx hZ hown (own_hw hw 49 rfl) Via.refl e0 (SC.ext hO.2) (hb hby d9_0) ?_
  intro T1 X1 e1
  show own_Go p e below _ T1 (mkF m 3 #[rv t] [(.int z)])
  refine og_ifN X1 hx (hb hby d9_3) (feq hz).1 ?_
  refine og_aloadN X1 hx (hb hby d9_6) rfl rfl ?_
  refine og_getF X1 hx hZ hown (own_hw hw 29 rfl) Via.refl e1 Fc (hb hby d9_7) ?_
  intro T2 X2 e2
  refine og_goto X2 hx 14 (hb hby d9_10) (by decide) (by decide) ?_
  exact own_retI X2 hx hret hlk (hb hby d9_14) rfl (by simp) (by decide) (by decide) (⟨rfl, N0, e2⟩)
theorem d8_0 : decode jdk_42_method_54_code 0 = .ok (.aload_n 0, 1) := by decide +kernel
theorem d8_1 : decode jdk_42_method_54_code 1 = .ok (.getfield 9, 3) := by decide +kernel
theorem d8_4 : decode jdk_42_method_54_code 4 = .ok (.arraylength, 1) := by decide +kernel
theorem d8_5 : decode jdk_42_method_54_code 5 = .ok (.aload_n 0, 1) := by decide +kernel
theorem d8_6 : decode jdk_42_method_54_code 6 = .ok (.invokevirtual 335, 3) := by decide +kernel
theorem d8_9 : decode jdk_42_method_54_code 9 = .ok (.ishr, 1) := by decide +kernel
theorem d8_10 : decode jdk_42_method_54_code 10 = .ok (.ireturn, 1) := by decide +kernel
theorem own_pd59997 : parseMethodDescriptor "()B" = some ⟨[], some .byte⟩ := by decide +kernel
def own_r_own_slen : Room := { frames := 1, cells := 0, slots := 0, locals := 13 }
theorem own_slen (l : Launch) (Z : State) (a0 : Array Value) (hw : own_W a0 Z) (z : Int32) (sf : Value) (t b : Addr) (kb : ClassId) (dv : Value) (n : Int32) (vs : List Value) (h0 : Heap) (n0 : Nat) (hO : Old Z n0 h0) (hG : own_Gs Z z sf) (Et : own_E Z h0 t) (Fv : own_V Z h0 t b) (Fc : own_C Z h0 t) (Ab : Arv Z h0 b kb .byte n vs dv) :
    own_Met l Z (⟨"java/lang/String", "length", "()I"⟩ : MethodName) jdk_42_method_54_code 1 (some .int) own_r_own_slen #[(.ref t)] h0 (own_Qv (some (.int n)) h0 n0) := by
  refine own_body (by decide +kernel) ?_
  intro p e s m below meth c T0 X0 hx hZ hby hml hown hnm hret hlk e0
  have N0 := Fr.nil n0
  refine own_cast (own_frame (L := [rv t]) (ls := #[rv t]) rfl rfl) ?_
  obtain ⟨SC, hz, SF, rf⟩ := id hG
  refine og_aloadN X0 hx (hb hby d8_0) rfl rfl ?_
  refine og_getF X0 hx hZ hown (own_hw hw 28 rfl) Via.refl e0 Fv (hb hby d8_1) ?_
  intro T1 X1 e1
  show own_Go p e below _ T1 (mkF m 4 #[rv t] [(.ref b)])
  refine own_len X1 hx hZ e1 Ab (hb hby d8_4) ?_
  show own_Go p e below _ T1 (mkF m 5 #[rv t] [(.int n)])
  refine og_aloadN X1 hx (hb hby d8_5) rfl rfl ?_
  refine own_callV X1 hx hZ hown (own_hw hw 44 rfl) (own_hw hw 45 rfl) (notFace_of_selects (args := #[]) (mvT hZ (own_hw hw 47 rfl))) (own_hw hw 47 rfl) (own_hw hw 46 rfl) (own_hw hw 48 rfl) (own_hw hw 11 rfl) (by decide) (b := t) (argsL := []) (rest := [(.int n)]) (own_coder l Z a0 hw z sf t h0 n0 hO hG Fc) e1 Et (by rw [hml]; rfl) (lenOf own_pd59997 rfl) rfl (hb hby d8_6) (W := 1) (Nat.le_of_eq rfl) (by decide) ?_
  intro v2 T2 L2 X2 q2
  obtain ⟨rfl, N2q, e2⟩ := q2
  have N2 := Fr.app N0 N2q
  show own_Go p e below _ T2 (mkF m 9 #[rv t] [(.int (0 : Int32)), (.int n)])
  refine own_go (fun t k => XS.ishr X2.here hx rfl (hb hby d8_9) rfl k) ?_
  show own_Go p e below _ T2 (mkF m 10 #[rv t] [(.int (n >>> ((0 : Int32) &&& 31)))])
  rw [own_shr0 n]
  show own_Go p e below _ T2 (mkF m 10 #[rv t] [(.int n)])
  exact own_retI X2 hx hret hlk (hb hby d8_10) rfl (by simp) (by decide) (by decide) (⟨rfl, N2, e2⟩)
theorem d11_0 : decode jdk_42_method_154_code 0 = .ok (.getstatic 38, 3) := by decide +kernel
theorem d11_3 : decode jdk_42_method_154_code 3 = .ok (.ifCond .eq 14, 3) := by decide +kernel
theorem d11_6 : decode jdk_42_method_154_code 6 = .ok (.aload_n 0, 1) := by decide +kernel
theorem d11_7 : decode jdk_42_method_154_code 7 = .ok (.getfield 15, 3) := by decide +kernel
theorem d11_10 : decode jdk_42_method_154_code 10 = .ok (.ifCond .ne 7, 3) := by decide +kernel
theorem d11_13 : decode jdk_42_method_154_code 13 = .ok (.iconst 1, 1) := by decide +kernel
theorem d11_14 : decode jdk_42_method_154_code 14 = .ok (.goto 4, 3) := by decide +kernel
theorem d11_18 : decode jdk_42_method_154_code 18 = .ok (.ireturn, 1) := by decide +kernel
def own_r_own_isl1 : Room := { frames := 0, cells := 0, slots := 0, locals := 0 }
theorem own_isl1 (l : Launch) (Z : State) (a0 : Array Value) (hw : own_W a0 Z) (z : Int32) (sf : Value) (t : Addr) (h0 : Heap) (n0 : Nat) (hO : Old Z n0 h0) (hG : own_Gs Z z sf) (Fc : own_C Z h0 t) :
    own_Met l Z (⟨"java/lang/String", "isLatin1", "()Z"⟩ : MethodName) jdk_42_method_154_code 1 (some .boolean) own_r_own_isl1 #[(.ref t)] h0 (own_Qv (some (.int 1)) h0 n0) := by
  refine own_body (by decide +kernel) ?_
  intro p e s m below meth c T0 X0 hx hZ hby hml hown hnm hret hlk e0
  have N0 := Fr.nil n0
  refine own_cast (own_frame (L := [rv t]) (ls := #[rv t]) rfl rfl) ?_
  obtain ⟨SC, hz, SF, rf⟩ := id hG
  refine og_getS X0 hx hZ hown (own_hw hw 49 rfl) Via.refl e0 (SC.ext hO.2) (hb hby d11_0) ?_
  intro T1 X1 e1
  show own_Go p e below _ T1 (mkF m 3 #[rv t] [(.int z)])
  refine og_ifN X1 hx (hb hby d11_3) (feq hz).1 ?_
  refine og_aloadN X1 hx (hb hby d11_6) rfl rfl ?_
  refine og_getF X1 hx hZ hown (own_hw hw 29 rfl) Via.refl e1 Fc (hb hby d11_7) ?_
  intro T2 X2 e2
  show own_Go p e below _ T2 (mkF m 10 #[rv t] [(.int (0 : Int32))])
  refine og_ifN X2 hx (hb hby d11_10) (teq (by decide)).2 ?_
  refine og_iconst X2 hx (hb hby d11_13) ?_
  refine og_goto X2 hx 18 (hb hby d11_14) (by decide) (by decide) ?_
  exact own_retI X2 hx hret hlk (hb hby d11_18) rfl (by simp) (by decide) (by decide) (⟨rfl, N0, e2⟩)
theorem d16_0 : decode jdk_42_method_92_code 0 = .ok (.aload_n 0, 1) := by decide +kernel
theorem d16_1 : decode jdk_42_method_92_code 1 = .ok (.invokevirtual 505, 3) := by decide +kernel
theorem d16_4 : decode jdk_42_method_92_code 4 = .ok (.istore_n 3, 1) := by decide +kernel
theorem d16_5 : decode jdk_42_method_92_code 5 = .ok (.iload_n 1, 1) := by decide +kernel
theorem d16_6 : decode jdk_42_method_92_code 6 = .ok (.iload_n 2, 1) := by decide +kernel
theorem d16_7 : decode jdk_42_method_92_code 7 = .ok (.iload_n 3, 1) := by decide +kernel
theorem d16_8 : decode jdk_42_method_92_code 8 = .ok (.invokestatic 521, 3) := by decide +kernel
theorem d16_11 : decode jdk_42_method_92_code 11 = .ok (.iload_n 1, 1) := by decide +kernel
theorem d16_12 : decode jdk_42_method_92_code 12 = .ok (.ifCond .ne 10, 3) := by decide +kernel
theorem d16_15 : decode jdk_42_method_92_code 15 = .ok (.iload_n 2, 1) := by decide +kernel
theorem d16_16 : decode jdk_42_method_92_code 16 = .ok (.iload_n 3, 1) := by decide +kernel
theorem d16_17 : decode jdk_42_method_92_code 17 = .ok (.if_icmp .ne 5, 3) := by decide +kernel
theorem d16_20 : decode jdk_42_method_92_code 20 = .ok (.aload_n 0, 1) := by decide +kernel
theorem d16_21 : decode jdk_42_method_92_code 21 = .ok (.areturn, 1) := by decide +kernel
theorem own_pd13941 : parseMethodDescriptor "()I" = some ⟨[], some .int⟩ := by decide +kernel
theorem own_pd73746 : parseMethodDescriptor "(III)V" = some ⟨[.int, .int, .int], none⟩ := by decide +kernel
def own_r_own_subSz : Room := { frames := 2, cells := 0, slots := 0, locals := 29 }
theorem own_subSz (l : Launch) (Z : State) (a0 : Array Value) (hw : own_W a0 Z) (z : Int32) (sf : Value) (t b : Addr) (kb : ClassId) (dv : Value) (n : Int32) (vs : List Value) (h0 : Heap) (n0 : Nat) (hO : Old Z n0 h0) (hG : own_Gs Z z sf) (hn : ¬ n < 0) (Et : own_E Z h0 t) (Fv : own_V Z h0 t b) (Fc : own_C Z h0 t) (Ab : Arv Z h0 b kb .byte n vs dv) :
    own_Met l Z (⟨"java/lang/String", "substring", "(II)Ljava/lang/String;"⟩ : MethodName) jdk_42_method_92_code 5 (some (.object "java/lang/String")) own_r_own_subSz #[(.ref t), (.int 0), (.int n)] h0 (own_Qv (some (.ref t)) h0 n0) := by
  refine own_body (by decide +kernel) ?_
  intro p e s m below meth c T0 X0 hx hZ hby hml hown hnm hret hlk e0
  have N0 := Fr.nil n0
  refine own_cast (own_frame (L := [rv t, iv 0, iv n]) (ls := #[rv t, iv 0, iv n, .unset, .unset]) rfl rfl) ?_
  obtain ⟨SC, hz, SF, rf⟩ := id hG
  refine og_aloadN X0 hx (hb hby d16_0) rfl rfl ?_
  refine own_callV X0 hx hZ hown (own_hw hw 39 rfl) (own_hw hw 40 rfl) (notFace_of_selects (args := #[]) (mvT hZ (own_hw hw 42 rfl))) (own_hw hw 42 rfl) (own_hw hw 41 rfl) (own_hw hw 43 rfl) (own_hw hw 11 rfl) (by decide) (b := t) (argsL := []) (rest := []) (own_slen l Z a0 hw z sf t b _ _ n _ h0 n0 hO hG Et Fv Fc Ab) e0 Et (by rw [hml]; rfl) (lenOf own_pd13941 rfl) rfl (hb hby d16_1) (W := 0) (Nat.le_of_eq rfl) (by decide) ?_
  intro v1 T1 L1 X1 q1
  obtain ⟨rfl, N1q, e1⟩ := q1
  have N1 := Fr.app N0 N1q
  show own_Go p e below _ T1 (mkF m 4 #[rv t, iv 0, iv n, .unset, .unset] [(.int n)])
  refine og_istoreN X1 hx #[rv t, iv 0, iv n, iv n, .unset] (hb hby d16_4) rfl ?_
  refine og_iloadN X1 hx (hb hby d16_5) rfl ?_
  refine og_iloadN X1 hx (hb hby d16_6) rfl ?_
  refine og_iloadN X1 hx (hb hby d16_7) rfl ?_
  refine own_callS X1 hx hZ hown (own_hw hw 81 rfl) (own_hw hw 82 rfl) (own_hw hw 11 rfl) (own_hw hw 83 rfl) (by decide) (argsL := [(.int 0), (.int n), (.int n)]) (rest := []) (own_cbb l Z a0 hw z sf 0 n n h0 n0 hO hG (by decide) hn Int32.lt_irrefl) e1 (by rw [hml]; rfl) (lenOf own_pd73746 rfl) rfl (hb hby d16_8) (W := 0) (Nat.le_of_eq rfl) (by decide) ?_
  intro v2 T2 L2 X2 q2
  obtain ⟨rfl, N2q, e2⟩ := q2
  have N2 := Fr.app N1 N2q
  show own_Go p e below _ T2 (mkF m 11 #[rv t, iv 0, iv n, iv n, .unset] [])
  refine og_iloadN X2 hx (hb hby d16_11) rfl ?_
  refine og_ifN X2 hx (hb hby d16_12) (teq rfl).2 ?_
  refine og_iloadN X2 hx (hb hby d16_15) rfl ?_
  refine og_iloadN X2 hx (hb hby d16_16) rfl ?_
  refine og_icN X2 hx (hb hby d16_17) (teq rfl).2 ?_
  refine og_aloadN X2 hx (hb hby d16_20) rfl rfl ?_
  exact own_retA X2 hx hret hlk (hb hby d16_21) rfl rfl (by decide) (by decide) (⟨rfl, N2, e2⟩)
theorem d15_0 : decode jdk_42_method_91_code 0 = .ok (.aload_n 0, 1) := by decide +kernel
theorem d15_1 : decode jdk_42_method_91_code 1 = .ok (.iload_n 1, 1) := by decide +kernel
theorem d15_2 : decode jdk_42_method_91_code 2 = .ok (.aload_n 0, 1) := by decide +kernel
theorem d15_3 : decode jdk_42_method_91_code 3 = .ok (.invokevirtual 505, 3) := by decide +kernel
theorem d15_6 : decode jdk_42_method_91_code 6 = .ok (.invokevirtual 681, 3) := by decide +kernel
theorem d15_9 : decode jdk_42_method_91_code 9 = .ok (.areturn, 1) := by decide +kernel
theorem own_pd41291 : parseMethodDescriptor "(II)Ljava/lang/String;" = some ⟨[.int, .int], some (.object "java/lang/String")⟩ := by decide +kernel
def own_r_own_sub1Sz : Room := { frames := 3, cells := 0, slots := 0, locals := 45 }
theorem own_sub1Sz (l : Launch) (Z : State) (a0 : Array Value) (hw : own_W a0 Z) (z : Int32) (sf : Value) (t b : Addr) (kb : ClassId) (dv : Value) (n : Int32) (vs : List Value) (h0 : Heap) (n0 : Nat) (hO : Old Z n0 h0) (hG : own_Gs Z z sf) (hn : ¬ n < 0) (Et : own_E Z h0 t) (Fv : own_V Z h0 t b) (Fc : own_C Z h0 t) (Ab : Arv Z h0 b kb .byte n vs dv) :
    own_Met l Z (⟨"java/lang/String", "substring", "(I)Ljava/lang/String;"⟩ : MethodName) jdk_42_method_91_code 2 (some (.object "java/lang/String")) own_r_own_sub1Sz #[(.ref t), (.int 0)] h0 (own_Qv (some (.ref t)) h0 n0) := by
  refine own_body (by decide +kernel) ?_
  intro p e s m below meth c T0 X0 hx hZ hby hml hown hnm hret hlk e0
  have N0 := Fr.nil n0
  refine own_cast (own_frame (L := [rv t, iv 0]) (ls := #[rv t, iv 0]) rfl rfl) ?_
  obtain ⟨SC, hz, SF, rf⟩ := id hG
  refine og_aloadN X0 hx (hb hby d15_0) rfl rfl ?_
  refine og_iloadN X0 hx (hb hby d15_1) rfl ?_
  refine og_aloadN X0 hx (hb hby d15_2) rfl rfl ?_
  refine own_callV X0 hx hZ hown (own_hw hw 39 rfl) (own_hw hw 40 rfl) (notFace_of_selects (args := #[]) (mvT hZ (own_hw hw 42 rfl))) (own_hw hw 42 rfl) (own_hw hw 41 rfl) (own_hw hw 43 rfl) (own_hw hw 11 rfl) (by decide) (b := t) (argsL := []) (rest := [(.int 0), (.ref t)]) (own_slen l Z a0 hw z sf t b _ _ n _ h0 n0 hO hG Et Fv Fc Ab) e0 Et (by rw [hml]; rfl) (lenOf own_pd13941 rfl) rfl (hb hby d15_3) (W := 2) (Nat.le_of_eq rfl) (by decide) ?_
  intro v1 T1 L1 X1 q1
  obtain ⟨rfl, N1q, e1⟩ := q1
  have N1 := Fr.app N0 N1q
  show own_Go p e below _ T1 (mkF m 6 #[rv t, iv 0] [(.int n), (.int 0), (.ref t)])
  refine own_callV X1 hx hZ hown (own_hw hw 76 rfl) (own_hw hw 77 rfl) (notFace_of_selects (args := #[]) (mvT hZ (own_hw hw 79 rfl))) (own_hw hw 79 rfl) (own_hw hw 78 rfl) (own_hw hw 80 rfl) (own_hw hw 11 rfl) (by decide) (b := t) (argsL := [(.int 0), (.int n)]) (rest := []) (own_subSz l Z a0 hw z sf t b _ _ n _ h0 n0 hO hG hn Et Fv Fc Ab) e1 Et (by rw [hml]; rfl) (lenOf own_pd41291 rfl) rfl (hb hby d15_6) (W := 0) (Nat.le_of_eq rfl) (by decide) ?_
  intro v2 T2 L2 X2 q2
  obtain ⟨rfl, N2q, e2⟩ := q2
  have N2 := Fr.app N1 N2q
  show own_Go p e below _ T2 (mkF m 9 #[rv t, iv 0] [(.ref t)])
  exact own_retA X2 hx hret hlk (hb hby d15_9) rfl rfl (by decide) (by decide) (⟨rfl, N2, e2⟩)
theorem d13_0 : decode jdk_43_method_4_code 0 = .ok (.iload_n 0, 1) := by decide +kernel
theorem d13_1 : decode jdk_43_method_4_code 1 = .ok (.ifCond .lt 14, 3) := by decide +kernel
theorem d13_4 : decode jdk_43_method_4_code 4 = .ok (.iload_n 0, 1) := by decide +kernel
theorem d13_5 : decode jdk_43_method_4_code 5 = .ok (.sipush 255, 3) := by decide +kernel
theorem d13_8 : decode jdk_43_method_4_code 8 = .ok (.if_icmp .gt 7, 3) := by decide +kernel
theorem d13_11 : decode jdk_43_method_4_code 11 = .ok (.iconst 1, 1) := by decide +kernel
theorem d13_12 : decode jdk_43_method_4_code 12 = .ok (.goto 4, 3) := by decide +kernel
theorem d13_16 : decode jdk_43_method_4_code 16 = .ok (.ireturn, 1) := by decide +kernel
def own_r_own_ce47 : Room := { frames := 0, cells := 0, slots := 0, locals := 0 }
theorem own_ce47 (l : Launch) (Z : State) (a0 : Array Value) (hw : own_W a0 Z)  (h0 : Heap) (n0 : Nat)  :
    own_Met l Z (⟨"java/lang/StringLatin1", "canEncode", "(I)Z"⟩ : MethodName) jdk_43_method_4_code 1 (some .boolean) own_r_own_ce47 #[(.int 47)] h0 (own_Qv (some (.int 1)) h0 n0) := by
  refine own_body (by decide +kernel) ?_
  intro p e s m below meth c T0 X0 hx hZ hby hml hown hnm hret hlk e0
  have N0 := Fr.nil n0
  refine own_cast (own_frame (L := [iv 47]) (ls := #[iv 47]) rfl rfl) ?_
  refine og_iloadN X0 hx (hb hby d13_0) rfl ?_
  refine og_ifN X0 hx (hb hby d13_1) (flt (by decide)).1 ?_
  refine og_iloadN X0 hx (hb hby d13_4) rfl ?_
  refine og_sipush X0 hx (hb hby d13_5) ?_
  refine og_icN X0 hx (hb hby d13_8) (flt (by decide)).2.2.1 ?_
  refine og_iconst X0 hx (hb hby d13_11) ?_
  refine og_goto X0 hx 16 (hb hby d13_12) (by decide) (by decide) ?_
  exact own_retI X0 hx hret hlk (hb hby d13_16) rfl (by simp) (by decide) (by decide) (⟨rfl, N0, e0⟩)
theorem d14_0 : decode jdk_29_method_69_code 0 = .ok (.iload_n 0, 1) := by decide +kernel
theorem d14_1 : decode jdk_29_method_69_code 1 = .ok (.iload_n 1, 1) := by decide +kernel
theorem d14_2 : decode jdk_29_method_69_code 2 = .ok (.if_icmp .gt 7, 3) := by decide +kernel
theorem d14_5 : decode jdk_29_method_69_code 5 = .ok (.iload_n 0, 1) := by decide +kernel
theorem d14_6 : decode jdk_29_method_69_code 6 = .ok (.goto 4, 3) := by decide +kernel
theorem d14_10 : decode jdk_29_method_69_code 10 = .ok (.ireturn, 1) := by decide +kernel
def own_r_own_min_m1_m1 : Room := { frames := 0, cells := 0, slots := 0, locals := 0 }
theorem own_min_m1_m1 (l : Launch) (Z : State) (a0 : Array Value) (hw : own_W a0 Z)  (h0 : Heap) (n0 : Nat)  :
    own_Met l Z (⟨"java/lang/Math", "min", "(II)I"⟩ : MethodName) jdk_29_method_69_code 2 (some .int) own_r_own_min_m1_m1 #[(.int (-1)), (.int (-1))] h0 (own_Qv (some (.int (-1))) h0 n0) := by
  refine own_body (by decide +kernel) ?_
  intro p e s m below meth c T0 X0 hx hZ hby hml hown hnm hret hlk e0
  have N0 := Fr.nil n0
  refine own_cast (own_frame (L := [iv (-1), iv (-1)]) (ls := #[iv (-1), iv (-1)]) rfl rfl) ?_
  refine og_iloadN X0 hx (hb hby d14_0) rfl ?_
  refine og_iloadN X0 hx (hb hby d14_1) rfl ?_
  refine og_icN X0 hx (hb hby d14_2) (flt (by decide)).2.2.1 ?_
  refine og_iloadN X0 hx (hb hby d14_5) rfl ?_
  refine og_goto X0 hx 10 (hb hby d14_6) (by decide) (by decide) ?_
  exact own_retI X0 hx hret hlk (hb hby d14_10) rfl (by simp) (by decide) (by decide) (⟨rfl, N0, e0⟩)
def own_r_lia : Room := { frames := 1, cells := 0, slots := 0, locals := 13 }
theorem d12_0 : decode jdk_43_method_27_code 0 = .ok (.iload_n 1, 1) := by decide +kernel
theorem d12_1 : decode jdk_43_method_27_code 1 = .ok (.invokestatic 88, 3) := by decide +kernel
theorem d12_4 : decode jdk_43_method_27_code 4 = .ok (.ifCond .ne 5, 3) := by decide +kernel
theorem d12_9 : decode jdk_43_method_27_code 9 = .ok (.iload_n 2, 1) := by decide +kernel
theorem d12_10 : decode jdk_43_method_27_code 10 = .ok (.aload_n 0, 1) := by decide +kernel
theorem d12_11 : decode jdk_43_method_27_code 11 = .ok (.arraylength, 1) := by decide +kernel
theorem d12_12 : decode jdk_43_method_27_code 12 = .ok (.iconst 1, 1) := by decide +kernel
theorem d12_13 : decode jdk_43_method_27_code 13 = .ok (.isub, 1) := by decide +kernel
theorem d12_14 : decode jdk_43_method_27_code 14 = .ok (.invokestatic 38, 3) := by decide +kernel
theorem d12_17 : decode jdk_43_method_27_code 17 = .ok (.istore_n 3, 1) := by decide +kernel
theorem d12_18 : decode jdk_43_method_27_code 18 = .ok (.iload_n 3, 1) := by decide +kernel
theorem d12_19 : decode jdk_43_method_27_code 19 = .ok (.ifCond .lt 19, 3) := by decide +kernel
theorem d12_38 : decode jdk_43_method_27_code 38 = .ok (.iconst (-1), 1) := by decide +kernel
theorem d12_39 : decode jdk_43_method_27_code 39 = .ok (.ireturn, 1) := by decide +kernel
theorem own_pd97859 : parseMethodDescriptor "(I)Z" = some ⟨[.int], some .boolean⟩ := by decide +kernel
theorem own_pd23903 : parseMethodDescriptor "(II)I" = some ⟨[.int, .int], some .int⟩ := by decide +kernel
theorem own_lia_0_m1 (l : Launch) (Z : State) (a0 : Array Value) (hw : own_W a0 Z) (b : Addr) (kb : ClassId) (dv : Value) (h0 : Heap) (n0 : Nat)  (Ab : Arv Z h0 b kb .byte 0 [] dv) :
    own_Met l Z (⟨"java/lang/StringLatin1", "lastIndexOf", "([BII)I"⟩ : MethodName) jdk_43_method_27_code 4 (some .int) own_r_lia #[(.ref b), (.int 47), (.int (-1))] h0 (own_Qv (some (.int (-1))) h0 n0) := by
  refine own_body (by decide +kernel) ?_
  intro p e s m below meth c T0 X0 hx hZ hby hml hown hnm hret hlk e0
  have N0 := Fr.nil n0
  refine own_cast (own_frame (L := [rv b, iv 47, iv (-1)]) (ls := #[rv b, iv 47, iv (-1), .unset]) rfl rfl) ?_
  refine og_iloadN X0 hx (hb hby d12_0) rfl ?_
  refine own_callS X0 hx hZ hown (own_hw hw 64 rfl) (own_hw hw 65 rfl) (own_hw hw 62 rfl) (own_hw hw 66 rfl) (by decide) (argsL := [(.int 47)]) (rest := []) (own_ce47 l Z a0 hw h0 n0) e0 (by rw [hml]; rfl) (lenOf own_pd97859 rfl) rfl (hb hby d12_1) (W := 0) (Nat.le_of_eq rfl) (by decide) ?_
  intro v1 T1 L1 X1 q1
  obtain ⟨rfl, N1q, e1⟩ := q1
  have N1 := Fr.app N0 N1q
  show own_Go p e below _ T1 (mkF m 4 #[rv b, iv 47, iv (-1), .unset] [(.int 1)])
  refine og_ifY X1 hx 9 (hb hby d12_4) (feq (by decide)).2 (by decide) (by decide) ?_
  refine og_iloadN X1 hx (hb hby d12_9) rfl ?_
  refine og_aloadN X1 hx (hb hby d12_10) rfl rfl ?_
  refine own_len X1 hx hZ e1 Ab (hb hby d12_11) ?_
  show own_Go p e below _ T1 (mkF m 12 #[rv b, iv 47, iv (-1), .unset] [(.int 0), (.int (-1))])
  refine og_iconst X1 hx (hb hby d12_12) ?_
  refine og_isub X1 hx (hb hby d12_13) ?_
  show own_Go p e below _ T1 (mkF m 14 #[rv b, iv 47, iv (-1), .unset] [(.int (-1)), (.int (-1))])
  refine own_callS X1 hx hZ hown (own_hw hw 67 rfl) (own_hw hw 68 rfl) (own_hw hw 69 rfl) (own_hw hw 70 rfl) (by decide) (argsL := [(.int (-1)), (.int (-1))]) (rest := []) (own_min_m1_m1 l Z a0 hw h0 n0) e1 (by rw [hml]; rfl) (lenOf own_pd23903 rfl) rfl (hb hby d12_14) (W := 0) (Nat.le_of_eq rfl) (by decide) ?_
  intro v2 T2 L2 X2 q2
  obtain ⟨rfl, N2q, e2⟩ := q2
  have N2 := Fr.app N1 N2q
  show own_Go p e below _ T2 (mkF m 17 #[rv b, iv 47, iv (-1), .unset] [(.int (-1))])
  refine og_istoreN X2 hx #[rv b, iv 47, iv (-1), iv (-1)] (hb hby d12_17) rfl ?_
  refine og_iloadN X2 hx (hb hby d12_18) rfl ?_
  refine og_ifY X2 hx 38 (hb hby d12_19) (tlt (by decide)).1 (by decide) (by decide) ?_
  refine og_iconst X2 hx (hb hby d12_38) ?_
  exact own_retI X2 hx hret hlk (hb hby d12_39) rfl (by simp) (by decide) (by decide) (⟨rfl, N2, e2⟩)
theorem d10_0 : decode jdk_42_method_83_code 0 = .ok (.aload_n 0, 1) := by decide +kernel
theorem d10_1 : decode jdk_42_method_83_code 1 = .ok (.invokevirtual 492, 3) := by decide +kernel
theorem d10_4 : decode jdk_42_method_83_code 4 = .ok (.ifCond .eq 15, 3) := by decide +kernel
theorem d10_7 : decode jdk_42_method_83_code 7 = .ok (.aload_n 0, 1) := by decide +kernel
theorem d10_8 : decode jdk_42_method_83_code 8 = .ok (.getfield 9, 3) := by decide +kernel
theorem d10_11 : decode jdk_42_method_83_code 11 = .ok (.iload_n 1, 1) := by decide +kernel
theorem d10_12 : decode jdk_42_method_83_code 12 = .ok (.iload_n 2, 1) := by decide +kernel
theorem d10_13 : decode jdk_42_method_83_code 13 = .ok (.invokestatic 644, 3) := by decide +kernel
theorem d10_16 : decode jdk_42_method_83_code 16 = .ok (.goto 12, 3) := by decide +kernel
theorem d10_28 : decode jdk_42_method_83_code 28 = .ok (.ireturn, 1) := by decide +kernel
theorem own_pd61835 : parseMethodDescriptor "()Z" = some ⟨[], some .boolean⟩ := by decide +kernel
theorem own_pd83039 : parseMethodDescriptor "([BII)I" = some ⟨[(.array .byte), .int, .int], some .int⟩ := by decide +kernel
def own_r_own_lib_0 : Room := { frames := 2, cells := 0, slots := 0, locals := 28 }
theorem own_lib_0 (l : Launch) (Z : State) (a0 : Array Value) (hw : own_W a0 Z) (z : Int32) (sf : Value) (t b : Addr) (kb : ClassId) (dv : Value) (r : Int32) (h0 : Heap) (n0 : Nat) (hO : Old Z n0 h0) (hG : own_Gs Z z sf) (inn : own_Met l Z (⟨"java/lang/StringLatin1", "lastIndexOf", "([BII)I"⟩ : MethodName) jdk_43_method_27_code 4 (some .int) own_r_lia #[.ref b, .int 47, .int (-1)] h0 (own_Qv (some (.int r)) h0 n0)) (Et : own_E Z h0 t) (Fv : own_V Z h0 t b) (Fc : own_C Z h0 t) (Ab : Arv Z h0 b kb .byte 0 [] dv) :
    own_Met l Z (⟨"java/lang/String", "lastIndexOf", "(II)I"⟩ : MethodName) jdk_42_method_83_code 3 (some .int) own_r_own_lib_0 #[(.ref t), (.int 47), (.int (-1))] h0 (own_Qv (some (.int r)) h0 n0) := by
  refine own_body (by decide +kernel) ?_
  intro p e s m below meth c T0 X0 hx hZ hby hml hown hnm hret hlk e0
  have N0 := Fr.nil n0
  refine own_cast (own_frame (L := [rv t, iv 47, iv (-1)]) (ls := #[rv t, iv 47, iv (-1)]) rfl rfl) ?_
  obtain ⟨SC, hz, SF, rf⟩ := id hG
  refine og_aloadN X0 hx (hb hby d10_0) rfl rfl ?_
  refine own_callV X0 hx hZ hown (own_hw hw 55 rfl) (own_hw hw 56 rfl) (notFace_of_selects (args := #[]) (mvT hZ (own_hw hw 58 rfl))) (own_hw hw 58 rfl) (own_hw hw 57 rfl) (own_hw hw 59 rfl) (own_hw hw 11 rfl) (by decide) (b := t) (argsL := []) (rest := []) (own_isl1 l Z a0 hw z sf t h0 n0 hO hG Fc) e0 Et (by rw [hml]; rfl) (lenOf own_pd61835 rfl) rfl (hb hby d10_1) (W := 0) (Nat.le_of_eq rfl) (by decide) ?_
  intro v1 T1 L1 X1 q1
  obtain ⟨rfl, N1q, e1⟩ := q1
  have N1 := Fr.app N0 N1q
  show own_Go p e below _ T1 (mkF m 4 #[rv t, iv 47, iv (-1)] [(.int (1 : Int32))])
  refine og_ifN X1 hx (hb hby d10_4) (feq (by decide)).1 ?_
  refine og_aloadN X1 hx (hb hby d10_7) rfl rfl ?_
  refine og_getF X1 hx hZ hown (own_hw hw 28 rfl) Via.refl e1 Fv (hb hby d10_8) ?_
  intro T2 X2 e2
  refine og_iloadN X2 hx (hb hby d10_11) rfl ?_
  refine og_iloadN X2 hx (hb hby d10_12) rfl ?_
  refine own_callS X2 hx hZ hown (own_hw hw 60 rfl) (own_hw hw 61 rfl) (own_hw hw 62 rfl) (own_hw hw 63 rfl) (by decide) (argsL := [(.ref b), (.int 47), (.int (-1))]) (rest := []) inn e2 (by rw [hml]; rfl) (lenOf own_pd83039 rfl) rfl (hb hby d10_13) (W := 0) (Nat.le_of_eq rfl) (by decide) ?_
  intro v3 T3 L3 X3 q3
  obtain ⟨rfl, N3q, e3⟩ := q3
  have N3 := Fr.app N1 N3q
  show own_Go p e below _ T3 (mkF m 16 #[rv t, iv 47, iv (-1)] [(.int r)])
  refine og_goto X3 hx 28 (hb hby d10_16) (by decide) (by decide) ?_
  exact own_retI X3 hx hret hlk (hb hby d10_28) rfl (by simp) (by decide) (by decide) (⟨rfl, N3, e3⟩)
theorem d7_0 : decode jdk_42_method_82_code 0 = .ok (.aload_n 0, 1) := by decide +kernel
theorem d7_1 : decode jdk_42_method_82_code 1 = .ok (.iload_n 1, 1) := by decide +kernel
theorem d7_2 : decode jdk_42_method_82_code 2 = .ok (.aload_n 0, 1) := by decide +kernel
theorem d7_3 : decode jdk_42_method_82_code 3 = .ok (.invokevirtual 505, 3) := by decide +kernel
theorem d7_6 : decode jdk_42_method_82_code 6 = .ok (.iconst 1, 1) := by decide +kernel
theorem d7_7 : decode jdk_42_method_82_code 7 = .ok (.isub, 1) := by decide +kernel
theorem d7_8 : decode jdk_42_method_82_code 8 = .ok (.invokevirtual 641, 3) := by decide +kernel
theorem d7_11 : decode jdk_42_method_82_code 11 = .ok (.ireturn, 1) := by decide +kernel
def own_r_own_lic_0 : Room := { frames := 3, cells := 0, slots := 0, locals := 42 }
theorem own_lic_0 (l : Launch) (Z : State) (a0 : Array Value) (hw : own_W a0 Z) (z : Int32) (sf : Value) (t b : Addr) (kb : ClassId) (dv : Value) (r : Int32) (h0 : Heap) (n0 : Nat) (hO : Old Z n0 h0) (hG : own_Gs Z z sf) (inn : own_Met l Z (⟨"java/lang/StringLatin1", "lastIndexOf", "([BII)I"⟩ : MethodName) jdk_43_method_27_code 4 (some .int) own_r_lia #[.ref b, .int 47, .int (-1)] h0 (own_Qv (some (.int r)) h0 n0)) (Et : own_E Z h0 t) (Fv : own_V Z h0 t b) (Fc : own_C Z h0 t) (Ab : Arv Z h0 b kb .byte 0 [] dv) :
    own_Met l Z (⟨"java/lang/String", "lastIndexOf", "(I)I"⟩ : MethodName) jdk_42_method_82_code 2 (some .int) own_r_own_lic_0 #[(.ref t), (.int 47)] h0 (own_Qv (some (.int r)) h0 n0) := by
  refine own_body (by decide +kernel) ?_
  intro p e s m below meth c T0 X0 hx hZ hby hml hown hnm hret hlk e0
  have N0 := Fr.nil n0
  refine own_cast (own_frame (L := [rv t, iv 47]) (ls := #[rv t, iv 47]) rfl rfl) ?_
  obtain ⟨SC, hz, SF, rf⟩ := id hG
  refine og_aloadN X0 hx (hb hby d7_0) rfl rfl ?_
  refine og_iloadN X0 hx (hb hby d7_1) rfl ?_
  refine og_aloadN X0 hx (hb hby d7_2) rfl rfl ?_
  refine own_callV X0 hx hZ hown (own_hw hw 39 rfl) (own_hw hw 40 rfl) (notFace_of_selects (args := #[]) (mvT hZ (own_hw hw 42 rfl))) (own_hw hw 42 rfl) (own_hw hw 41 rfl) (own_hw hw 43 rfl) (own_hw hw 11 rfl) (by decide) (b := t) (argsL := []) (rest := [(.int 47), (.ref t)]) (own_slen l Z a0 hw z sf t b _ _ 0 _ h0 n0 hO hG Et Fv Fc Ab) e0 Et (by rw [hml]; rfl) (lenOf own_pd13941 rfl) rfl (hb hby d7_3) (W := 2) (Nat.le_of_eq rfl) (by decide) ?_
  intro v1 T1 L1 X1 q1
  obtain ⟨rfl, N1q, e1⟩ := q1
  have N1 := Fr.app N0 N1q
  show own_Go p e below _ T1 (mkF m 6 #[rv t, iv 47] [(.int 0), (.int 47), (.ref t)])
  refine og_iconst X1 hx (hb hby d7_6) ?_
  refine og_isub X1 hx (hb hby d7_7) ?_
  show own_Go p e below _ T1 (mkF m 8 #[rv t, iv 47] [(.int (-1)), (.int 47), (.ref t)])
  refine own_callV X1 hx hZ hown (own_hw hw 50 rfl) (own_hw hw 51 rfl) (notFace_of_selects (args := #[]) (mvT hZ (own_hw hw 53 rfl))) (own_hw hw 53 rfl) (own_hw hw 52 rfl) (own_hw hw 54 rfl) (own_hw hw 11 rfl) (by decide) (b := t) (argsL := [(.int 47), (.int (-1))]) (rest := []) (own_lib_0 l Z a0 hw z sf t b _ _ r h0 n0 hO hG inn Et Fv Fc Ab) e1 Et (by rw [hml]; rfl) (lenOf own_pd23903 rfl) rfl (hb hby d7_8) (W := 0) (Nat.le_of_eq rfl) (by decide) ?_
  intro v2 T2 L2 X2 q2
  obtain ⟨rfl, N2q, e2⟩ := q2
  have N2 := Fr.app N1 N2q
  show own_Go p e below _ T2 (mkF m 11 #[rv t, iv 47] [(.int r)])
  exact own_retI X2 hx hret hlk (hb hby d7_11) rfl (by simp) (by decide) (by decide) (⟨rfl, N2, e2⟩)
theorem d6_0 : decode prog_41_method_8_code 0 = .ok (.aload_n 0, 1) := by decide +kernel
theorem d6_1 : decode prog_41_method_8_code 1 = .ok (.aload_n 0, 1) := by decide +kernel
theorem d6_2 : decode prog_41_method_8_code 2 = .ok (.bipush 47, 2) := by decide +kernel
theorem d6_4 : decode prog_41_method_8_code 4 = .ok (.invokevirtual 158, 3) := by decide +kernel
theorem d6_7 : decode prog_41_method_8_code 7 = .ok (.iconst 1, 1) := by decide +kernel
theorem d6_8 : decode prog_41_method_8_code 8 = .ok (.iadd, 1) := by decide +kernel
theorem d6_9 : decode prog_41_method_8_code 9 = .ok (.invokevirtual 167, 3) := by decide +kernel
theorem d6_12 : decode prog_41_method_8_code 12 = .ok (.areturn, 1) := by decide +kernel
theorem own_pd49053 : parseMethodDescriptor "(I)I" = some ⟨[.int], some .int⟩ := by decide +kernel
theorem own_pd44404 : parseMethodDescriptor "(I)Ljava/lang/String;" = some ⟨[.int], some (.object "java/lang/String")⟩ := by decide +kernel
def own_r_own_po_0_m1 : Room := { frames := 4, cells := 0, slots := 0, locals := 58 }
theorem own_po_0_m1 (l : Launch) (Z : State) (a0 : Array Value) (hw : own_W a0 Z) (z : Int32) (sf : Value) (t b : Addr) (kb : ClassId) (dv : Value) (h0 : Heap) (n0 : Nat) (hO : Old Z n0 h0) (hG : own_Gs Z z sf)  (Et : own_E Z h0 t) (Fv : own_V Z h0 t b) (Fc : own_C Z h0 t) (Ab : Arv Z h0 b kb .byte 0 [] dv) :
    own_Met l Z (⟨"com/example/svazek/svazek/PackageFolder", "nameOf", "(Ljava/lang/String;)Ljava/lang/String;"⟩ : MethodName) prog_41_method_8_code 1 (some (.object "java/lang/String")) own_r_own_po_0_m1 #[(.ref t)] h0 (own_Qv (some (.ref t)) h0 n0) := by
  refine own_body (by decide +kernel) ?_
  intro p e s m below meth c T0 X0 hx hZ hby hml hown hnm hret hlk e0
  have N0 := Fr.nil n0
  refine own_cast (own_frame (L := [rv t]) (ls := #[rv t]) rfl rfl) ?_
  obtain ⟨SC, hz, SF, rf⟩ := id hG
  refine og_aloadN X0 hx (hb hby d6_0) rfl rfl ?_
  refine og_aloadN X0 hx (hb hby d6_1) rfl rfl ?_
  refine og_bipush X0 hx (hb hby d6_2) ?_
  refine own_callV X0 hx hZ hown (own_hw hw 34 rfl) (own_hw hw 35 rfl) (notFace_of_selects (args := #[]) (mvT hZ (own_hw hw 37 rfl))) (own_hw hw 37 rfl) (own_hw hw 36 rfl) (own_hw hw 38 rfl) (own_hw hw 11 rfl) (by decide) (b := t) (argsL := [(.int 47)]) (rest := [(.ref t)]) (own_lic_0 l Z a0 hw z sf t b _ _ (-1) h0 n0 hO hG (own_lia_0_m1 l Z a0 hw b _ _ h0 n0 Ab) Et Fv Fc Ab) e0 Et (by rw [hml]; rfl) (lenOf own_pd49053 rfl) rfl (hb hby d6_4) (W := 1) (Nat.le_of_eq rfl) (by decide) ?_
  intro v1 T1 L1 X1 q1
  obtain ⟨rfl, N1q, e1⟩ := q1
  have N1 := Fr.app N0 N1q
  show own_Go p e below _ T1 (mkF m 7 #[rv t] [(.int (-1)), (.ref t)])
  refine og_iconst X1 hx (hb hby d6_7) ?_
  refine og_iadd X1 hx (hb hby d6_8) ?_
  show own_Go p e below _ T1 (mkF m 9 #[rv t] [(.int 0), (.ref t)])
  refine own_callV X1 hx hZ hown (own_hw hw 71 rfl) (own_hw hw 72 rfl) (notFace_of_selects (args := #[]) (mvT hZ (own_hw hw 74 rfl))) (own_hw hw 74 rfl) (own_hw hw 73 rfl) (own_hw hw 75 rfl) (own_hw hw 11 rfl) (by decide) (b := t) (argsL := [(.int 0)]) (rest := []) (own_sub1Sz l Z a0 hw z sf t b _ _ 0 _ h0 n0 hO hG (by decide) Et Fv Fc Ab) e1 Et (by rw [hml]; rfl) (lenOf own_pd44404 rfl) rfl (hb hby d6_9) (W := 0) (Nat.le_of_eq rfl) (by decide) ?_
  intro v2 T2 L2 X2 q2
  obtain ⟨rfl, N2q, e2⟩ := q2
  have N2 := Fr.app N1 N2q
  show own_Go p e below _ T2 (mkF m 12 #[rv t] [(.ref t)])
  exact own_retA X2 hx hret hlk (hb hby d6_12) rfl rfl (by decide) (by decide) (⟨rfl, N2, e2⟩)
def own_r_own_min_0_0 : Room := { frames := 0, cells := 0, slots := 0, locals := 0 }
theorem own_min_0_0 (l : Launch) (Z : State) (a0 : Array Value) (hw : own_W a0 Z)  (h0 : Heap) (n0 : Nat)  :
    own_Met l Z (⟨"java/lang/Math", "min", "(II)I"⟩ : MethodName) jdk_29_method_69_code 2 (some .int) own_r_own_min_0_0 #[(.int 0), (.int 0)] h0 (own_Qv (some (.int (0))) h0 n0) := by
  refine own_body (by decide +kernel) ?_
  intro p e s m below meth c T0 X0 hx hZ hby hml hown hnm hret hlk e0
  have N0 := Fr.nil n0
  refine own_cast (own_frame (L := [iv 0, iv 0]) (ls := #[iv 0, iv 0]) rfl rfl) ?_
  refine og_iloadN X0 hx (hb hby d14_0) rfl ?_
  refine og_iloadN X0 hx (hb hby d14_1) rfl ?_
  refine og_icN X0 hx (hb hby d14_2) (flt (by decide)).2.2.1 ?_
  refine og_iloadN X0 hx (hb hby d14_5) rfl ?_
  refine og_goto X0 hx 10 (hb hby d14_6) (by decide) (by decide) ?_
  exact own_retI X0 hx hret hlk (hb hby d14_10) rfl (by simp) (by decide) (by decide) (⟨rfl, N0, e0⟩)
theorem d12_22 : decode jdk_43_method_27_code 22 = .ok (.aload_n 0, 1) := by decide +kernel
theorem d12_23 : decode jdk_43_method_27_code 23 = .ok (.iload_n 3, 1) := by decide +kernel
theorem d12_24 : decode jdk_43_method_27_code 24 = .ok (.baload, 1) := by decide +kernel
theorem d12_25 : decode jdk_43_method_27_code 25 = .ok (.iload_n 1, 1) := by decide +kernel
theorem d12_26 : decode jdk_43_method_27_code 26 = .ok (.i2b, 1) := by decide +kernel
theorem d12_27 : decode jdk_43_method_27_code 27 = .ok (.if_icmp .ne 5, 3) := by decide +kernel
theorem d12_32 : decode jdk_43_method_27_code 32 = .ok (.iinc 3 (-1), 3) := by decide +kernel
theorem d12_35 : decode jdk_43_method_27_code 35 = .ok (.goto (-17), 3) := by decide +kernel
theorem own_lia_1_m1 (l : Launch) (Z : State) (a0 : Array Value) (hw : own_W a0 Z) (b : Addr) (kb : ClassId) (dv : Value) (c0 : Int32) (h0 : Heap) (n0 : Nat) (hc0 : ¬ c0 < 0 ∧ ¬ (255 : Int32) < c0) (m0 : ¬ c0 = 47) (Ab : Arv Z h0 b kb .byte 1 [(.int c0.toInt8.toInt32)] dv) :
    own_Met l Z (⟨"java/lang/StringLatin1", "lastIndexOf", "([BII)I"⟩ : MethodName) jdk_43_method_27_code 4 (some .int) own_r_lia #[(.ref b), (.int 47), (.int 0)] h0 (own_Qv (some (.int (-1))) h0 n0) := by
  refine own_body (by decide +kernel) ?_
  intro p e s m below meth c T0 X0 hx hZ hby hml hown hnm hret hlk e0
  have N0 := Fr.nil n0
  refine own_cast (own_frame (L := [rv b, iv 47, iv 0]) (ls := #[rv b, iv 47, iv 0, .unset]) rfl rfl) ?_
  refine og_iloadN X0 hx (hb hby d12_0) rfl ?_
  refine own_callS X0 hx hZ hown (own_hw hw 64 rfl) (own_hw hw 65 rfl) (own_hw hw 62 rfl) (own_hw hw 66 rfl) (by decide) (argsL := [(.int 47)]) (rest := []) (own_ce47 l Z a0 hw h0 n0) e0 (by rw [hml]; rfl) (lenOf own_pd97859 rfl) rfl (hb hby d12_1) (W := 0) (Nat.le_of_eq rfl) (by decide) ?_
  intro v1 T1 L1 X1 q1
  obtain ⟨rfl, N1q, e1⟩ := q1
  have N1 := Fr.app N0 N1q
  show own_Go p e below _ T1 (mkF m 4 #[rv b, iv 47, iv 0, .unset] [(.int 1)])
  refine og_ifY X1 hx 9 (hb hby d12_4) (feq (by decide)).2 (by decide) (by decide) ?_
  refine og_iloadN X1 hx (hb hby d12_9) rfl ?_
  refine og_aloadN X1 hx (hb hby d12_10) rfl rfl ?_
  refine own_len X1 hx hZ e1 Ab (hb hby d12_11) ?_
  show own_Go p e below _ T1 (mkF m 12 #[rv b, iv 47, iv 0, .unset] [(.int 1), (.int 0)])
  refine og_iconst X1 hx (hb hby d12_12) ?_
  refine og_isub X1 hx (hb hby d12_13) ?_
  show own_Go p e below _ T1 (mkF m 14 #[rv b, iv 47, iv 0, .unset] [(.int 0), (.int 0)])
  refine own_callS X1 hx hZ hown (own_hw hw 67 rfl) (own_hw hw 68 rfl) (own_hw hw 69 rfl) (own_hw hw 70 rfl) (by decide) (argsL := [(.int 0), (.int 0)]) (rest := []) (own_min_0_0 l Z a0 hw h0 n0) e1 (by rw [hml]; rfl) (lenOf own_pd23903 rfl) rfl (hb hby d12_14) (W := 0) (Nat.le_of_eq rfl) (by decide) ?_
  intro v2 T2 L2 X2 q2
  obtain ⟨rfl, N2q, e2⟩ := q2
  have N2 := Fr.app N1 N2q
  show own_Go p e below _ T2 (mkF m 17 #[rv b, iv 47, iv 0, .unset] [(.int 0)])
  refine og_istoreN X2 hx #[rv b, iv 47, iv 0, iv 0] (hb hby d12_17) rfl ?_
  refine og_iloadN X2 hx (hb hby d12_18) rfl ?_
  refine og_ifN X2 hx (hb hby d12_19) (flt (by decide)).1 ?_
  refine og_aloadN X2 hx (hb hby d12_22) rfl rfl ?_
  refine og_iloadN X2 hx (hb hby d12_23) rfl ?_
  refine own_ldB X2 hx hZ e2 Ab ⟨by decide, by decide⟩ rfl (hb hby d12_24) ?_
  show own_Go p e below _ T2 (mkF m 25 #[rv b, iv 47, iv 0, iv 0] [(.int c0.toInt8.toInt32)])
  refine og_iloadN X2 hx (hb hby d12_25) rfl ?_
  refine own_go (fun t k => XS.i2b X2.here hx rfl (hb hby d12_26) rfl k) ?_
  show own_Go p e below _ T2 (mkF m 27 #[rv b, iv 47, iv 0, iv 0] [(.int 47), (.int c0.toInt8.toInt32)])
  refine og_icY X2 hx 32 (hb hby d12_27) (feq (fun q => m0 (own_b47 _ hc0 q))).2 (by decide) (by decide) ?_
  refine own_go (fun t k => XS.iinc X2.here hx rfl (hb hby d12_32) rfl (l' := #[rv b, iv 47, iv 0, iv (-1)]) rfl k) ?_
  show own_Go p e below _ T2 (mkF m 35 #[rv b, iv 47, iv 0, iv (-1)] [])
  refine og_goto X2 hx 18 (hb hby d12_35) (by decide) (by decide) ?_
  refine og_iloadN X2 hx (hb hby d12_18) rfl ?_
  refine og_ifY X2 hx 38 (hb hby d12_19) (tlt (by decide)).1 (by decide) (by decide) ?_
  refine og_iconst X2 hx (hb hby d12_38) ?_
  exact own_retI X2 hx hret hlk (hb hby d12_39) rfl (by simp) (by decide) (by decide) (⟨rfl, N2, e2⟩)
def own_r_own_lib_1 : Room := { frames := 2, cells := 0, slots := 0, locals := 28 }
theorem own_lib_1 (l : Launch) (Z : State) (a0 : Array Value) (hw : own_W a0 Z) (z : Int32) (sf : Value) (t b : Addr) (kb : ClassId) (dv : Value) (c0 : Int32) (r : Int32) (h0 : Heap) (n0 : Nat) (hO : Old Z n0 h0) (hG : own_Gs Z z sf) (inn : own_Met l Z (⟨"java/lang/StringLatin1", "lastIndexOf", "([BII)I"⟩ : MethodName) jdk_43_method_27_code 4 (some .int) own_r_lia #[.ref b, .int 47, .int 0] h0 (own_Qv (some (.int r)) h0 n0)) (Et : own_E Z h0 t) (Fv : own_V Z h0 t b) (Fc : own_C Z h0 t) (Ab : Arv Z h0 b kb .byte 1 [(.int c0.toInt8.toInt32)] dv) :
    own_Met l Z (⟨"java/lang/String", "lastIndexOf", "(II)I"⟩ : MethodName) jdk_42_method_83_code 3 (some .int) own_r_own_lib_1 #[(.ref t), (.int 47), (.int 0)] h0 (own_Qv (some (.int r)) h0 n0) := by
  refine own_body (by decide +kernel) ?_
  intro p e s m below meth c T0 X0 hx hZ hby hml hown hnm hret hlk e0
  have N0 := Fr.nil n0
  refine own_cast (own_frame (L := [rv t, iv 47, iv 0]) (ls := #[rv t, iv 47, iv 0]) rfl rfl) ?_
  obtain ⟨SC, hz, SF, rf⟩ := id hG
  refine og_aloadN X0 hx (hb hby d10_0) rfl rfl ?_
  refine own_callV X0 hx hZ hown (own_hw hw 55 rfl) (own_hw hw 56 rfl) (notFace_of_selects (args := #[]) (mvT hZ (own_hw hw 58 rfl))) (own_hw hw 58 rfl) (own_hw hw 57 rfl) (own_hw hw 59 rfl) (own_hw hw 11 rfl) (by decide) (b := t) (argsL := []) (rest := []) (own_isl1 l Z a0 hw z sf t h0 n0 hO hG Fc) e0 Et (by rw [hml]; rfl) (lenOf own_pd61835 rfl) rfl (hb hby d10_1) (W := 0) (Nat.le_of_eq rfl) (by decide) ?_
  intro v1 T1 L1 X1 q1
  obtain ⟨rfl, N1q, e1⟩ := q1
  have N1 := Fr.app N0 N1q
  show own_Go p e below _ T1 (mkF m 4 #[rv t, iv 47, iv 0] [(.int (1 : Int32))])
  refine og_ifN X1 hx (hb hby d10_4) (feq (by decide)).1 ?_
  refine og_aloadN X1 hx (hb hby d10_7) rfl rfl ?_
  refine og_getF X1 hx hZ hown (own_hw hw 28 rfl) Via.refl e1 Fv (hb hby d10_8) ?_
  intro T2 X2 e2
  refine og_iloadN X2 hx (hb hby d10_11) rfl ?_
  refine og_iloadN X2 hx (hb hby d10_12) rfl ?_
  refine own_callS X2 hx hZ hown (own_hw hw 60 rfl) (own_hw hw 61 rfl) (own_hw hw 62 rfl) (own_hw hw 63 rfl) (by decide) (argsL := [(.ref b), (.int 47), (.int 0)]) (rest := []) inn e2 (by rw [hml]; rfl) (lenOf own_pd83039 rfl) rfl (hb hby d10_13) (W := 0) (Nat.le_of_eq rfl) (by decide) ?_
  intro v3 T3 L3 X3 q3
  obtain ⟨rfl, N3q, e3⟩ := q3
  have N3 := Fr.app N1 N3q
  show own_Go p e below _ T3 (mkF m 16 #[rv t, iv 47, iv 0] [(.int r)])
  refine og_goto X3 hx 28 (hb hby d10_16) (by decide) (by decide) ?_
  exact own_retI X3 hx hret hlk (hb hby d10_28) rfl (by simp) (by decide) (by decide) (⟨rfl, N3, e3⟩)
def own_r_own_lic_1 : Room := { frames := 3, cells := 0, slots := 0, locals := 42 }
theorem own_lic_1 (l : Launch) (Z : State) (a0 : Array Value) (hw : own_W a0 Z) (z : Int32) (sf : Value) (t b : Addr) (kb : ClassId) (dv : Value) (c0 : Int32) (r : Int32) (h0 : Heap) (n0 : Nat) (hO : Old Z n0 h0) (hG : own_Gs Z z sf) (inn : own_Met l Z (⟨"java/lang/StringLatin1", "lastIndexOf", "([BII)I"⟩ : MethodName) jdk_43_method_27_code 4 (some .int) own_r_lia #[.ref b, .int 47, .int 0] h0 (own_Qv (some (.int r)) h0 n0)) (Et : own_E Z h0 t) (Fv : own_V Z h0 t b) (Fc : own_C Z h0 t) (Ab : Arv Z h0 b kb .byte 1 [(.int c0.toInt8.toInt32)] dv) :
    own_Met l Z (⟨"java/lang/String", "lastIndexOf", "(I)I"⟩ : MethodName) jdk_42_method_82_code 2 (some .int) own_r_own_lic_1 #[(.ref t), (.int 47)] h0 (own_Qv (some (.int r)) h0 n0) := by
  refine own_body (by decide +kernel) ?_
  intro p e s m below meth c T0 X0 hx hZ hby hml hown hnm hret hlk e0
  have N0 := Fr.nil n0
  refine own_cast (own_frame (L := [rv t, iv 47]) (ls := #[rv t, iv 47]) rfl rfl) ?_
  obtain ⟨SC, hz, SF, rf⟩ := id hG
  refine og_aloadN X0 hx (hb hby d7_0) rfl rfl ?_
  refine og_iloadN X0 hx (hb hby d7_1) rfl ?_
  refine og_aloadN X0 hx (hb hby d7_2) rfl rfl ?_
  refine own_callV X0 hx hZ hown (own_hw hw 39 rfl) (own_hw hw 40 rfl) (notFace_of_selects (args := #[]) (mvT hZ (own_hw hw 42 rfl))) (own_hw hw 42 rfl) (own_hw hw 41 rfl) (own_hw hw 43 rfl) (own_hw hw 11 rfl) (by decide) (b := t) (argsL := []) (rest := [(.int 47), (.ref t)]) (own_slen l Z a0 hw z sf t b _ _ 1 _ h0 n0 hO hG Et Fv Fc Ab) e0 Et (by rw [hml]; rfl) (lenOf own_pd13941 rfl) rfl (hb hby d7_3) (W := 2) (Nat.le_of_eq rfl) (by decide) ?_
  intro v1 T1 L1 X1 q1
  obtain ⟨rfl, N1q, e1⟩ := q1
  have N1 := Fr.app N0 N1q
  show own_Go p e below _ T1 (mkF m 6 #[rv t, iv 47] [(.int 1), (.int 47), (.ref t)])
  refine og_iconst X1 hx (hb hby d7_6) ?_
  refine og_isub X1 hx (hb hby d7_7) ?_
  show own_Go p e below _ T1 (mkF m 8 #[rv t, iv 47] [(.int 0), (.int 47), (.ref t)])
  refine own_callV X1 hx hZ hown (own_hw hw 50 rfl) (own_hw hw 51 rfl) (notFace_of_selects (args := #[]) (mvT hZ (own_hw hw 53 rfl))) (own_hw hw 53 rfl) (own_hw hw 52 rfl) (own_hw hw 54 rfl) (own_hw hw 11 rfl) (by decide) (b := t) (argsL := [(.int 47), (.int 0)]) (rest := []) (own_lib_1 l Z a0 hw z sf t b _ _ c0 r h0 n0 hO hG inn Et Fv Fc Ab) e1 Et (by rw [hml]; rfl) (lenOf own_pd23903 rfl) rfl (hb hby d7_8) (W := 0) (Nat.le_of_eq rfl) (by decide) ?_
  intro v2 T2 L2 X2 q2
  obtain ⟨rfl, N2q, e2⟩ := q2
  have N2 := Fr.app N1 N2q
  show own_Go p e below _ T2 (mkF m 11 #[rv t, iv 47] [(.int r)])
  exact own_retI X2 hx hret hlk (hb hby d7_11) rfl (by simp) (by decide) (by decide) (⟨rfl, N2, e2⟩)
def own_r_own_po_1_m1 : Room := { frames := 4, cells := 0, slots := 0, locals := 58 }
theorem own_po_1_m1 (l : Launch) (Z : State) (a0 : Array Value) (hw : own_W a0 Z) (z : Int32) (sf : Value) (t b : Addr) (kb : ClassId) (dv : Value) (c0 : Int32) (h0 : Heap) (n0 : Nat) (hO : Old Z n0 h0) (hG : own_Gs Z z sf) (hc0 : ¬ c0 < 0 ∧ ¬ (255 : Int32) < c0) (m0 : ¬ c0 = 47) (Et : own_E Z h0 t) (Fv : own_V Z h0 t b) (Fc : own_C Z h0 t) (Ab : Arv Z h0 b kb .byte 1 [(.int c0.toInt8.toInt32)] dv) :
    own_Met l Z (⟨"com/example/svazek/svazek/PackageFolder", "nameOf", "(Ljava/lang/String;)Ljava/lang/String;"⟩ : MethodName) prog_41_method_8_code 1 (some (.object "java/lang/String")) own_r_own_po_1_m1 #[(.ref t)] h0 (own_Qv (some (.ref t)) h0 n0) := by
  refine own_body (by decide +kernel) ?_
  intro p e s m below meth c T0 X0 hx hZ hby hml hown hnm hret hlk e0
  have N0 := Fr.nil n0
  refine own_cast (own_frame (L := [rv t]) (ls := #[rv t]) rfl rfl) ?_
  obtain ⟨SC, hz, SF, rf⟩ := id hG
  refine og_aloadN X0 hx (hb hby d6_0) rfl rfl ?_
  refine og_aloadN X0 hx (hb hby d6_1) rfl rfl ?_
  refine og_bipush X0 hx (hb hby d6_2) ?_
  refine own_callV X0 hx hZ hown (own_hw hw 34 rfl) (own_hw hw 35 rfl) (notFace_of_selects (args := #[]) (mvT hZ (own_hw hw 37 rfl))) (own_hw hw 37 rfl) (own_hw hw 36 rfl) (own_hw hw 38 rfl) (own_hw hw 11 rfl) (by decide) (b := t) (argsL := [(.int 47)]) (rest := [(.ref t)]) (own_lic_1 l Z a0 hw z sf t b _ _ c0 (-1) h0 n0 hO hG (own_lia_1_m1 l Z a0 hw b _ _ c0 h0 n0 hc0 m0 Ab) Et Fv Fc Ab) e0 Et (by rw [hml]; rfl) (lenOf own_pd49053 rfl) rfl (hb hby d6_4) (W := 1) (Nat.le_of_eq rfl) (by decide) ?_
  intro v1 T1 L1 X1 q1
  obtain ⟨rfl, N1q, e1⟩ := q1
  have N1 := Fr.app N0 N1q
  show own_Go p e below _ T1 (mkF m 7 #[rv t] [(.int (-1)), (.ref t)])
  refine og_iconst X1 hx (hb hby d6_7) ?_
  refine og_iadd X1 hx (hb hby d6_8) ?_
  show own_Go p e below _ T1 (mkF m 9 #[rv t] [(.int 0), (.ref t)])
  refine own_callV X1 hx hZ hown (own_hw hw 71 rfl) (own_hw hw 72 rfl) (notFace_of_selects (args := #[]) (mvT hZ (own_hw hw 74 rfl))) (own_hw hw 74 rfl) (own_hw hw 73 rfl) (own_hw hw 75 rfl) (own_hw hw 11 rfl) (by decide) (b := t) (argsL := [(.int 0)]) (rest := []) (own_sub1Sz l Z a0 hw z sf t b _ _ 1 _ h0 n0 hO hG (by decide) Et Fv Fc Ab) e1 Et (by rw [hml]; rfl) (lenOf own_pd44404 rfl) rfl (hb hby d6_9) (W := 0) (Nat.le_of_eq rfl) (by decide) ?_
  intro v2 T2 L2 X2 q2
  obtain ⟨rfl, N2q, e2⟩ := q2
  have N2 := Fr.app N1 N2q
  show own_Go p e below _ T2 (mkF m 12 #[rv t] [(.ref t)])
  exact own_retA X2 hx hret hlk (hb hby d6_12) rfl rfl (by decide) (by decide) (⟨rfl, N2, e2⟩)
def own_Qe (Z : State) (h0 : Heap) (n0 : Nat) (v : Option Value) (h : Heap) (L : List Loc) : Prop := ∃ (t b : Addr) (k : ClassId), v = some (.ref t) ∧ Fr n0 L ∧ Keep h0 h [] ∧ own_E Z h t ∧ own_V Z h t b ∧ own_C Z h t ∧ Arv Z h b k .byte (0 : Int32) [] (.int (0 : Int32))
theorem d23_0 : decode jdk_43_method_47_code 0 = .ok (.iload_n 2, 1) := by decide +kernel
theorem d23_1 : decode jdk_43_method_47_code 1 = .ok (.ifCond .ne 6, 3) := by decide +kernel
theorem d23_4 : decode jdk_43_method_47_code 4 = .ok (.ldc 151, 2) := by decide +kernel
theorem d23_6 : decode jdk_43_method_47_code 6 = .ok (.areturn, 1) := by decide +kernel
def own_r_own_nse : Room := { frames := 0, cells := 2, slots := 4, locals := 0 }
theorem own_nse (l : Launch) (Z : State) (a0 : Array Value) (hw : own_W a0 Z) (b : Addr) (p1 : Int32) (h0 : Heap) (n0 : Nat) (hO : Old Z n0 h0) :
    own_MetH l Z own_EL (⟨"java/lang/StringLatin1", "newString", "([BII)Ljava/lang/String;"⟩ : MethodName) jdk_43_method_47_code 3 (some (.object "java/lang/String")) own_r_own_nse #[(.ref b), (.int p1), (.int (0 : Int32))] h0 (own_Qe Z h0 n0) := by
  refine own_bodyH (by decide +kernel) ?_
  intro p e s m below meth c T0 X0 hx hZ hby hml hown hnm hret hlk e0 hS hk C0
  have hwS : ∀ a ∈ Bundle.stringAtoms, a.before a0 Z = true := fun d hd => hw d ((by decide +kernel : ∀ d ∈ Bundle.stringAtoms, d ∈ tables_1) d hd)
  have N0 := Fr.nil n0
  refine own_cast (own_frame (L := [rv b, iv p1, iv (0 : Int32)]) (ls := #[rv b, iv p1, iv (0 : Int32)]) rfl rfl) ?_
  refine og_iloadN X0 hx (hb hby d23_0) rfl ?_
  refine og_ifN X0 hx (hb hby d23_1) (teq (by decide)).2 ?_
  show own_Go p e below _ T0 (mkF m 4 #[rv b, iv p1, iv (0 : Int32)] [])
  refine own_ldcH X0 hx hZ hown (own_hw hw 106 rfl) hwS e0 hS hk (own_EW hw) (List.mem_of_getElem? (i := 1) rfl) C0.1 (z := 0) ⟨by decide, rfl⟩ (by decide) rfl (hb hby d23_4) 0 (by decide) (by decide) (by decide) (by decide) ?_
  intro s1 T1 h1 k1 d1 kb1 X1 e1 E1 hS1 hk1 hZ1 hown1 Es1 Fc1 Fv1 As1 C1q Lt1 ns1
  have C1 := C0.trans C1q
  have O1 := hO.ext E1
  have K1 := (Keep.refl h0 []).ext E1
  have E_s1_1 : Exa Z h1 s1 "java/lang/String" := Es1
  have F_s1_coder_1 : Fld Z h1 s1 "java/lang/String" "coder" "B" (.int (0 : Int32)) := Fc1
  have F_s1_value_1 : Fld Z h1 s1 "java/lang/String" "value" "[B" (.ref d1) := Fv1
  have A_d1_1 : Arv Z h1 d1 kb1 .byte 0 [] (.int 0) := As1
  show own_Go p e below _ T1 (mkF m 6 #[rv b, iv p1, iv (0 : Int32)] [(.ref s1)])
  exact own_retAH X1 hx hret hlk (hb hby d23_6) rfl rfl hZ1 (own_EW hw) C1 e1 hS1 hk1 (by decide) (by decide) (by rw [e1]; exact ⟨s1, d1, _, rfl, N0, K1, E_s1_1, F_s1_value_1, F_s1_coder_1, A_d1_1⟩)
theorem own_subself (x : Int32) : x - x = 0 := Int32.sub_self x
theorem d16_22 : decode jdk_42_method_92_code 22 = .ok (.iload_n 2, 1) := by decide +kernel
theorem d16_23 : decode jdk_42_method_92_code 23 = .ok (.iload_n 1, 1) := by decide +kernel
theorem d16_24 : decode jdk_42_method_92_code 24 = .ok (.isub, 1) := by decide +kernel
theorem d16_25 : decode jdk_42_method_92_code 25 = .ok (.istore 4, 2) := by decide +kernel
theorem d16_27 : decode jdk_42_method_92_code 27 = .ok (.aload_n 0, 1) := by decide +kernel
theorem d16_28 : decode jdk_42_method_92_code 28 = .ok (.invokevirtual 492, 3) := by decide +kernel
theorem d16_31 : decode jdk_42_method_92_code 31 = .ok (.ifCond .eq 16, 3) := by decide +kernel
theorem d16_34 : decode jdk_42_method_92_code 34 = .ok (.aload_n 0, 1) := by decide +kernel
theorem d16_35 : decode jdk_42_method_92_code 35 = .ok (.getfield 9, 3) := by decide +kernel
theorem d16_38 : decode jdk_42_method_92_code 38 = .ok (.iload_n 1, 1) := by decide +kernel
theorem d16_39 : decode jdk_42_method_92_code 39 = .ok (.iload 4, 2) := by decide +kernel
theorem d16_41 : decode jdk_42_method_92_code 41 = .ok (.invokestatic 685, 3) := by decide +kernel
theorem d16_44 : decode jdk_42_method_92_code 44 = .ok (.goto 13, 3) := by decide +kernel
theorem d16_57 : decode jdk_42_method_92_code 57 = .ok (.areturn, 1) := by decide +kernel
theorem own_pd78060 : parseMethodDescriptor "([BII)Ljava/lang/String;" = some ⟨[(.array .byte), .int, .int], some (.object "java/lang/String")⟩ := by decide +kernel
def own_r_own_subE : Room := { frames := 2, cells := 2, slots := 4, locals := 29 }
theorem own_subE (l : Launch) (Z : State) (a0 : Array Value) (hw : own_W a0 Z) (z : Int32) (sf : Value) (t b : Addr) (kb : ClassId) (dv : Value) (n : Int32) (vs : List Value) (lo : Int32) (h0 : Heap) (n0 : Nat) (hO : Old Z n0 h0) (hG : own_Gs Z z sf) (h1 : ¬ lo < 0) (h3 : ¬ n < lo) (hx0 : ¬ lo = 0) (Et : own_E Z h0 t) (Fv : own_V Z h0 t b) (Fc : own_C Z h0 t) (Ab : Arv Z h0 b kb .byte n vs dv) :
    own_MetH l Z own_EL (⟨"java/lang/String", "substring", "(II)Ljava/lang/String;"⟩ : MethodName) jdk_42_method_92_code 5 (some (.object "java/lang/String")) own_r_own_subE #[(.ref t), (.int lo), (.int lo)] h0 (own_Qe Z h0 n0) := by
  refine own_bodyH (by decide +kernel) ?_
  intro p e s m below meth c T0 X0 hx hZ hby hml hown hnm hret hlk e0 hS hk C0
  have hwS : ∀ a ∈ Bundle.stringAtoms, a.before a0 Z = true := fun d hd => hw d ((by decide +kernel : ∀ d ∈ Bundle.stringAtoms, d ∈ tables_1) d hd)
  have N0 := Fr.nil n0
  refine own_cast (own_frame (L := [rv t, iv lo, iv lo]) (ls := #[rv t, iv lo, iv lo, .unset, .unset]) rfl rfl) ?_
  obtain ⟨SC, hz, SF, rf⟩ := id hG
  refine og_aloadN X0 hx (hb hby d16_0) rfl rfl ?_
  refine own_callV X0 hx hZ hown (own_hw hw 39 rfl) (own_hw hw 40 rfl) (notFace_of_selects (args := #[]) (mvT hZ (own_hw hw 42 rfl))) (own_hw hw 42 rfl) (own_hw hw 41 rfl) (own_hw hw 43 rfl) (own_hw hw 11 rfl) (by decide) (b := t) (argsL := []) (rest := []) (own_slen l Z a0 hw z sf t b _ _ n _ h0 n0 hO hG Et Fv Fc Ab) e0 Et (by rw [hml]; rfl) (lenOf own_pd13941 rfl) rfl (hb hby d16_1) (W := 0) (Nat.le_of_eq rfl) (by decide) ?_
  intro v1 T1 L1 X1 q1
  obtain ⟨rfl, N1q, e1⟩ := q1
  have N1 := Fr.app N0 N1q
  show own_Go p e below _ T1 (mkF m 4 #[rv t, iv lo, iv lo, .unset, .unset] [(.int n)])
  refine og_istoreN X1 hx #[rv t, iv lo, iv lo, iv n, .unset] (hb hby d16_4) rfl ?_
  refine og_iloadN X1 hx (hb hby d16_5) rfl ?_
  refine og_iloadN X1 hx (hb hby d16_6) rfl ?_
  refine og_iloadN X1 hx (hb hby d16_7) rfl ?_
  refine own_callS X1 hx hZ hown (own_hw hw 81 rfl) (own_hw hw 82 rfl) (own_hw hw 11 rfl) (own_hw hw 83 rfl) (by decide) (argsL := [(.int lo), (.int lo), (.int n)]) (rest := []) (own_cbb l Z a0 hw z sf lo lo n h0 n0 hO hG h1 Int32.lt_irrefl h3) e1 (by rw [hml]; rfl) (lenOf own_pd73746 rfl) rfl (hb hby d16_8) (W := 0) (Nat.le_of_eq rfl) (by decide) ?_
  intro v2 T2 L2 X2 q2
  obtain ⟨rfl, N2q, e2⟩ := q2
  have N2 := Fr.app N1 N2q
  show own_Go p e below _ T2 (mkF m 11 #[rv t, iv lo, iv lo, iv n, .unset] [])
  refine og_iloadN X2 hx (hb hby d16_11) rfl ?_
  refine og_ifY X2 hx 22 (hb hby d16_12) (feq hx0).2 (by decide) (by decide) ?_
  refine og_iloadN X2 hx (hb hby d16_22) rfl ?_
  refine og_iloadN X2 hx (hb hby d16_23) rfl ?_
  refine og_isub X2 hx (hb hby d16_24) ?_
  show own_Go p e below _ T2 (mkF m 25 #[rv t, iv lo, iv lo, iv n, .unset] [(.int (lo - lo))])
  rw [own_subself lo]
  show own_Go p e below _ T2 (mkF m 25 #[rv t, iv lo, iv lo, iv n, .unset] [(.int (0 : Int32))])
  refine og_istore X2 hx #[rv t, iv lo, iv lo, iv n, iv (0 : Int32)] (hb hby d16_25) rfl ?_
  refine og_aloadN X2 hx (hb hby d16_27) rfl rfl ?_
  refine own_callV X2 hx hZ hown (own_hw hw 55 rfl) (own_hw hw 56 rfl) (notFace_of_selects (args := #[]) (mvT hZ (own_hw hw 58 rfl))) (own_hw hw 58 rfl) (own_hw hw 57 rfl) (own_hw hw 59 rfl) (own_hw hw 11 rfl) (by decide) (b := t) (argsL := []) (rest := []) (own_isl1 l Z a0 hw z sf t h0 n0 hO hG Fc) e2 Et (by rw [hml]; rfl) (lenOf own_pd61835 rfl) rfl (hb hby d16_28) (W := 0) (Nat.le_of_eq rfl) (by decide) ?_
  intro v3 T3 L3 X3 q3
  obtain ⟨rfl, N3q, e3⟩ := q3
  have N3 := Fr.app N2 N3q
  show own_Go p e below _ T3 (mkF m 31 #[rv t, iv lo, iv lo, iv n, iv (0 : Int32)] [(.int (1 : Int32))])
  refine og_ifN X3 hx (hb hby d16_31) (feq (by decide)).1 ?_
  refine og_aloadN X3 hx (hb hby d16_34) rfl rfl ?_
  refine og_getF X3 hx hZ hown (own_hw hw 28 rfl) Via.refl e3 Fv (hb hby d16_35) ?_
  intro T4 X4 e4
  refine og_iloadN X4 hx (hb hby d16_38) rfl ?_
  refine og_iload X4 hx (hb hby d16_39) rfl ?_
  refine own_callSH X4 hx hZ hown (own_hw hw 103 rfl) (own_hw hw 104 rfl) (own_hw hw 62 rfl) (own_hw hw 105 rfl) (by decide) (argsL := [(.ref b), (.int lo), (.int (0 : Int32))]) (rest := []) (own_nse l Z a0 hw b lo h0 n0 hO) (own_EW hw) C0.1 hS hk e4 (by rw [hml]; rfl) (lenOf own_pd78060 rfl) rfl (hb hby d16_41) (W := 0) (Nat.le_of_eq rfl) (by decide) ?_
  intro v5 T5 L5 X5 hS5 hZ5 hown5 C5q q5
  obtain ⟨t5, vb5, k5, rfl, N5q, K5q, Et5, Ft5, Ct5, At5⟩ := q5
  have N5 := Fr.app N3 N5q
  have C5 := C0.trans C5q
  have E_t_5 := Et.keep K5q
  have F_t_value_5 := Fv.keep K5q nin0
  have F_t_coder_5 := Fc.keep K5q nin0
  have A_b_5 := Ab.keep K5q nin0
  have O5 := hO.keep K5q all0
  have K5 := (Keep.refl h0 []).trans K5q all0
  show own_Go p e below _ T5 (mkF m 44 #[rv t, iv lo, iv lo, iv n, iv (0 : Int32)] [(.ref t5)])
  refine og_goto X5 hx 57 (hb hby d16_44) (by decide) (by decide) ?_
  exact own_retAH X5 hx hret hlk (hb hby d16_57) rfl rfl hZ5 (own_EW hw) C5 rfl hS5 (Nat.le_refl _) (by decide) (by decide) (⟨t5, vb5, _, rfl, N5, K5, Et5, Ft5, Ct5, At5⟩)
def own_r_own_sub1E : Room := { frames := 3, cells := 2, slots := 4, locals := 45 }
theorem own_sub1E (l : Launch) (Z : State) (a0 : Array Value) (hw : own_W a0 Z) (z : Int32) (sf : Value) (t b : Addr) (kb : ClassId) (dv : Value) (n : Int32) (vs : List Value) (h0 : Heap) (n0 : Nat) (hO : Old Z n0 h0) (hG : own_Gs Z z sf) (h1 : ¬ n < 0) (hx0 : ¬ n = 0) (Et : own_E Z h0 t) (Fv : own_V Z h0 t b) (Fc : own_C Z h0 t) (Ab : Arv Z h0 b kb .byte n vs dv) :
    own_MetH l Z own_EL (⟨"java/lang/String", "substring", "(I)Ljava/lang/String;"⟩ : MethodName) jdk_42_method_91_code 2 (some (.object "java/lang/String")) own_r_own_sub1E #[(.ref t), (.int n)] h0 (own_Qe Z h0 n0) := by
  refine own_bodyH (by decide +kernel) ?_
  intro p e s m below meth c T0 X0 hx hZ hby hml hown hnm hret hlk e0 hS hk C0
  have hwS : ∀ a ∈ Bundle.stringAtoms, a.before a0 Z = true := fun d hd => hw d ((by decide +kernel : ∀ d ∈ Bundle.stringAtoms, d ∈ tables_1) d hd)
  have N0 := Fr.nil n0
  refine own_cast (own_frame (L := [rv t, iv n]) (ls := #[rv t, iv n]) rfl rfl) ?_
  obtain ⟨SC, hz, SF, rf⟩ := id hG
  refine og_aloadN X0 hx (hb hby d15_0) rfl rfl ?_
  refine og_iloadN X0 hx (hb hby d15_1) rfl ?_
  refine og_aloadN X0 hx (hb hby d15_2) rfl rfl ?_
  refine own_callV X0 hx hZ hown (own_hw hw 39 rfl) (own_hw hw 40 rfl) (notFace_of_selects (args := #[]) (mvT hZ (own_hw hw 42 rfl))) (own_hw hw 42 rfl) (own_hw hw 41 rfl) (own_hw hw 43 rfl) (own_hw hw 11 rfl) (by decide) (b := t) (argsL := []) (rest := [(.int n), (.ref t)]) (own_slen l Z a0 hw z sf t b _ _ n _ h0 n0 hO hG Et Fv Fc Ab) e0 Et (by rw [hml]; rfl) (lenOf own_pd13941 rfl) rfl (hb hby d15_3) (W := 2) (Nat.le_of_eq rfl) (by decide) ?_
  intro v1 T1 L1 X1 q1
  obtain ⟨rfl, N1q, e1⟩ := q1
  have N1 := Fr.app N0 N1q
  show own_Go p e below _ T1 (mkF m 6 #[rv t, iv n] [(.int n), (.int n), (.ref t)])
  refine own_callVH X1 hx hZ hown (own_hw hw 76 rfl) (own_hw hw 77 rfl) (notFace_of_selects (args := #[]) (mvT hZ (own_hw hw 79 rfl))) (own_hw hw 79 rfl) (own_hw hw 78 rfl) (own_hw hw 80 rfl) (own_hw hw 11 rfl) (by decide) (b := t) (argsL := [(.int n), (.int n)]) (rest := []) (own_subE l Z a0 hw z sf t b _ _ n _ n h0 n0 hO hG h1 Int32.lt_irrefl hx0 Et Fv Fc Ab) (own_EW hw) C0.1 hS hk e1 Et (by rw [hml]; rfl) (lenOf own_pd41291 rfl) rfl (hb hby d15_6) (W := 0) (Nat.le_of_eq rfl) (by decide) ?_
  intro v2 T2 L2 X2 hS2 hZ2 hown2 C2q q2
  obtain ⟨t2, vb2, k2, rfl, N2q, K2q, Et2, Ft2, Ct2, At2⟩ := q2
  have N2 := Fr.app N1 N2q
  have C2 := C0.trans C2q
  have E_t_2 := Et.keep K2q
  have F_t_value_2 := Fv.keep K2q nin0
  have F_t_coder_2 := Fc.keep K2q nin0
  have A_b_2 := Ab.keep K2q nin0
  have O2 := hO.keep K2q all0
  have K2 := (Keep.refl h0 []).trans K2q all0
  show own_Go p e below _ T2 (mkF m 9 #[rv t, iv n] [(.ref t2)])
  exact own_retAH X2 hx hret hlk (hb hby d15_9) rfl rfl hZ2 (own_EW hw) C2 rfl hS2 (Nat.le_refl _) (by decide) (by decide) (⟨t2, vb2, _, rfl, N2, K2, Et2, Ft2, Ct2, At2⟩)
theorem d12_30 : decode jdk_43_method_27_code 30 = .ok (.iload_n 3, 1) := by decide +kernel
theorem d12_31 : decode jdk_43_method_27_code 31 = .ok (.ireturn, 1) := by decide +kernel
theorem own_lia_1_0 (l : Launch) (Z : State) (a0 : Array Value) (hw : own_W a0 Z) (b : Addr) (kb : ClassId) (dv : Value) (c0 : Int32) (h0 : Heap) (n0 : Nat)  (hsl : c0 = 47) (Ab : Arv Z h0 b kb .byte 1 [(.int c0.toInt8.toInt32)] dv) :
    own_Met l Z (⟨"java/lang/StringLatin1", "lastIndexOf", "([BII)I"⟩ : MethodName) jdk_43_method_27_code 4 (some .int) own_r_lia #[(.ref b), (.int 47), (.int 0)] h0 (own_Qv (some (.int (0))) h0 n0) := by
  refine own_body (by decide +kernel) ?_
  intro p e s m below meth c T0 X0 hx hZ hby hml hown hnm hret hlk e0
  have N0 := Fr.nil n0
  refine own_cast (own_frame (L := [rv b, iv 47, iv 0]) (ls := #[rv b, iv 47, iv 0, .unset]) rfl rfl) ?_
  refine og_iloadN X0 hx (hb hby d12_0) rfl ?_
  refine own_callS X0 hx hZ hown (own_hw hw 64 rfl) (own_hw hw 65 rfl) (own_hw hw 62 rfl) (own_hw hw 66 rfl) (by decide) (argsL := [(.int 47)]) (rest := []) (own_ce47 l Z a0 hw h0 n0) e0 (by rw [hml]; rfl) (lenOf own_pd97859 rfl) rfl (hb hby d12_1) (W := 0) (Nat.le_of_eq rfl) (by decide) ?_
  intro v1 T1 L1 X1 q1
  obtain ⟨rfl, N1q, e1⟩ := q1
  have N1 := Fr.app N0 N1q
  show own_Go p e below _ T1 (mkF m 4 #[rv b, iv 47, iv 0, .unset] [(.int 1)])
  refine og_ifY X1 hx 9 (hb hby d12_4) (feq (by decide)).2 (by decide) (by decide) ?_
  refine og_iloadN X1 hx (hb hby d12_9) rfl ?_
  refine og_aloadN X1 hx (hb hby d12_10) rfl rfl ?_
  refine own_len X1 hx hZ e1 Ab (hb hby d12_11) ?_
  show own_Go p e below _ T1 (mkF m 12 #[rv b, iv 47, iv 0, .unset] [(.int 1), (.int 0)])
  refine og_iconst X1 hx (hb hby d12_12) ?_
  refine og_isub X1 hx (hb hby d12_13) ?_
  show own_Go p e below _ T1 (mkF m 14 #[rv b, iv 47, iv 0, .unset] [(.int 0), (.int 0)])
  refine own_callS X1 hx hZ hown (own_hw hw 67 rfl) (own_hw hw 68 rfl) (own_hw hw 69 rfl) (own_hw hw 70 rfl) (by decide) (argsL := [(.int 0), (.int 0)]) (rest := []) (own_min_0_0 l Z a0 hw h0 n0) e1 (by rw [hml]; rfl) (lenOf own_pd23903 rfl) rfl (hb hby d12_14) (W := 0) (Nat.le_of_eq rfl) (by decide) ?_
  intro v2 T2 L2 X2 q2
  obtain ⟨rfl, N2q, e2⟩ := q2
  have N2 := Fr.app N1 N2q
  show own_Go p e below _ T2 (mkF m 17 #[rv b, iv 47, iv 0, .unset] [(.int 0)])
  refine og_istoreN X2 hx #[rv b, iv 47, iv 0, iv 0] (hb hby d12_17) rfl ?_
  refine og_iloadN X2 hx (hb hby d12_18) rfl ?_
  refine og_ifN X2 hx (hb hby d12_19) (flt (by decide)).1 ?_
  refine og_aloadN X2 hx (hb hby d12_22) rfl rfl ?_
  refine og_iloadN X2 hx (hb hby d12_23) rfl ?_
  refine own_ldB X2 hx hZ e2 Ab ⟨by decide, by decide⟩ rfl (hb hby d12_24) ?_
  show own_Go p e below _ T2 (mkF m 25 #[rv b, iv 47, iv 0, iv 0] [(.int c0.toInt8.toInt32)])
  refine og_iloadN X2 hx (hb hby d12_25) rfl ?_
  refine own_go (fun t k => XS.i2b X2.here hx rfl (hb hby d12_26) rfl k) ?_
  show own_Go p e below _ T2 (mkF m 27 #[rv b, iv 47, iv 0, iv 0] [(.int 47), (.int c0.toInt8.toInt32)])
  refine og_icN X2 hx (hb hby d12_27) (teq (by rw [hsl]; rfl)).2 ?_
  refine og_iloadN X2 hx (hb hby d12_30) rfl ?_
  exact own_retI X2 hx hret hlk (hb hby d12_31) rfl (by simp) (by decide) (by decide) (⟨rfl, N2, e2⟩)
def own_r_own_po_1_0 : Room := { frames := 4, cells := 2, slots := 4, locals := 58 }
theorem own_po_1_0 (l : Launch) (Z : State) (a0 : Array Value) (hw : own_W a0 Z) (z : Int32) (sf : Value) (t b : Addr) (kb : ClassId) (dv : Value) (c0 : Int32) (h0 : Heap) (n0 : Nat) (hO : Old Z n0 h0) (hG : own_Gs Z z sf)  (hsl : c0 = 47) (Et : own_E Z h0 t) (Fv : own_V Z h0 t b) (Fc : own_C Z h0 t) (Ab : Arv Z h0 b kb .byte 1 [(.int c0.toInt8.toInt32)] dv) :
    own_MetH l Z own_EL (⟨"com/example/svazek/svazek/PackageFolder", "nameOf", "(Ljava/lang/String;)Ljava/lang/String;"⟩ : MethodName) prog_41_method_8_code 1 (some (.object "java/lang/String")) own_r_own_po_1_0 #[(.ref t)] h0 (own_Qe Z h0 n0) := by
  refine own_bodyH (by decide +kernel) ?_
  intro p e s m below meth c T0 X0 hx hZ hby hml hown hnm hret hlk e0 hS hk C0
  have hwS : ∀ a ∈ Bundle.stringAtoms, a.before a0 Z = true := fun d hd => hw d ((by decide +kernel : ∀ d ∈ Bundle.stringAtoms, d ∈ tables_1) d hd)
  have N0 := Fr.nil n0
  refine own_cast (own_frame (L := [rv t]) (ls := #[rv t]) rfl rfl) ?_
  obtain ⟨SC, hz, SF, rf⟩ := id hG
  refine og_aloadN X0 hx (hb hby d6_0) rfl rfl ?_
  refine og_aloadN X0 hx (hb hby d6_1) rfl rfl ?_
  refine og_bipush X0 hx (hb hby d6_2) ?_
  refine own_callV X0 hx hZ hown (own_hw hw 34 rfl) (own_hw hw 35 rfl) (notFace_of_selects (args := #[]) (mvT hZ (own_hw hw 37 rfl))) (own_hw hw 37 rfl) (own_hw hw 36 rfl) (own_hw hw 38 rfl) (own_hw hw 11 rfl) (by decide) (b := t) (argsL := [(.int 47)]) (rest := [(.ref t)]) (own_lic_1 l Z a0 hw z sf t b _ _ c0 (0) h0 n0 hO hG (own_lia_1_0 l Z a0 hw b _ _ c0 h0 n0 hsl Ab) Et Fv Fc Ab) e0 Et (by rw [hml]; rfl) (lenOf own_pd49053 rfl) rfl (hb hby d6_4) (W := 1) (Nat.le_of_eq rfl) (by decide) ?_
  intro v1 T1 L1 X1 q1
  obtain ⟨rfl, N1q, e1⟩ := q1
  have N1 := Fr.app N0 N1q
  show own_Go p e below _ T1 (mkF m 7 #[rv t] [(.int 0), (.ref t)])
  refine og_iconst X1 hx (hb hby d6_7) ?_
  refine og_iadd X1 hx (hb hby d6_8) ?_
  show own_Go p e below _ T1 (mkF m 9 #[rv t] [(.int 1), (.ref t)])
  refine own_callVH X1 hx hZ hown (own_hw hw 71 rfl) (own_hw hw 72 rfl) (notFace_of_selects (args := #[]) (mvT hZ (own_hw hw 74 rfl))) (own_hw hw 74 rfl) (own_hw hw 73 rfl) (own_hw hw 75 rfl) (own_hw hw 11 rfl) (by decide) (b := t) (argsL := [(.int 1)]) (rest := []) (own_sub1E l Z a0 hw z sf t b _ _ 1 _ h0 n0 hO hG (by decide) (by decide) Et Fv Fc Ab) (own_EW hw) C0.1 hS hk e1 Et (by rw [hml]; rfl) (lenOf own_pd44404 rfl) rfl (hb hby d6_9) (W := 0) (Nat.le_of_eq rfl) (by decide) ?_
  intro v2 T2 L2 X2 hS2 hZ2 hown2 C2q q2
  obtain ⟨t2, vb2, k2, rfl, N2q, K2q, Et2, Ft2, Ct2, At2⟩ := q2
  have N2 := Fr.app N1 N2q
  have C2 := C0.trans C2q
  have E_t_2 := Et.keep K2q
  have F_t_value_2 := Fv.keep K2q nin0
  have F_t_coder_2 := Fc.keep K2q nin0
  have A_b_2 := Ab.keep K2q nin0
  have O2 := hO.keep K2q all0
  have K2 := (Keep.refl h0 []).trans K2q all0
  show own_Go p e below _ T2 (mkF m 12 #[rv t] [(.ref t2)])
  exact own_retAH X2 hx hret hlk (hb hby d6_12) rfl rfl hZ2 (own_EW hw) C2 rfl hS2 (Nat.le_refl _) (by decide) (by decide) (⟨t2, vb2, _, rfl, N2, K2, Et2, Ft2, Ct2, At2⟩)
def own_r_own_min_1_1 : Room := { frames := 0, cells := 0, slots := 0, locals := 0 }
theorem own_min_1_1 (l : Launch) (Z : State) (a0 : Array Value) (hw : own_W a0 Z)  (h0 : Heap) (n0 : Nat)  :
    own_Met l Z (⟨"java/lang/Math", "min", "(II)I"⟩ : MethodName) jdk_29_method_69_code 2 (some .int) own_r_own_min_1_1 #[(.int 1), (.int 1)] h0 (own_Qv (some (.int (1))) h0 n0) := by
  refine own_body (by decide +kernel) ?_
  intro p e s m below meth c T0 X0 hx hZ hby hml hown hnm hret hlk e0
  have N0 := Fr.nil n0
  refine own_cast (own_frame (L := [iv 1, iv 1]) (ls := #[iv 1, iv 1]) rfl rfl) ?_
  refine og_iloadN X0 hx (hb hby d14_0) rfl ?_
  refine og_iloadN X0 hx (hb hby d14_1) rfl ?_
  refine og_icN X0 hx (hb hby d14_2) (flt (by decide)).2.2.1 ?_
  refine og_iloadN X0 hx (hb hby d14_5) rfl ?_
  refine og_goto X0 hx 10 (hb hby d14_6) (by decide) (by decide) ?_
  exact own_retI X0 hx hret hlk (hb hby d14_10) rfl (by simp) (by decide) (by decide) (⟨rfl, N0, e0⟩)
theorem own_lia_2_m1 (l : Launch) (Z : State) (a0 : Array Value) (hw : own_W a0 Z) (b : Addr) (kb : ClassId) (dv : Value) (c0 c1 : Int32) (h0 : Heap) (n0 : Nat) (hc0 : ¬ c0 < 0 ∧ ¬ (255 : Int32) < c0) (m0 : ¬ c0 = 47) (hc1 : ¬ c1 < 0 ∧ ¬ (255 : Int32) < c1) (m1 : ¬ c1 = 47) (Ab : Arv Z h0 b kb .byte 2 [(.int c0.toInt8.toInt32), (.int c1.toInt8.toInt32)] dv) :
    own_Met l Z (⟨"java/lang/StringLatin1", "lastIndexOf", "([BII)I"⟩ : MethodName) jdk_43_method_27_code 4 (some .int) own_r_lia #[(.ref b), (.int 47), (.int 1)] h0 (own_Qv (some (.int (-1))) h0 n0) := by
  refine own_body (by decide +kernel) ?_
  intro p e s m below meth c T0 X0 hx hZ hby hml hown hnm hret hlk e0
  have N0 := Fr.nil n0
  refine own_cast (own_frame (L := [rv b, iv 47, iv 1]) (ls := #[rv b, iv 47, iv 1, .unset]) rfl rfl) ?_
  refine og_iloadN X0 hx (hb hby d12_0) rfl ?_
  refine own_callS X0 hx hZ hown (own_hw hw 64 rfl) (own_hw hw 65 rfl) (own_hw hw 62 rfl) (own_hw hw 66 rfl) (by decide) (argsL := [(.int 47)]) (rest := []) (own_ce47 l Z a0 hw h0 n0) e0 (by rw [hml]; rfl) (lenOf own_pd97859 rfl) rfl (hb hby d12_1) (W := 0) (Nat.le_of_eq rfl) (by decide) ?_
  intro v1 T1 L1 X1 q1
  obtain ⟨rfl, N1q, e1⟩ := q1
  have N1 := Fr.app N0 N1q
  show own_Go p e below _ T1 (mkF m 4 #[rv b, iv 47, iv 1, .unset] [(.int 1)])
  refine og_ifY X1 hx 9 (hb hby d12_4) (feq (by decide)).2 (by decide) (by decide) ?_
  refine og_iloadN X1 hx (hb hby d12_9) rfl ?_
  refine og_aloadN X1 hx (hb hby d12_10) rfl rfl ?_
  refine own_len X1 hx hZ e1 Ab (hb hby d12_11) ?_
  show own_Go p e below _ T1 (mkF m 12 #[rv b, iv 47, iv 1, .unset] [(.int 2), (.int 1)])
  refine og_iconst X1 hx (hb hby d12_12) ?_
  refine og_isub X1 hx (hb hby d12_13) ?_
  show own_Go p e below _ T1 (mkF m 14 #[rv b, iv 47, iv 1, .unset] [(.int 1), (.int 1)])
  refine own_callS X1 hx hZ hown (own_hw hw 67 rfl) (own_hw hw 68 rfl) (own_hw hw 69 rfl) (own_hw hw 70 rfl) (by decide) (argsL := [(.int 1), (.int 1)]) (rest := []) (own_min_1_1 l Z a0 hw h0 n0) e1 (by rw [hml]; rfl) (lenOf own_pd23903 rfl) rfl (hb hby d12_14) (W := 0) (Nat.le_of_eq rfl) (by decide) ?_
  intro v2 T2 L2 X2 q2
  obtain ⟨rfl, N2q, e2⟩ := q2
  have N2 := Fr.app N1 N2q
  show own_Go p e below _ T2 (mkF m 17 #[rv b, iv 47, iv 1, .unset] [(.int 1)])
  refine og_istoreN X2 hx #[rv b, iv 47, iv 1, iv 1] (hb hby d12_17) rfl ?_
  refine og_iloadN X2 hx (hb hby d12_18) rfl ?_
  refine og_ifN X2 hx (hb hby d12_19) (flt (by decide)).1 ?_
  refine og_aloadN X2 hx (hb hby d12_22) rfl rfl ?_
  refine og_iloadN X2 hx (hb hby d12_23) rfl ?_
  refine own_ldB X2 hx hZ e2 Ab ⟨by decide, by decide⟩ rfl (hb hby d12_24) ?_
  show own_Go p e below _ T2 (mkF m 25 #[rv b, iv 47, iv 1, iv 1] [(.int c1.toInt8.toInt32)])
  refine og_iloadN X2 hx (hb hby d12_25) rfl ?_
  refine own_go (fun t k => XS.i2b X2.here hx rfl (hb hby d12_26) rfl k) ?_
  show own_Go p e below _ T2 (mkF m 27 #[rv b, iv 47, iv 1, iv 1] [(.int 47), (.int c1.toInt8.toInt32)])
  refine og_icY X2 hx 32 (hb hby d12_27) (feq (fun q => m1 (own_b47 _ hc1 q))).2 (by decide) (by decide) ?_
  refine own_go (fun t k => XS.iinc X2.here hx rfl (hb hby d12_32) rfl (l' := #[rv b, iv 47, iv 1, iv 0]) rfl k) ?_
  show own_Go p e below _ T2 (mkF m 35 #[rv b, iv 47, iv 1, iv 0] [])
  refine og_goto X2 hx 18 (hb hby d12_35) (by decide) (by decide) ?_
  refine og_iloadN X2 hx (hb hby d12_18) rfl ?_
  refine og_ifN X2 hx (hb hby d12_19) (flt (by decide)).1 ?_
  refine og_aloadN X2 hx (hb hby d12_22) rfl rfl ?_
  refine og_iloadN X2 hx (hb hby d12_23) rfl ?_
  refine own_ldB X2 hx hZ e2 Ab ⟨by decide, by decide⟩ rfl (hb hby d12_24) ?_
  show own_Go p e below _ T2 (mkF m 25 #[rv b, iv 47, iv 1, iv 0] [(.int c0.toInt8.toInt32)])
  refine og_iloadN X2 hx (hb hby d12_25) rfl ?_
  refine own_go (fun t k => XS.i2b X2.here hx rfl (hb hby d12_26) rfl k) ?_
  show own_Go p e below _ T2 (mkF m 27 #[rv b, iv 47, iv 1, iv 0] [(.int 47), (.int c0.toInt8.toInt32)])
  refine og_icY X2 hx 32 (hb hby d12_27) (feq (fun q => m0 (own_b47 _ hc0 q))).2 (by decide) (by decide) ?_
  refine own_go (fun t k => XS.iinc X2.here hx rfl (hb hby d12_32) rfl (l' := #[rv b, iv 47, iv 1, iv (-1)]) rfl k) ?_
  show own_Go p e below _ T2 (mkF m 35 #[rv b, iv 47, iv 1, iv (-1)] [])
  refine og_goto X2 hx 18 (hb hby d12_35) (by decide) (by decide) ?_
  refine og_iloadN X2 hx (hb hby d12_18) rfl ?_
  refine og_ifY X2 hx 38 (hb hby d12_19) (tlt (by decide)).1 (by decide) (by decide) ?_
  refine og_iconst X2 hx (hb hby d12_38) ?_
  exact own_retI X2 hx hret hlk (hb hby d12_39) rfl (by simp) (by decide) (by decide) (⟨rfl, N2, e2⟩)
def own_r_own_lib_2 : Room := { frames := 2, cells := 0, slots := 0, locals := 28 }
theorem own_lib_2 (l : Launch) (Z : State) (a0 : Array Value) (hw : own_W a0 Z) (z : Int32) (sf : Value) (t b : Addr) (kb : ClassId) (dv : Value) (c0 c1 : Int32) (r : Int32) (h0 : Heap) (n0 : Nat) (hO : Old Z n0 h0) (hG : own_Gs Z z sf) (inn : own_Met l Z (⟨"java/lang/StringLatin1", "lastIndexOf", "([BII)I"⟩ : MethodName) jdk_43_method_27_code 4 (some .int) own_r_lia #[.ref b, .int 47, .int 1] h0 (own_Qv (some (.int r)) h0 n0)) (Et : own_E Z h0 t) (Fv : own_V Z h0 t b) (Fc : own_C Z h0 t) (Ab : Arv Z h0 b kb .byte 2 [(.int c0.toInt8.toInt32), (.int c1.toInt8.toInt32)] dv) :
    own_Met l Z (⟨"java/lang/String", "lastIndexOf", "(II)I"⟩ : MethodName) jdk_42_method_83_code 3 (some .int) own_r_own_lib_2 #[(.ref t), (.int 47), (.int 1)] h0 (own_Qv (some (.int r)) h0 n0) := by
  refine own_body (by decide +kernel) ?_
  intro p e s m below meth c T0 X0 hx hZ hby hml hown hnm hret hlk e0
  have N0 := Fr.nil n0
  refine own_cast (own_frame (L := [rv t, iv 47, iv 1]) (ls := #[rv t, iv 47, iv 1]) rfl rfl) ?_
  obtain ⟨SC, hz, SF, rf⟩ := id hG
  refine og_aloadN X0 hx (hb hby d10_0) rfl rfl ?_
  refine own_callV X0 hx hZ hown (own_hw hw 55 rfl) (own_hw hw 56 rfl) (notFace_of_selects (args := #[]) (mvT hZ (own_hw hw 58 rfl))) (own_hw hw 58 rfl) (own_hw hw 57 rfl) (own_hw hw 59 rfl) (own_hw hw 11 rfl) (by decide) (b := t) (argsL := []) (rest := []) (own_isl1 l Z a0 hw z sf t h0 n0 hO hG Fc) e0 Et (by rw [hml]; rfl) (lenOf own_pd61835 rfl) rfl (hb hby d10_1) (W := 0) (Nat.le_of_eq rfl) (by decide) ?_
  intro v1 T1 L1 X1 q1
  obtain ⟨rfl, N1q, e1⟩ := q1
  have N1 := Fr.app N0 N1q
  show own_Go p e below _ T1 (mkF m 4 #[rv t, iv 47, iv 1] [(.int (1 : Int32))])
  refine og_ifN X1 hx (hb hby d10_4) (feq (by decide)).1 ?_
  refine og_aloadN X1 hx (hb hby d10_7) rfl rfl ?_
  refine og_getF X1 hx hZ hown (own_hw hw 28 rfl) Via.refl e1 Fv (hb hby d10_8) ?_
  intro T2 X2 e2
  refine og_iloadN X2 hx (hb hby d10_11) rfl ?_
  refine og_iloadN X2 hx (hb hby d10_12) rfl ?_
  refine own_callS X2 hx hZ hown (own_hw hw 60 rfl) (own_hw hw 61 rfl) (own_hw hw 62 rfl) (own_hw hw 63 rfl) (by decide) (argsL := [(.ref b), (.int 47), (.int 1)]) (rest := []) inn e2 (by rw [hml]; rfl) (lenOf own_pd83039 rfl) rfl (hb hby d10_13) (W := 0) (Nat.le_of_eq rfl) (by decide) ?_
  intro v3 T3 L3 X3 q3
  obtain ⟨rfl, N3q, e3⟩ := q3
  have N3 := Fr.app N1 N3q
  show own_Go p e below _ T3 (mkF m 16 #[rv t, iv 47, iv 1] [(.int r)])
  refine og_goto X3 hx 28 (hb hby d10_16) (by decide) (by decide) ?_
  exact own_retI X3 hx hret hlk (hb hby d10_28) rfl (by simp) (by decide) (by decide) (⟨rfl, N3, e3⟩)
def own_r_own_lic_2 : Room := { frames := 3, cells := 0, slots := 0, locals := 42 }
theorem own_lic_2 (l : Launch) (Z : State) (a0 : Array Value) (hw : own_W a0 Z) (z : Int32) (sf : Value) (t b : Addr) (kb : ClassId) (dv : Value) (c0 c1 : Int32) (r : Int32) (h0 : Heap) (n0 : Nat) (hO : Old Z n0 h0) (hG : own_Gs Z z sf) (inn : own_Met l Z (⟨"java/lang/StringLatin1", "lastIndexOf", "([BII)I"⟩ : MethodName) jdk_43_method_27_code 4 (some .int) own_r_lia #[.ref b, .int 47, .int 1] h0 (own_Qv (some (.int r)) h0 n0)) (Et : own_E Z h0 t) (Fv : own_V Z h0 t b) (Fc : own_C Z h0 t) (Ab : Arv Z h0 b kb .byte 2 [(.int c0.toInt8.toInt32), (.int c1.toInt8.toInt32)] dv) :
    own_Met l Z (⟨"java/lang/String", "lastIndexOf", "(I)I"⟩ : MethodName) jdk_42_method_82_code 2 (some .int) own_r_own_lic_2 #[(.ref t), (.int 47)] h0 (own_Qv (some (.int r)) h0 n0) := by
  refine own_body (by decide +kernel) ?_
  intro p e s m below meth c T0 X0 hx hZ hby hml hown hnm hret hlk e0
  have N0 := Fr.nil n0
  refine own_cast (own_frame (L := [rv t, iv 47]) (ls := #[rv t, iv 47]) rfl rfl) ?_
  obtain ⟨SC, hz, SF, rf⟩ := id hG
  refine og_aloadN X0 hx (hb hby d7_0) rfl rfl ?_
  refine og_iloadN X0 hx (hb hby d7_1) rfl ?_
  refine og_aloadN X0 hx (hb hby d7_2) rfl rfl ?_
  refine own_callV X0 hx hZ hown (own_hw hw 39 rfl) (own_hw hw 40 rfl) (notFace_of_selects (args := #[]) (mvT hZ (own_hw hw 42 rfl))) (own_hw hw 42 rfl) (own_hw hw 41 rfl) (own_hw hw 43 rfl) (own_hw hw 11 rfl) (by decide) (b := t) (argsL := []) (rest := [(.int 47), (.ref t)]) (own_slen l Z a0 hw z sf t b _ _ 2 _ h0 n0 hO hG Et Fv Fc Ab) e0 Et (by rw [hml]; rfl) (lenOf own_pd13941 rfl) rfl (hb hby d7_3) (W := 2) (Nat.le_of_eq rfl) (by decide) ?_
  intro v1 T1 L1 X1 q1
  obtain ⟨rfl, N1q, e1⟩ := q1
  have N1 := Fr.app N0 N1q
  show own_Go p e below _ T1 (mkF m 6 #[rv t, iv 47] [(.int 2), (.int 47), (.ref t)])
  refine og_iconst X1 hx (hb hby d7_6) ?_
  refine og_isub X1 hx (hb hby d7_7) ?_
  show own_Go p e below _ T1 (mkF m 8 #[rv t, iv 47] [(.int 1), (.int 47), (.ref t)])
  refine own_callV X1 hx hZ hown (own_hw hw 50 rfl) (own_hw hw 51 rfl) (notFace_of_selects (args := #[]) (mvT hZ (own_hw hw 53 rfl))) (own_hw hw 53 rfl) (own_hw hw 52 rfl) (own_hw hw 54 rfl) (own_hw hw 11 rfl) (by decide) (b := t) (argsL := [(.int 47), (.int 1)]) (rest := []) (own_lib_2 l Z a0 hw z sf t b _ _ c0 c1 r h0 n0 hO hG inn Et Fv Fc Ab) e1 Et (by rw [hml]; rfl) (lenOf own_pd23903 rfl) rfl (hb hby d7_8) (W := 0) (Nat.le_of_eq rfl) (by decide) ?_
  intro v2 T2 L2 X2 q2
  obtain ⟨rfl, N2q, e2⟩ := q2
  have N2 := Fr.app N1 N2q
  show own_Go p e below _ T2 (mkF m 11 #[rv t, iv 47] [(.int r)])
  exact own_retI X2 hx hret hlk (hb hby d7_11) rfl (by simp) (by decide) (by decide) (⟨rfl, N2, e2⟩)
def own_r_own_po_2_m1 : Room := { frames := 4, cells := 0, slots := 0, locals := 58 }
theorem own_po_2_m1 (l : Launch) (Z : State) (a0 : Array Value) (hw : own_W a0 Z) (z : Int32) (sf : Value) (t b : Addr) (kb : ClassId) (dv : Value) (c0 c1 : Int32) (h0 : Heap) (n0 : Nat) (hO : Old Z n0 h0) (hG : own_Gs Z z sf) (hc0 : ¬ c0 < 0 ∧ ¬ (255 : Int32) < c0) (m0 : ¬ c0 = 47) (hc1 : ¬ c1 < 0 ∧ ¬ (255 : Int32) < c1) (m1 : ¬ c1 = 47) (Et : own_E Z h0 t) (Fv : own_V Z h0 t b) (Fc : own_C Z h0 t) (Ab : Arv Z h0 b kb .byte 2 [(.int c0.toInt8.toInt32), (.int c1.toInt8.toInt32)] dv) :
    own_Met l Z (⟨"com/example/svazek/svazek/PackageFolder", "nameOf", "(Ljava/lang/String;)Ljava/lang/String;"⟩ : MethodName) prog_41_method_8_code 1 (some (.object "java/lang/String")) own_r_own_po_2_m1 #[(.ref t)] h0 (own_Qv (some (.ref t)) h0 n0) := by
  refine own_body (by decide +kernel) ?_
  intro p e s m below meth c T0 X0 hx hZ hby hml hown hnm hret hlk e0
  have N0 := Fr.nil n0
  refine own_cast (own_frame (L := [rv t]) (ls := #[rv t]) rfl rfl) ?_
  obtain ⟨SC, hz, SF, rf⟩ := id hG
  refine og_aloadN X0 hx (hb hby d6_0) rfl rfl ?_
  refine og_aloadN X0 hx (hb hby d6_1) rfl rfl ?_
  refine og_bipush X0 hx (hb hby d6_2) ?_
  refine own_callV X0 hx hZ hown (own_hw hw 34 rfl) (own_hw hw 35 rfl) (notFace_of_selects (args := #[]) (mvT hZ (own_hw hw 37 rfl))) (own_hw hw 37 rfl) (own_hw hw 36 rfl) (own_hw hw 38 rfl) (own_hw hw 11 rfl) (by decide) (b := t) (argsL := [(.int 47)]) (rest := [(.ref t)]) (own_lic_2 l Z a0 hw z sf t b _ _ c0 c1 (-1) h0 n0 hO hG (own_lia_2_m1 l Z a0 hw b _ _ c0 c1 h0 n0 hc0 m0 hc1 m1 Ab) Et Fv Fc Ab) e0 Et (by rw [hml]; rfl) (lenOf own_pd49053 rfl) rfl (hb hby d6_4) (W := 1) (Nat.le_of_eq rfl) (by decide) ?_
  intro v1 T1 L1 X1 q1
  obtain ⟨rfl, N1q, e1⟩ := q1
  have N1 := Fr.app N0 N1q
  show own_Go p e below _ T1 (mkF m 7 #[rv t] [(.int (-1)), (.ref t)])
  refine og_iconst X1 hx (hb hby d6_7) ?_
  refine og_iadd X1 hx (hb hby d6_8) ?_
  show own_Go p e below _ T1 (mkF m 9 #[rv t] [(.int 0), (.ref t)])
  refine own_callV X1 hx hZ hown (own_hw hw 71 rfl) (own_hw hw 72 rfl) (notFace_of_selects (args := #[]) (mvT hZ (own_hw hw 74 rfl))) (own_hw hw 74 rfl) (own_hw hw 73 rfl) (own_hw hw 75 rfl) (own_hw hw 11 rfl) (by decide) (b := t) (argsL := [(.int 0)]) (rest := []) (own_sub1Sz l Z a0 hw z sf t b _ _ 2 _ h0 n0 hO hG (by decide) Et Fv Fc Ab) e1 Et (by rw [hml]; rfl) (lenOf own_pd44404 rfl) rfl (hb hby d6_9) (W := 0) (Nat.le_of_eq rfl) (by decide) ?_
  intro v2 T2 L2 X2 q2
  obtain ⟨rfl, N2q, e2⟩ := q2
  have N2 := Fr.app N1 N2q
  show own_Go p e below _ T2 (mkF m 12 #[rv t] [(.ref t)])
  exact own_retA X2 hx hret hlk (hb hby d6_12) rfl rfl (by decide) (by decide) (⟨rfl, N2, e2⟩)
def own_Qs1 (Z : State) (h0 : Heap) (n0 : Nat) (v0 : Value) (v : Option Value) (h : Heap) (L : List Loc) : Prop := ∃ (t b : Addr) (k : ClassId), v = some (.ref t) ∧ Fr n0 L ∧ Keep h0 h [] ∧ h0.size ≤ t ∧ n0 ≤ t ∧ h0.size ≤ b ∧ n0 ≤ b ∧ t ≠ b ∧ own_E Z h t ∧ own_V Z h t b ∧ own_C Z h t ∧ Arv Z h b k .byte 1 [v0] (.int (0 : Int32))
theorem d30_0 : decode jdk_65_method_131_code 0 = .ok (.iload_n 1, 1) := by decide +kernel
theorem d30_1 : decode jdk_65_method_131_code 1 = .ok (.iload_n 0, 1) := by decide +kernel
theorem d30_2 : decode jdk_65_method_131_code 2 = .ok (.if_icmp .ge 35, 3) := by decide +kernel
theorem d30_37 : decode jdk_65_method_131_code 37 = .ok (.return_, 1) := by decide +kernel
def own_r_own_ckl_1_2 : Room := { frames := 0, cells := 0, slots := 0, locals := 0 }
theorem own_ckl_1_2 (l : Launch) (Z : State) (a0 : Array Value) (hw : own_W a0 Z)  (h0 : Heap) (n0 : Nat)  :
    own_Met l Z (⟨"java/util/Arrays", "checkLength", "(II)V"⟩ : MethodName) jdk_65_method_131_code 2 none own_r_own_ckl_1_2 #[(.int 1), (.int 2)] h0 (own_Qv none h0 n0) := by
  refine own_body (by decide +kernel) ?_
  intro p e s m below meth c T0 X0 hx hZ hby hml hown hnm hret hlk e0
  have N0 := Fr.nil n0
  refine own_cast (own_frame (L := [iv 1, iv 2]) (ls := #[iv 1, iv 2]) rfl rfl) ?_
  refine og_iloadN X0 hx (hb hby d30_0) rfl ?_
  refine og_iloadN X0 hx (hb hby d30_1) rfl ?_
  refine og_icY X0 hx 37 (hb hby d30_2) (flt (by decide)).2.1 (by decide) (by decide) ?_
  exact own_retV X0 hx hret hlk (hb hby d30_37) (by decide) (by decide) (⟨rfl, N0, e0⟩)
def own_Qr_1_2_2 (Z : State) (h0 : Heap) (n0 : Nat) (v0 v1 : Value) (v : Option Value) (h : Heap) (L : List Loc) : Prop := ∃ (b : Addr) (k : ClassId), v = some (.ref b) ∧ Fr n0 L ∧ Keep h0 h [] ∧ h0.size ≤ b ∧ n0 ≤ b ∧ Arv Z h b k .byte 1 [v1] (.int (0 : Int32))
theorem d29_0 : decode jdk_65_method_133_code 0 = .ok (.iload_n 1, 1) := by decide +kernel
theorem d29_1 : decode jdk_65_method_133_code 1 = .ok (.iload_n 2, 1) := by decide +kernel
theorem d29_2 : decode jdk_65_method_133_code 2 = .ok (.invokestatic 343, 3) := by decide +kernel
theorem d29_5 : decode jdk_65_method_133_code 5 = .ok (.iload_n 2, 1) := by decide +kernel
theorem d29_6 : decode jdk_65_method_133_code 6 = .ok (.iload_n 1, 1) := by decide +kernel
theorem d29_7 : decode jdk_65_method_133_code 7 = .ok (.isub, 1) := by decide +kernel
theorem d29_8 : decode jdk_65_method_133_code 8 = .ok (.istore_n 3, 1) := by decide +kernel
theorem d29_9 : decode jdk_65_method_133_code 9 = .ok (.iload_n 3, 1) := by decide +kernel
theorem d29_10 : decode jdk_65_method_133_code 10 = .ok (.newarray .byte, 2) := by decide +kernel
theorem d29_12 : decode jdk_65_method_133_code 12 = .ok (.astore 4, 2) := by decide +kernel
theorem d29_14 : decode jdk_65_method_133_code 14 = .ok (.aload_n 0, 1) := by decide +kernel
theorem d29_15 : decode jdk_65_method_133_code 15 = .ok (.iload_n 1, 1) := by decide +kernel
theorem d29_16 : decode jdk_65_method_133_code 16 = .ok (.aload 4, 2) := by decide +kernel
theorem d29_18 : decode jdk_65_method_133_code 18 = .ok (.iconst 0, 1) := by decide +kernel
theorem d29_19 : decode jdk_65_method_133_code 19 = .ok (.aload_n 0, 1) := by decide +kernel
theorem d29_20 : decode jdk_65_method_133_code 20 = .ok (.arraylength, 1) := by decide +kernel
theorem d29_21 : decode jdk_65_method_133_code 21 = .ok (.iload_n 1, 1) := by decide +kernel
theorem d29_22 : decode jdk_65_method_133_code 22 = .ok (.isub, 1) := by decide +kernel
theorem d29_23 : decode jdk_65_method_133_code 23 = .ok (.iload_n 3, 1) := by decide +kernel
theorem d29_24 : decode jdk_65_method_133_code 24 = .ok (.invokestatic 304, 3) := by decide +kernel
theorem d29_27 : decode jdk_65_method_133_code 27 = .ok (.invokestatic 150, 3) := by decide +kernel
theorem d29_30 : decode jdk_65_method_133_code 30 = .ok (.aload 4, 2) := by decide +kernel
theorem d29_32 : decode jdk_65_method_133_code 32 = .ok (.areturn, 1) := by decide +kernel
theorem own_pd97226 : parseMethodDescriptor "(II)V" = some ⟨[.int, .int], none⟩ := by decide +kernel
def own_r_own_crb_1_2_2 : Room := { frames := 1, cells := 1, slots := 1, locals := 18 }
theorem own_crb_1_2_2 (l : Launch) (Z : State) (a0 : Array Value) (hw : own_W a0 Z) (b : Addr) (kb : ClassId) (dv : Value) (v0 v1 : Value) (h0 : Heap) (n0 : Nat) (hO : Old Z n0 h0) (Ab : Arv Z h0 b kb .byte 2 [v0, v1] dv) :
    own_Met l Z (⟨"java/util/Arrays", "copyOfRangeByte", "([BII)[B"⟩ : MethodName) jdk_65_method_133_code 5 (some (.array .byte)) own_r_own_crb_1_2_2 #[(.ref b), (.int 1), (.int 2)] h0 (own_Qr_1_2_2 Z h0 n0 v0 v1) := by
  refine own_body (by decide +kernel) ?_
  intro p e s m below meth c T0 X0 hx hZ hby hml hown hnm hret hlk e0
  have N0 := Fr.nil n0
  refine own_cast (own_frame (L := [rv b, iv 1, iv 2]) (ls := #[rv b, iv 1, iv 2, .unset, .unset]) rfl rfl) ?_
  refine og_iloadN X0 hx (hb hby d29_0) rfl ?_
  refine og_iloadN X0 hx (hb hby d29_1) rfl ?_
  refine own_callS X0 hx hZ hown (own_hw hw 129 rfl) (own_hw hw 130 rfl) (own_hw hw 124 rfl) (own_hw hw 131 rfl) (by decide) (argsL := [(.int 1), (.int 2)]) (rest := []) (own_ckl_1_2 l Z a0 hw h0 n0) e0 (by rw [hml]; rfl) (lenOf own_pd97226 rfl) rfl (hb hby d29_2) (W := 0) (Nat.le_of_eq rfl) (by decide) ?_
  intro v1 T1 L1 X1 q1
  obtain ⟨rfl, N1q, e1⟩ := q1
  have N1 := Fr.app N0 N1q
  show own_Go p e below _ T1 (mkF m 5 #[rv b, iv 1, iv 2, .unset, .unset] [])
  refine og_iloadN X1 hx (hb hby d29_5) rfl ?_
  refine og_iloadN X1 hx (hb hby d29_6) rfl ?_
  refine og_isub X1 hx (hb hby d29_7) ?_
  refine og_istoreN X1 hx #[rv b, iv 1, iv 2, iv 1, .unset] (hb hby d29_8) rfl ?_
  refine og_iloadN X1 hx (hb hby d29_9) rfl ?_
  refine own_newP X1 hx hZ (own_hw hw 23 rfl) e1 (hb hby d29_10) (by decide) 1 (by decide) (by decide) (by decide) (by decide) ?_
  intro T2 h2 k2 b2 g2 X2 e2 E2 A2
  have ne_b_b2 : b ≠ b2 := Nat.ne_of_lt (Nat.lt_of_lt_of_eq Ab.lt g2.symm)
  have ge_b2 : n0 ≤ b2 := Nat.le_trans (own_oldle hO) (Nat.le_of_eq g2.symm)
  have sz_b2 : h0.size ≤ b2 := Nat.le_trans (Keep.refl h0 []).1 (Nat.le_of_eq g2.symm)
  have A_b_2 := Ab.ext E2
  have O2 := hO.ext E2
  have K2 := (Keep.refl h0 []).ext E2
  have A_b2_2 : Arv Z h2 b2 k2 .byte 1 [(.int (0 : Int32))] (.int (0 : Int32)) := A2
  show own_Go p e below _ T2 (mkF m 12 #[rv b, iv 1, iv 2, iv 1, .unset] [(.ref b2)])
  refine og_astore X2 hx #[rv b, iv 1, iv 2, iv 1, rv b2] (hb hby d29_12) rfl rfl ?_
  refine og_aloadN X2 hx (hb hby d29_14) rfl rfl ?_
  refine og_iloadN X2 hx (hb hby d29_15) rfl ?_
  refine og_aload X2 hx (hb hby d29_16) rfl rfl ?_
  refine og_iconst X2 hx (hb hby d29_18) ?_
  refine og_aloadN X2 hx (hb hby d29_19) rfl rfl ?_
  refine own_len X2 hx hZ e2 A_b_2 (hb hby d29_20) ?_
  show own_Go p e below _ T2 (mkF m 21 #[rv b, iv 1, iv 2, iv 1, rv b2] [(.int 2), (.int 0), (.ref b2), (.int 1), (.ref b)])
  refine og_iloadN X2 hx (hb hby d29_21) rfl ?_
  refine og_isub X2 hx (hb hby d29_22) ?_
  refine og_iloadN X2 hx (hb hby d29_23) rfl ?_
  refine own_callS X2 hx hZ hown (own_hw hw 132 rfl) (own_hw hw 68 rfl) (own_hw hw 69 rfl) (own_hw hw 70 rfl) (by decide) (argsL := [(.int 1), (.int 1)]) (rest := [(.int 0), (.ref b2), (.int 1), (.ref b)]) (own_min_1_1 l Z a0 hw h2 n0) e2 (by rw [hml]; rfl) (lenOf own_pd23903 rfl) rfl (hb hby d29_24) (W := 4) (Nat.le_of_eq rfl) (by decide) ?_
  intro v3 T3 L3 X3 q3
  obtain ⟨rfl, N3q, e3⟩ := q3
  have N3 := Fr.app N1 N3q
  show own_Go p e below _ T3 (mkF m 27 #[rv b, iv 1, iv 2, iv 1, rv b2] [(.int 1), (.int 0), (.ref b2), (.int 1), (.ref b)])
  obtain ⟨T4, h4, L4, X4, e4, N4, K4q, A4, st4⟩ := cpA X3 hx hZ hown (own_hw hw 133 rfl) (own_hw hw 136 rfl) (own_hw hw 134 rfl) (own_hw hw 135 rfl) e3 A_b_2 A_b2_2 (us := [v1]) (Or.inl ⟨rfl, rfl⟩) (by decide) (by decide) (by decide) (by decide) (by decide) rfl (by decide) N3 ge_b2 (g := (mkF m 27 #[rv b, iv 1, iv 2, iv 1, rv b2] [(.int 1), (.int 0), (.ref b2), (.int 1), (.ref b)])) rfl (by rw [hml]; rfl) rfl (hb hby d29_27) (by decide) (W := 0) (by show 2 * 0 + _ ≤ _; exact Nat.le_of_eq rfl) (by decide)
  refine own_go st4 ?_
  have A_b_4 := A_b_2.keep K4q (ninS ne_b_b2 nin0)
  have O4 := O2.keep K4q (allS ge_b2 all0)
  have K4 := K2.trans K4q (allS (Or.inr sz_b2) all0)
  have A_b2_4 : Arv Z h4 b2 k2 .byte 1 [v1] (.int (0 : Int32)) := A4
  show own_Go p e below _ T4 (mkF m 30 #[rv b, iv 1, iv 2, iv 1, rv b2] [])
  refine og_aload X4 hx (hb hby d29_30) rfl rfl ?_
  exact own_retA X4 hx hret hlk (hb hby d29_32) rfl rfl (by decide) (by decide) (by rw [e4]; exact ⟨b2, _, rfl, N4, K4, sz_b2, ge_b2, A_b2_4⟩)
theorem d28_0 : decode jdk_65_method_132_code 0 = .ok (.iload_n 1, 1) := by decide +kernel
theorem d28_1 : decode jdk_65_method_132_code 1 = .ok (.ifCond .ne 9, 3) := by decide +kernel
theorem d28_10 : decode jdk_65_method_132_code 10 = .ok (.aload_n 0, 1) := by decide +kernel
theorem d28_11 : decode jdk_65_method_132_code 11 = .ok (.iload_n 1, 1) := by decide +kernel
theorem d28_12 : decode jdk_65_method_132_code 12 = .ok (.iload_n 2, 1) := by decide +kernel
theorem d28_13 : decode jdk_65_method_132_code 13 = .ok (.invokestatic 339, 3) := by decide +kernel
theorem d28_16 : decode jdk_65_method_132_code 16 = .ok (.areturn, 1) := by decide +kernel
theorem own_pd77155 : parseMethodDescriptor "([BII)[B" = some ⟨[(.array .byte), .int, .int], some (.array .byte)⟩ := by decide +kernel
def own_r_own_cr_1_2_2 : Room := { frames := 2, cells := 1, slots := 1, locals := 34 }
theorem own_cr_1_2_2 (l : Launch) (Z : State) (a0 : Array Value) (hw : own_W a0 Z) (b : Addr) (kb : ClassId) (dv : Value) (v0 v1 : Value) (h0 : Heap) (n0 : Nat) (hO : Old Z n0 h0) (Ab : Arv Z h0 b kb .byte 2 [v0, v1] dv) :
    own_Met l Z (⟨"java/util/Arrays", "copyOfRange", "([BII)[B"⟩ : MethodName) jdk_65_method_132_code 3 (some (.array .byte)) own_r_own_cr_1_2_2 #[(.ref b), (.int 1), (.int 2)] h0 (own_Qr_1_2_2 Z h0 n0 v0 v1) := by
  refine own_body (by decide +kernel) ?_
  intro p e s m below meth c T0 X0 hx hZ hby hml hown hnm hret hlk e0
  have N0 := Fr.nil n0
  refine own_cast (own_frame (L := [rv b, iv 1, iv 2]) (ls := #[rv b, iv 1, iv 2]) rfl rfl) ?_
  refine og_iloadN X0 hx (hb hby d28_0) rfl ?_
  refine og_ifY X0 hx 10 (hb hby d28_1) (feq (by decide)).2 (by decide) (by decide) ?_
  refine og_aloadN X0 hx (hb hby d28_10) rfl rfl ?_
  refine og_iloadN X0 hx (hb hby d28_11) rfl ?_
  refine og_iloadN X0 hx (hb hby d28_12) rfl ?_
  refine own_callS X0 hx hZ hown (own_hw hw 126 rfl) (own_hw hw 127 rfl) (own_hw hw 124 rfl) (own_hw hw 128 rfl) (by decide) (argsL := [(.ref b), (.int 1), (.int 2)]) (rest := []) (own_crb_1_2_2 l Z a0 hw b _ _ v0 v1 h0 n0 hO Ab) e0 (by rw [hml]; rfl) (lenOf own_pd77155 rfl) rfl (hb hby d28_13) (W := 0) (Nat.le_of_eq rfl) (by decide) ?_
  intro v1 T1 L1 X1 q1
  obtain ⟨b1, k1, rfl, N1q, K1q, z1q, g1q, A1q⟩ := q1
  have N1 := Fr.app N0 N1q
  have ne_b_b1 : b ≠ b1 := Nat.ne_of_lt (Nat.lt_of_lt_of_le Ab.lt z1q)
  have sz_b1 : h0.size ≤ b1 := Nat.le_trans (Keep.refl h0 []).1 z1q
  have A_b_1 := Ab.keep K1q nin0
  have O1 := hO.keep K1q all0
  have K1 := (Keep.refl h0 []).trans K1q all0
  show own_Go p e below _ T1 (mkF m 16 #[rv b, iv 1, iv 2] [(.ref b1)])
  exact own_retA X1 hx hret hlk (hb hby d28_16) rfl rfl (by decide) (by decide) (⟨b1, _, rfl, N1, K1, sz_b1, g1q, A1q⟩)
def own_Qi (Z : State) (a1 a2 : Addr) (h0 : Heap) (n0 : Nat) (v : Option Value) (h : Heap) (L : List Loc) : Prop := v = none ∧ Fr n0 L ∧ Keep h0 h [a1] ∧ Fld Z h a1 "java/lang/String" "value" "[B" (.ref a2) ∧ Fld Z h a1 "java/lang/String" "coder" "B" (.int (0 : Int32))
theorem d31_0 : decode jdk_42_method_151_code 0 = .ok (.aload_n 0, 1) := by decide +kernel
theorem d31_1 : decode jdk_42_method_151_code 1 = .ok (.invokespecial 1, 3) := by decide +kernel
theorem d31_4 : decode jdk_42_method_151_code 4 = .ok (.aload_n 0, 1) := by decide +kernel
theorem d31_5 : decode jdk_42_method_151_code 5 = .ok (.aload_n 1, 1) := by decide +kernel
theorem d31_6 : decode jdk_42_method_151_code 6 = .ok (.putfield 9, 3) := by decide +kernel
theorem d31_9 : decode jdk_42_method_151_code 9 = .ok (.aload_n 0, 1) := by decide +kernel
theorem d31_10 : decode jdk_42_method_151_code 10 = .ok (.iload_n 2, 1) := by decide +kernel
theorem d31_11 : decode jdk_42_method_151_code 11 = .ok (.putfield 15, 3) := by decide +kernel
theorem d31_14 : decode jdk_42_method_151_code 14 = .ok (.return_, 1) := by decide +kernel
def own_r_own_si : Room := { frames := 1, cells := 0, slots := 0, locals := 12 }
theorem own_si (l : Launch) (Z : State) (a0 : Array Value) (hw : own_W a0 Z) (a1 a2 : Addr) (u1 u2 : Value) (h0 : Heap) (n0 : Nat) (hO : Old Z n0 h0) (g1 : n0 ≤ a1) (E1 : Exa Z h0 a1 "java/lang/String") (F1 : Fld Z h0 a1 "java/lang/String" "value" "[B" u1) (F2 : Fld Z h0 a1 "java/lang/String" "coder" "B" u2) :
    own_Met l Z (⟨"java/lang/String", "<init>", "([BB)V"⟩ : MethodName) jdk_42_method_151_code 3 none own_r_own_si #[(.ref a1), (.ref a2), (.int (0 : Int32))] h0 (own_Qi Z a1 a2 h0 n0) := by
  refine own_body (by decide +kernel) ?_
  intro p e s m below meth c T0 X0 hx hZ hby hml hown hnm hret hlk e0
  have N0 := Fr.nil n0
  refine own_cast (own_frame (L := [rv a1, rv a2, iv (0 : Int32)]) (ls := #[rv a1, rv a2, iv (0 : Int32)]) rfl rfl) ?_
  refine og_aloadN X0 hx (hb hby d31_0) rfl rfl ?_
  obtain ⟨T1, X1, e1, st1⟩ := initO X0 hx hZ hown (own_hw hw 19 rfl) (own_hw hw 20 rfl) (own_hw hw 21 rfl) e0 (g := (mkF m 1 #[rv a1, rv a2, iv (0 : Int32)] [(.ref a1)])) rfl (by rw [hml]; rfl) rfl (hb hby d31_1) (by decide) (W := 0) (by show 2 * 0 + _ ≤ _; exact Nat.le_of_eq rfl) (by decide)
  refine own_go st1 ?_
  show own_Go p e below _ T1 (mkF m 4 #[rv a1, rv a2, iv (0 : Int32)] [])
  refine og_aloadN X1 hx (hb hby d31_4) rfl rfl ?_
  refine og_aloadN X1 hx (hb hby d31_5) rfl rfl ?_
  obtain ⟨T2, h2, X2, e2, W2, st2⟩ := putF X1 hx hZ hown (host := "") (Or.inl (own_hw hw 28 rfl)) Via.refl e1 F1 E1 (Or.inr ⟨(own_hw hw 24 rfl), rfl, hnm⟩) (own_hw hw 10 rfl) (ty := (.array .byte)) (by decide) rfl rfl (g := (mkF m 6 #[rv a1, rv a2, iv (0 : Int32)] [(.ref a2), (.ref a1)])) rfl rfl (hb hby d31_6)
  refine own_go st2 ?_
  have E_a1_2 := E1.wr W2
  have F_a1_coder_2 := F2.other W2 (Or.inr (slot_ne (Or.inr (own_hw hw 25 rfl)) (Or.inr (own_hw hw 24 rfl)) (by decide) (t := .byte) (t' := (.array .byte)) (by decide) (by decide)))
  have O2 := hO.wr W2 g1
  have K2 := (Keep.refl h0 [a1]).wr W2 (Or.inl (by simp))
  have N2 := Fr.snoc X2 N0 g1
  have F_a1_value_2 : Fld Z h2 a1 "java/lang/String" "value" "[B" (.ref a2) := F1.same W2
  show own_Go p e below _ T2 (mkF m 9 #[rv a1, rv a2, iv (0 : Int32)] [])
  refine og_aloadN X2 hx (hb hby d31_9) rfl rfl ?_
  refine og_iloadN X2 hx (hb hby d31_10) rfl ?_
  obtain ⟨T3, h3, X3, e3, W3, st3⟩ := putFN X2 hx hZ hown (own_hw hw 29 rfl) Via.refl e2 F_a1_coder_2 E_a1_2 (Or.inr ⟨(own_hw hw 25 rfl), rfl, hnm⟩) (own_hw hw 10 rfl) (ty := .byte) (v' := (.int (0 : Int32))) (by decide) rfl (by decide) (g := (mkF m 11 #[rv a1, rv a2, iv (0 : Int32)] [(.int (0 : Int32)), (.ref a1)])) rfl rfl (hb hby d31_11)
  refine own_go st3 ?_
  have E_a1_3 := E_a1_2.wr W3
  have F_a1_value_3 := F_a1_value_2.other W3 (Or.inr (slot_ne (Or.inr (own_hw hw 24 rfl)) (Or.inr (own_hw hw 25 rfl)) (by decide) (t := (.array .byte)) (t' := .byte) (by decide) (by decide)))
  have O3 := O2.wr W3 g1
  have K3 := K2.wr W3 (Or.inl (by simp))
  have N3 := Fr.snoc X3 N2 g1
  have F_a1_coder_3 : Fld Z h3 a1 "java/lang/String" "coder" "B" (.int (0 : Int32)) := F_a1_coder_2.same W3
  show own_Go p e below _ T3 (mkF m 14 #[rv a1, rv a2, iv (0 : Int32)] [])
  exact own_retV X3 hx hret hlk (hb hby d31_14) (by decide) (by decide) (by rw [e3]; exact ⟨rfl, N3, K3, F_a1_value_3, F_a1_coder_3⟩)
theorem d23_7 : decode jdk_43_method_47_code 7 = .ok (.new 1, 3) := by decide +kernel
theorem d23_10 : decode jdk_43_method_47_code 10 = .ok (.dup, 1) := by decide +kernel
theorem d23_11 : decode jdk_43_method_47_code 11 = .ok (.aload_n 0, 1) := by decide +kernel
theorem d23_12 : decode jdk_43_method_47_code 12 = .ok (.iload_n 1, 1) := by decide +kernel
theorem d23_13 : decode jdk_43_method_47_code 13 = .ok (.iload_n 1, 1) := by decide +kernel
theorem d23_14 : decode jdk_43_method_47_code 14 = .ok (.iload_n 2, 1) := by decide +kernel
theorem d23_15 : decode jdk_43_method_47_code 15 = .ok (.iadd, 1) := by decide +kernel
theorem d23_16 : decode jdk_43_method_47_code 16 = .ok (.invokestatic 232, 3) := by decide +kernel
theorem d23_19 : decode jdk_43_method_47_code 19 = .ok (.iconst 0, 1) := by decide +kernel
theorem d23_20 : decode jdk_43_method_47_code 20 = .ok (.invokespecial 112, 3) := by decide +kernel
theorem d23_23 : decode jdk_43_method_47_code 23 = .ok (.areturn, 1) := by decide +kernel
theorem own_pd58512 : parseMethodDescriptor "([BB)V" = some ⟨[(.array .byte), .byte], none⟩ := by decide +kernel
def own_r_own_ns_1_1_2 : Room := { frames := 3, cells := 2, slots := 5, locals := 50 }
theorem own_ns_1_1_2 (l : Launch) (Z : State) (a0 : Array Value) (hw : own_W a0 Z) (b : Addr) (kb : ClassId) (dv : Value) (v0 v1 : Value) (h0 : Heap) (n0 : Nat) (hO : Old Z n0 h0) (Ab : Arv Z h0 b kb .byte 2 [v0, v1] dv) :
    own_Met l Z (⟨"java/lang/StringLatin1", "newString", "([BII)Ljava/lang/String;"⟩ : MethodName) jdk_43_method_47_code 3 (some (.object "java/lang/String")) own_r_own_ns_1_1_2 #[(.ref b), (.int 1), (.int 1)] h0 (own_Qs1 Z h0 n0 v1) := by
  refine own_body (by decide +kernel) ?_
  intro p e s m below meth c T0 X0 hx hZ hby hml hown hnm hret hlk e0
  have N0 := Fr.nil n0
  refine own_cast (own_frame (L := [rv b, iv 1, iv 1]) (ls := #[rv b, iv 1, iv 1]) rfl rfl) ?_
  refine og_iloadN X0 hx (hb hby d23_0) rfl ?_
  refine og_ifY X0 hx 7 (hb hby d23_1) (feq (by decide)).2 (by decide) (by decide) ?_
  refine own_newO X0 hx hZ hown (own_hw hw 121 rfl) (own_hw hw 10 rfl) (own_hw hw 11 rfl) e0 (hb hby d23_7) (by decide) (by decide) ?_
  intro T1 h1 b1 g1 X1 e1 E1 A1 D1
  have ne_b_b1 : b ≠ b1 := Nat.ne_of_lt (Nat.lt_of_lt_of_eq Ab.lt g1.symm)
  have ge_b1 : n0 ≤ b1 := Nat.le_trans (own_oldle hO) (Nat.le_of_eq g1.symm)
  have sz_b1 : h0.size ≤ b1 := Nat.le_trans (Keep.refl h0 []).1 (Nat.le_of_eq g1.symm)
  have A_b_1 := Ab.ext E1
  have O1 := hO.ext E1
  have K1 := (Keep.refl h0 []).ext E1
  have F_b1_value_1 : Fld Z h1 b1 "java/lang/String" "value" "[B" .null := D1 (Or.inr (own_hw hw 24 rfl)) (ty := (.array .byte)) (by decide)
  have F_b1_coder_1 : Fld Z h1 b1 "java/lang/String" "coder" "B" (.int 0) := D1 (Or.inr (own_hw hw 25 rfl)) (ty := .byte) (by decide)
  show own_Go p e below _ T1 (mkF m 10 #[rv b, iv 1, iv 1] [(.ref b1)])
  refine og_dup X1 hx (hb hby d23_10) rfl ?_
  refine og_aloadN X1 hx (hb hby d23_11) rfl rfl ?_
  refine og_iloadN X1 hx (hb hby d23_12) rfl ?_
  refine og_iloadN X1 hx (hb hby d23_13) rfl ?_
  refine og_iloadN X1 hx (hb hby d23_14) rfl ?_
  refine og_iadd X1 hx (hb hby d23_15) ?_
  show own_Go p e below _ T1 (mkF m 16 #[rv b, iv 1, iv 1] [(.int 2), (.int 1), (.ref b), (.ref b1), (.ref b1)])
  refine own_callS X1 hx hZ hown (own_hw hw 122 rfl) (own_hw hw 123 rfl) (own_hw hw 124 rfl) (own_hw hw 125 rfl) (by decide) (argsL := [(.ref b), (.int 1), (.int 2)]) (rest := [(.ref b1), (.ref b1)]) (own_cr_1_2_2 l Z a0 hw b _ _ v0 v1 h1 n0 O1 A_b_1) e1 (by rw [hml]; rfl) (lenOf own_pd77155 rfl) rfl (hb hby d23_16) (W := 2) (Nat.le_of_eq rfl) (by decide) ?_
  intro v2 T2 L2 X2 q2
  obtain ⟨b2, k2, rfl, N2q, K2q, z2q, g2q, A2q⟩ := q2
  have N2 := Fr.app N0 N2q
  have ne_b_b2 : b ≠ b2 := Nat.ne_of_lt (Nat.lt_of_lt_of_le A_b_1.lt z2q)
  have ne_b1_b2 : b1 ≠ b2 := Nat.ne_of_lt (Nat.lt_of_lt_of_le A1.lt z2q)
  have sz_b2 : h0.size ≤ b2 := Nat.le_trans K1.1 z2q
  have A_b_2 := A_b_1.keep K2q nin0
  have E_b1_2 := A1.keep K2q
  have F_b1_value_2 := F_b1_value_1.keep K2q nin0
  have F_b1_coder_2 := F_b1_coder_1.keep K2q nin0
  have O2 := O1.keep K2q all0
  have K2 := K1.trans K2q all0
  show own_Go p e below _ T2 (mkF m 19 #[rv b, iv 1, iv 1] [(.ref b2), (.ref b1), (.ref b1)])
  refine og_iconst X2 hx (hb hby d23_19) ?_
  refine own_callN X2 hx hZ hown (own_hw hw 137 rfl) (own_hw hw 138 rfl) (own_hw hw 139 rfl) (own_hw hw 11 rfl) (by decide) rfl (b := b1) (argsL := [(.ref b2), (.int 0)]) (rest := [(.ref b1)]) (own_si l Z a0 hw b1 b2 _ _ T2.heap n0 O2 ge_b1 E_b1_2 F_b1_value_2 F_b1_coder_2) rfl (by rw [hml]; rfl) (lenOf own_pd58512 rfl) rfl (hb hby d23_20) (W := 1) (Nat.le_of_eq rfl) (by decide) ?_
  intro v3 T3 L3 X3 q3
  obtain ⟨rfl, N3q, K3q, Fv3, Fc3⟩ := q3
  have N3 := Fr.app N2 N3q
  have A_b_3 := A_b_2.keep K3q (ninS ne_b_b1 nin0)
  have E_b1_3 := E_b1_2.keep K3q
  have A_b2_3 := A2q.keep K3q (ninS (Ne.symm ne_b1_b2) nin0)
  have O3 := O2.keep K3q (allS ge_b1 all0)
  have K3 := K2.trans K3q (allS (Or.inr sz_b1) all0)
  show own_Go p e below _ T3 (mkF m 23 #[rv b, iv 1, iv 1] [(.ref b1)])
  exact own_retA X3 hx hret hlk (hb hby d23_23) rfl rfl (by decide) (by decide) (⟨b1, b2, _, rfl, N3, K3, sz_b1, ge_b1, sz_b2, g2q, ne_b1_b2, E_b1_3, Fv3, Fc3, A_b2_3⟩)
def own_r_own_subN1 : Room := { frames := 4, cells := 2, slots := 5, locals := 64 }
theorem own_subN1 (l : Launch) (Z : State) (a0 : Array Value) (hw : own_W a0 Z) (z : Int32) (sf : Value) (t b : Addr) (kb : ClassId) (dv : Value) (n : Int32) (vs : List Value) (lo : Int32) (hi : Int32) (w0 : Value) (h0 : Heap) (n0 : Nat) (hO : Old Z n0 h0) (hG : own_Gs Z z sf) (h1 : ¬ lo < 0) (h2 : ¬ hi < lo) (h3 : ¬ n < hi) (hx0 : ¬ lo = 0) (inn : own_Met l Z (⟨"java/lang/StringLatin1", "newString", "([BII)Ljava/lang/String;"⟩ : MethodName) jdk_43_method_47_code 3 (some (.object "java/lang/String")) own_r_own_ns_1_1_2 #[.ref b, .int lo, .int (hi - lo)] h0 (own_Qs1 Z h0 n0 w0)) (Et : own_E Z h0 t) (Fv : own_V Z h0 t b) (Fc : own_C Z h0 t) (Ab : Arv Z h0 b kb .byte n vs dv) :
    own_Met l Z (⟨"java/lang/String", "substring", "(II)Ljava/lang/String;"⟩ : MethodName) jdk_42_method_92_code 5 (some (.object "java/lang/String")) own_r_own_subN1 #[(.ref t), (.int lo), (.int hi)] h0 (own_Qs1 Z h0 n0 w0) := by
  refine own_body (by decide +kernel) ?_
  intro p e s m below meth c T0 X0 hx hZ hby hml hown hnm hret hlk e0
  have N0 := Fr.nil n0
  refine own_cast (own_frame (L := [rv t, iv lo, iv hi]) (ls := #[rv t, iv lo, iv hi, .unset, .unset]) rfl rfl) ?_
  obtain ⟨SC, hz, SF, rf⟩ := id hG
  refine og_aloadN X0 hx (hb hby d16_0) rfl rfl ?_
  refine own_callV X0 hx hZ hown (own_hw hw 39 rfl) (own_hw hw 40 rfl) (notFace_of_selects (args := #[]) (mvT hZ (own_hw hw 42 rfl))) (own_hw hw 42 rfl) (own_hw hw 41 rfl) (own_hw hw 43 rfl) (own_hw hw 11 rfl) (by decide) (b := t) (argsL := []) (rest := []) (own_slen l Z a0 hw z sf t b _ _ n _ h0 n0 hO hG Et Fv Fc Ab) e0 Et (by rw [hml]; rfl) (lenOf own_pd13941 rfl) rfl (hb hby d16_1) (W := 0) (Nat.le_of_eq rfl) (by decide) ?_
  intro v1 T1 L1 X1 q1
  obtain ⟨rfl, N1q, e1⟩ := q1
  have N1 := Fr.app N0 N1q
  show own_Go p e below _ T1 (mkF m 4 #[rv t, iv lo, iv hi, .unset, .unset] [(.int n)])
  refine og_istoreN X1 hx #[rv t, iv lo, iv hi, iv n, .unset] (hb hby d16_4) rfl ?_
  refine og_iloadN X1 hx (hb hby d16_5) rfl ?_
  refine og_iloadN X1 hx (hb hby d16_6) rfl ?_
  refine og_iloadN X1 hx (hb hby d16_7) rfl ?_
  refine own_callS X1 hx hZ hown (own_hw hw 81 rfl) (own_hw hw 82 rfl) (own_hw hw 11 rfl) (own_hw hw 83 rfl) (by decide) (argsL := [(.int lo), (.int hi), (.int n)]) (rest := []) (own_cbb l Z a0 hw z sf lo hi n h0 n0 hO hG h1 h2 h3) e1 (by rw [hml]; rfl) (lenOf own_pd73746 rfl) rfl (hb hby d16_8) (W := 0) (Nat.le_of_eq rfl) (by decide) ?_
  intro v2 T2 L2 X2 q2
  obtain ⟨rfl, N2q, e2⟩ := q2
  have N2 := Fr.app N1 N2q
  show own_Go p e below _ T2 (mkF m 11 #[rv t, iv lo, iv hi, iv n, .unset] [])
  refine og_iloadN X2 hx (hb hby d16_11) rfl ?_
  refine og_ifY X2 hx 22 (hb hby d16_12) (feq hx0).2 (by decide) (by decide) ?_
  refine og_iloadN X2 hx (hb hby d16_22) rfl ?_
  refine og_iloadN X2 hx (hb hby d16_23) rfl ?_
  refine og_isub X2 hx (hb hby d16_24) ?_
  refine og_istore X2 hx #[rv t, iv lo, iv hi, iv n, iv (hi - lo)] (hb hby d16_25) rfl ?_
  refine og_aloadN X2 hx (hb hby d16_27) rfl rfl ?_
  refine own_callV X2 hx hZ hown (own_hw hw 55 rfl) (own_hw hw 56 rfl) (notFace_of_selects (args := #[]) (mvT hZ (own_hw hw 58 rfl))) (own_hw hw 58 rfl) (own_hw hw 57 rfl) (own_hw hw 59 rfl) (own_hw hw 11 rfl) (by decide) (b := t) (argsL := []) (rest := []) (own_isl1 l Z a0 hw z sf t h0 n0 hO hG Fc) e2 Et (by rw [hml]; rfl) (lenOf own_pd61835 rfl) rfl (hb hby d16_28) (W := 0) (Nat.le_of_eq rfl) (by decide) ?_
  intro v3 T3 L3 X3 q3
  obtain ⟨rfl, N3q, e3⟩ := q3
  have N3 := Fr.app N2 N3q
  show own_Go p e below _ T3 (mkF m 31 #[rv t, iv lo, iv hi, iv n, iv (hi - lo)] [(.int (1 : Int32))])
  refine og_ifN X3 hx (hb hby d16_31) (feq (by decide)).1 ?_
  refine og_aloadN X3 hx (hb hby d16_34) rfl rfl ?_
  refine og_getF X3 hx hZ hown (own_hw hw 28 rfl) Via.refl e3 Fv (hb hby d16_35) ?_
  intro T4 X4 e4
  refine og_iloadN X4 hx (hb hby d16_38) rfl ?_
  refine og_iload X4 hx (hb hby d16_39) rfl ?_
  refine own_callS X4 hx hZ hown (own_hw hw 103 rfl) (own_hw hw 104 rfl) (own_hw hw 62 rfl) (own_hw hw 105 rfl) (by decide) (argsL := [(.ref b), (.int lo), (.int (hi - lo))]) (rest := []) inn e4 (by rw [hml]; rfl) (lenOf own_pd78060 rfl) rfl (hb hby d16_41) (W := 0) (Nat.le_of_eq rfl) (by decide) ?_
  intro v5 T5 L5 X5 q5
  obtain ⟨t5, vb5, k5, rfl, N5q, K5q, zt5, gt5, zb5, gb5, ne_t5_vb5, Et5, Ft5, Ct5, At5⟩ := q5
  have N5 := Fr.app N3 N5q
  have ne_b_t5 : b ≠ t5 := Nat.ne_of_lt (Nat.lt_of_lt_of_le Ab.lt zt5)
  have ne_t_t5 : t ≠ t5 := Nat.ne_of_lt (Nat.lt_of_lt_of_le Et.lt zt5)
  have sz_t5 : h0.size ≤ t5 := Nat.le_trans (Keep.refl h0 []).1 zt5
  have ne_b_vb5 : b ≠ vb5 := Nat.ne_of_lt (Nat.lt_of_lt_of_le Ab.lt zb5)
  have ne_t_vb5 : t ≠ vb5 := Nat.ne_of_lt (Nat.lt_of_lt_of_le Et.lt zb5)
  have sz_vb5 : h0.size ≤ vb5 := Nat.le_trans (Keep.refl h0 []).1 zb5
  have E_t_5 := Et.keep K5q
  have F_t_value_5 := Fv.keep K5q nin0
  have F_t_coder_5 := Fc.keep K5q nin0
  have A_b_5 := Ab.keep K5q nin0
  have O5 := hO.keep K5q all0
  have K5 := (Keep.refl h0 []).trans K5q all0
  show own_Go p e below _ T5 (mkF m 44 #[rv t, iv lo, iv hi, iv n, iv (hi - lo)] [(.ref t5)])
  refine og_goto X5 hx 57 (hb hby d16_44) (by decide) (by decide) ?_
  exact own_retA X5 hx hret hlk (hb hby d16_57) rfl rfl (by decide) (by decide) (⟨t5, vb5, _, rfl, N5, K5, sz_t5, gt5, sz_vb5, gb5, ne_t5_vb5, Et5, Ft5, Ct5, At5⟩)
def own_r_own_sub1N1 : Room := { frames := 5, cells := 2, slots := 5, locals := 80 }
theorem own_sub1N1 (l : Launch) (Z : State) (a0 : Array Value) (hw : own_W a0 Z) (z : Int32) (sf : Value) (t b : Addr) (kb : ClassId) (dv : Value) (n : Int32) (vs : List Value) (lo : Int32) (w0 : Value) (h0 : Heap) (n0 : Nat) (hO : Old Z n0 h0) (hG : own_Gs Z z sf) (h1 : ¬ lo < 0) (h2 : ¬ n < lo) (hx0 : ¬ lo = 0) (inn : own_Met l Z (⟨"java/lang/StringLatin1", "newString", "([BII)Ljava/lang/String;"⟩ : MethodName) jdk_43_method_47_code 3 (some (.object "java/lang/String")) own_r_own_ns_1_1_2 #[.ref b, .int lo, .int (n - lo)] h0 (own_Qs1 Z h0 n0 w0)) (Et : own_E Z h0 t) (Fv : own_V Z h0 t b) (Fc : own_C Z h0 t) (Ab : Arv Z h0 b kb .byte n vs dv) :
    own_Met l Z (⟨"java/lang/String", "substring", "(I)Ljava/lang/String;"⟩ : MethodName) jdk_42_method_91_code 2 (some (.object "java/lang/String")) own_r_own_sub1N1 #[(.ref t), (.int lo)] h0 (own_Qs1 Z h0 n0 w0) := by
  refine own_body (by decide +kernel) ?_
  intro p e s m below meth c T0 X0 hx hZ hby hml hown hnm hret hlk e0
  have N0 := Fr.nil n0
  refine own_cast (own_frame (L := [rv t, iv lo]) (ls := #[rv t, iv lo]) rfl rfl) ?_
  obtain ⟨SC, hz, SF, rf⟩ := id hG
  refine og_aloadN X0 hx (hb hby d15_0) rfl rfl ?_
  refine og_iloadN X0 hx (hb hby d15_1) rfl ?_
  refine og_aloadN X0 hx (hb hby d15_2) rfl rfl ?_
  refine own_callV X0 hx hZ hown (own_hw hw 39 rfl) (own_hw hw 40 rfl) (notFace_of_selects (args := #[]) (mvT hZ (own_hw hw 42 rfl))) (own_hw hw 42 rfl) (own_hw hw 41 rfl) (own_hw hw 43 rfl) (own_hw hw 11 rfl) (by decide) (b := t) (argsL := []) (rest := [(.int lo), (.ref t)]) (own_slen l Z a0 hw z sf t b _ _ n _ h0 n0 hO hG Et Fv Fc Ab) e0 Et (by rw [hml]; rfl) (lenOf own_pd13941 rfl) rfl (hb hby d15_3) (W := 2) (Nat.le_of_eq rfl) (by decide) ?_
  intro v1 T1 L1 X1 q1
  obtain ⟨rfl, N1q, e1⟩ := q1
  have N1 := Fr.app N0 N1q
  show own_Go p e below _ T1 (mkF m 6 #[rv t, iv lo] [(.int n), (.int lo), (.ref t)])
  refine own_callV X1 hx hZ hown (own_hw hw 76 rfl) (own_hw hw 77 rfl) (notFace_of_selects (args := #[]) (mvT hZ (own_hw hw 79 rfl))) (own_hw hw 79 rfl) (own_hw hw 78 rfl) (own_hw hw 80 rfl) (own_hw hw 11 rfl) (by decide) (b := t) (argsL := [(.int lo), (.int n)]) (rest := []) (own_subN1 l Z a0 hw z sf t b _ _ n _ lo n w0 h0 n0 hO hG h1 h2 Int32.lt_irrefl hx0 inn Et Fv Fc Ab) e1 Et (by rw [hml]; rfl) (lenOf own_pd41291 rfl) rfl (hb hby d15_6) (W := 0) (Nat.le_of_eq rfl) (by decide) ?_
  intro v2 T2 L2 X2 q2
  obtain ⟨t2, vb2, k2, rfl, N2q, K2q, zt2, gt2, zb2, gb2, ne_t2_vb2, Et2, Ft2, Ct2, At2⟩ := q2
  have N2 := Fr.app N1 N2q
  have ne_b_t2 : b ≠ t2 := Nat.ne_of_lt (Nat.lt_of_lt_of_le Ab.lt zt2)
  have ne_t_t2 : t ≠ t2 := Nat.ne_of_lt (Nat.lt_of_lt_of_le Et.lt zt2)
  have sz_t2 : h0.size ≤ t2 := Nat.le_trans (Keep.refl h0 []).1 zt2
  have ne_b_vb2 : b ≠ vb2 := Nat.ne_of_lt (Nat.lt_of_lt_of_le Ab.lt zb2)
  have ne_t_vb2 : t ≠ vb2 := Nat.ne_of_lt (Nat.lt_of_lt_of_le Et.lt zb2)
  have sz_vb2 : h0.size ≤ vb2 := Nat.le_trans (Keep.refl h0 []).1 zb2
  have E_t_2 := Et.keep K2q
  have F_t_value_2 := Fv.keep K2q nin0
  have F_t_coder_2 := Fc.keep K2q nin0
  have A_b_2 := Ab.keep K2q nin0
  have O2 := hO.keep K2q all0
  have K2 := (Keep.refl h0 []).trans K2q all0
  show own_Go p e below _ T2 (mkF m 9 #[rv t, iv lo] [(.ref t2)])
  exact own_retA X2 hx hret hlk (hb hby d15_9) rfl rfl (by decide) (by decide) (⟨t2, vb2, _, rfl, N2, K2, sz_t2, gt2, sz_vb2, gb2, ne_t2_vb2, Et2, Ft2, Ct2, At2⟩)
theorem own_lia_2_0 (l : Launch) (Z : State) (a0 : Array Value) (hw : own_W a0 Z) (b : Addr) (kb : ClassId) (dv : Value) (c0 c1 : Int32) (h0 : Heap) (n0 : Nat) (hc1 : ¬ c1 < 0 ∧ ¬ (255 : Int32) < c1) (m1 : ¬ c1 = 47) (hsl : c0 = 47) (Ab : Arv Z h0 b kb .byte 2 [(.int c0.toInt8.toInt32), (.int c1.toInt8.toInt32)] dv) :
    own_Met l Z (⟨"java/lang/StringLatin1", "lastIndexOf", "([BII)I"⟩ : MethodName) jdk_43_method_27_code 4 (some .int) own_r_lia #[(.ref b), (.int 47), (.int 1)] h0 (own_Qv (some (.int (0))) h0 n0) := by
  refine own_body (by decide +kernel) ?_
  intro p e s m below meth c T0 X0 hx hZ hby hml hown hnm hret hlk e0
  have N0 := Fr.nil n0
  refine own_cast (own_frame (L := [rv b, iv 47, iv 1]) (ls := #[rv b, iv 47, iv 1, .unset]) rfl rfl) ?_
  refine og_iloadN X0 hx (hb hby d12_0) rfl ?_
  refine own_callS X0 hx hZ hown (own_hw hw 64 rfl) (own_hw hw 65 rfl) (own_hw hw 62 rfl) (own_hw hw 66 rfl) (by decide) (argsL := [(.int 47)]) (rest := []) (own_ce47 l Z a0 hw h0 n0) e0 (by rw [hml]; rfl) (lenOf own_pd97859 rfl) rfl (hb hby d12_1) (W := 0) (Nat.le_of_eq rfl) (by decide) ?_
  intro v1 T1 L1 X1 q1
  obtain ⟨rfl, N1q, e1⟩ := q1
  have N1 := Fr.app N0 N1q
  show own_Go p e below _ T1 (mkF m 4 #[rv b, iv 47, iv 1, .unset] [(.int 1)])
  refine og_ifY X1 hx 9 (hb hby d12_4) (feq (by decide)).2 (by decide) (by decide) ?_
  refine og_iloadN X1 hx (hb hby d12_9) rfl ?_
  refine og_aloadN X1 hx (hb hby d12_10) rfl rfl ?_
  refine own_len X1 hx hZ e1 Ab (hb hby d12_11) ?_
  show own_Go p e below _ T1 (mkF m 12 #[rv b, iv 47, iv 1, .unset] [(.int 2), (.int 1)])
  refine og_iconst X1 hx (hb hby d12_12) ?_
  refine og_isub X1 hx (hb hby d12_13) ?_
  show own_Go p e below _ T1 (mkF m 14 #[rv b, iv 47, iv 1, .unset] [(.int 1), (.int 1)])
  refine own_callS X1 hx hZ hown (own_hw hw 67 rfl) (own_hw hw 68 rfl) (own_hw hw 69 rfl) (own_hw hw 70 rfl) (by decide) (argsL := [(.int 1), (.int 1)]) (rest := []) (own_min_1_1 l Z a0 hw h0 n0) e1 (by rw [hml]; rfl) (lenOf own_pd23903 rfl) rfl (hb hby d12_14) (W := 0) (Nat.le_of_eq rfl) (by decide) ?_
  intro v2 T2 L2 X2 q2
  obtain ⟨rfl, N2q, e2⟩ := q2
  have N2 := Fr.app N1 N2q
  show own_Go p e below _ T2 (mkF m 17 #[rv b, iv 47, iv 1, .unset] [(.int 1)])
  refine og_istoreN X2 hx #[rv b, iv 47, iv 1, iv 1] (hb hby d12_17) rfl ?_
  refine og_iloadN X2 hx (hb hby d12_18) rfl ?_
  refine og_ifN X2 hx (hb hby d12_19) (flt (by decide)).1 ?_
  refine og_aloadN X2 hx (hb hby d12_22) rfl rfl ?_
  refine og_iloadN X2 hx (hb hby d12_23) rfl ?_
  refine own_ldB X2 hx hZ e2 Ab ⟨by decide, by decide⟩ rfl (hb hby d12_24) ?_
  show own_Go p e below _ T2 (mkF m 25 #[rv b, iv 47, iv 1, iv 1] [(.int c1.toInt8.toInt32)])
  refine og_iloadN X2 hx (hb hby d12_25) rfl ?_
  refine own_go (fun t k => XS.i2b X2.here hx rfl (hb hby d12_26) rfl k) ?_
  show own_Go p e below _ T2 (mkF m 27 #[rv b, iv 47, iv 1, iv 1] [(.int 47), (.int c1.toInt8.toInt32)])
  refine og_icY X2 hx 32 (hb hby d12_27) (feq (fun q => m1 (own_b47 _ hc1 q))).2 (by decide) (by decide) ?_
  refine own_go (fun t k => XS.iinc X2.here hx rfl (hb hby d12_32) rfl (l' := #[rv b, iv 47, iv 1, iv 0]) rfl k) ?_
  show own_Go p e below _ T2 (mkF m 35 #[rv b, iv 47, iv 1, iv 0] [])
  refine og_goto X2 hx 18 (hb hby d12_35) (by decide) (by decide) ?_
  refine og_iloadN X2 hx (hb hby d12_18) rfl ?_
  refine og_ifN X2 hx (hb hby d12_19) (flt (by decide)).1 ?_
  refine og_aloadN X2 hx (hb hby d12_22) rfl rfl ?_
  refine og_iloadN X2 hx (hb hby d12_23) rfl ?_
  refine own_ldB X2 hx hZ e2 Ab ⟨by decide, by decide⟩ rfl (hb hby d12_24) ?_
  show own_Go p e below _ T2 (mkF m 25 #[rv b, iv 47, iv 1, iv 0] [(.int c0.toInt8.toInt32)])
  refine og_iloadN X2 hx (hb hby d12_25) rfl ?_
  refine own_go (fun t k => XS.i2b X2.here hx rfl (hb hby d12_26) rfl k) ?_
  show own_Go p e below _ T2 (mkF m 27 #[rv b, iv 47, iv 1, iv 0] [(.int 47), (.int c0.toInt8.toInt32)])
  refine og_icN X2 hx (hb hby d12_27) (teq (by rw [hsl]; rfl)).2 ?_
  refine og_iloadN X2 hx (hb hby d12_30) rfl ?_
  exact own_retI X2 hx hret hlk (hb hby d12_31) rfl (by simp) (by decide) (by decide) (⟨rfl, N2, e2⟩)
def own_r_own_po_2_0 : Room := { frames := 6, cells := 2, slots := 5, locals := 93 }
theorem own_po_2_0 (l : Launch) (Z : State) (a0 : Array Value) (hw : own_W a0 Z) (z : Int32) (sf : Value) (t b : Addr) (kb : ClassId) (dv : Value) (c0 c1 : Int32) (h0 : Heap) (n0 : Nat) (hO : Old Z n0 h0) (hG : own_Gs Z z sf) (hc1 : ¬ c1 < 0 ∧ ¬ (255 : Int32) < c1) (m1 : ¬ c1 = 47) (hsl : c0 = 47) (Et : own_E Z h0 t) (Fv : own_V Z h0 t b) (Fc : own_C Z h0 t) (Ab : Arv Z h0 b kb .byte 2 [(.int c0.toInt8.toInt32), (.int c1.toInt8.toInt32)] dv) :
    own_Met l Z (⟨"com/example/svazek/svazek/PackageFolder", "nameOf", "(Ljava/lang/String;)Ljava/lang/String;"⟩ : MethodName) prog_41_method_8_code 1 (some (.object "java/lang/String")) own_r_own_po_2_0 #[(.ref t)] h0 (own_Qs1 Z h0 n0 (.int c1.toInt8.toInt32)) := by
  refine own_body (by decide +kernel) ?_
  intro p e s m below meth c T0 X0 hx hZ hby hml hown hnm hret hlk e0
  have N0 := Fr.nil n0
  refine own_cast (own_frame (L := [rv t]) (ls := #[rv t]) rfl rfl) ?_
  obtain ⟨SC, hz, SF, rf⟩ := id hG
  refine og_aloadN X0 hx (hb hby d6_0) rfl rfl ?_
  refine og_aloadN X0 hx (hb hby d6_1) rfl rfl ?_
  refine og_bipush X0 hx (hb hby d6_2) ?_
  refine own_callV X0 hx hZ hown (own_hw hw 34 rfl) (own_hw hw 35 rfl) (notFace_of_selects (args := #[]) (mvT hZ (own_hw hw 37 rfl))) (own_hw hw 37 rfl) (own_hw hw 36 rfl) (own_hw hw 38 rfl) (own_hw hw 11 rfl) (by decide) (b := t) (argsL := [(.int 47)]) (rest := [(.ref t)]) (own_lic_2 l Z a0 hw z sf t b _ _ c0 c1 (0) h0 n0 hO hG (own_lia_2_0 l Z a0 hw b _ _ c0 c1 h0 n0 hc1 m1 hsl Ab) Et Fv Fc Ab) e0 Et (by rw [hml]; rfl) (lenOf own_pd49053 rfl) rfl (hb hby d6_4) (W := 1) (Nat.le_of_eq rfl) (by decide) ?_
  intro v1 T1 L1 X1 q1
  obtain ⟨rfl, N1q, e1⟩ := q1
  have N1 := Fr.app N0 N1q
  show own_Go p e below _ T1 (mkF m 7 #[rv t] [(.int 0), (.ref t)])
  refine og_iconst X1 hx (hb hby d6_7) ?_
  refine og_iadd X1 hx (hb hby d6_8) ?_
  show own_Go p e below _ T1 (mkF m 9 #[rv t] [(.int 1), (.ref t)])
  refine own_callV X1 hx hZ hown (own_hw hw 71 rfl) (own_hw hw 72 rfl) (notFace_of_selects (args := #[]) (mvT hZ (own_hw hw 74 rfl))) (own_hw hw 74 rfl) (own_hw hw 73 rfl) (own_hw hw 75 rfl) (own_hw hw 11 rfl) (by decide) (b := t) (argsL := [(.int 1)]) (rest := []) (own_sub1N1 l Z a0 hw z sf t b _ _ 2 _ 1 (.int c1.toInt8.toInt32) h0 n0 hO hG (by decide) (by decide) (by decide) (own_ns_1_1_2 l Z a0 hw b _ _ (.int c0.toInt8.toInt32) (.int c1.toInt8.toInt32) h0 n0 hO Ab) Et Fv Fc Ab) e1 Et (by rw [hml]; rfl) (lenOf own_pd44404 rfl) rfl (hb hby d6_9) (W := 0) (Nat.le_of_eq rfl) (by decide) ?_
  intro v2 T2 L2 X2 q2
  obtain ⟨t2, vb2, k2, rfl, N2q, K2q, zt2, gt2, zb2, gb2, ne_t2_vb2, Et2, Ft2, Ct2, At2⟩ := q2
  have N2 := Fr.app N1 N2q
  have ne_b_t2 : b ≠ t2 := Nat.ne_of_lt (Nat.lt_of_lt_of_le Ab.lt zt2)
  have ne_t_t2 : t ≠ t2 := Nat.ne_of_lt (Nat.lt_of_lt_of_le Et.lt zt2)
  have sz_t2 : h0.size ≤ t2 := Nat.le_trans (Keep.refl h0 []).1 zt2
  have ne_b_vb2 : b ≠ vb2 := Nat.ne_of_lt (Nat.lt_of_lt_of_le Ab.lt zb2)
  have ne_t_vb2 : t ≠ vb2 := Nat.ne_of_lt (Nat.lt_of_lt_of_le Et.lt zb2)
  have sz_vb2 : h0.size ≤ vb2 := Nat.le_trans (Keep.refl h0 []).1 zb2
  have E_t_2 := Et.keep K2q
  have F_t_value_2 := Fv.keep K2q nin0
  have F_t_coder_2 := Fc.keep K2q nin0
  have A_b_2 := Ab.keep K2q nin0
  have O2 := hO.keep K2q all0
  have K2 := (Keep.refl h0 []).trans K2q all0
  show own_Go p e below _ T2 (mkF m 12 #[rv t] [(.ref t2)])
  exact own_retA X2 hx hret hlk (hb hby d6_12) rfl rfl (by decide) (by decide) (⟨t2, vb2, _, rfl, N2, K2, sz_t2, gt2, sz_vb2, gb2, ne_t2_vb2, Et2, Ft2, Ct2, At2⟩)
theorem own_lia_2_1 (l : Launch) (Z : State) (a0 : Array Value) (hw : own_W a0 Z) (b : Addr) (kb : ClassId) (dv : Value) (c0 c1 : Int32) (h0 : Heap) (n0 : Nat)  (hsl : c1 = 47) (Ab : Arv Z h0 b kb .byte 2 [(.int c0.toInt8.toInt32), (.int c1.toInt8.toInt32)] dv) :
    own_Met l Z (⟨"java/lang/StringLatin1", "lastIndexOf", "([BII)I"⟩ : MethodName) jdk_43_method_27_code 4 (some .int) own_r_lia #[(.ref b), (.int 47), (.int 1)] h0 (own_Qv (some (.int (1))) h0 n0) := by
  refine own_body (by decide +kernel) ?_
  intro p e s m below meth c T0 X0 hx hZ hby hml hown hnm hret hlk e0
  have N0 := Fr.nil n0
  refine own_cast (own_frame (L := [rv b, iv 47, iv 1]) (ls := #[rv b, iv 47, iv 1, .unset]) rfl rfl) ?_
  refine og_iloadN X0 hx (hb hby d12_0) rfl ?_
  refine own_callS X0 hx hZ hown (own_hw hw 64 rfl) (own_hw hw 65 rfl) (own_hw hw 62 rfl) (own_hw hw 66 rfl) (by decide) (argsL := [(.int 47)]) (rest := []) (own_ce47 l Z a0 hw h0 n0) e0 (by rw [hml]; rfl) (lenOf own_pd97859 rfl) rfl (hb hby d12_1) (W := 0) (Nat.le_of_eq rfl) (by decide) ?_
  intro v1 T1 L1 X1 q1
  obtain ⟨rfl, N1q, e1⟩ := q1
  have N1 := Fr.app N0 N1q
  show own_Go p e below _ T1 (mkF m 4 #[rv b, iv 47, iv 1, .unset] [(.int 1)])
  refine og_ifY X1 hx 9 (hb hby d12_4) (feq (by decide)).2 (by decide) (by decide) ?_
  refine og_iloadN X1 hx (hb hby d12_9) rfl ?_
  refine og_aloadN X1 hx (hb hby d12_10) rfl rfl ?_
  refine own_len X1 hx hZ e1 Ab (hb hby d12_11) ?_
  show own_Go p e below _ T1 (mkF m 12 #[rv b, iv 47, iv 1, .unset] [(.int 2), (.int 1)])
  refine og_iconst X1 hx (hb hby d12_12) ?_
  refine og_isub X1 hx (hb hby d12_13) ?_
  show own_Go p e below _ T1 (mkF m 14 #[rv b, iv 47, iv 1, .unset] [(.int 1), (.int 1)])
  refine own_callS X1 hx hZ hown (own_hw hw 67 rfl) (own_hw hw 68 rfl) (own_hw hw 69 rfl) (own_hw hw 70 rfl) (by decide) (argsL := [(.int 1), (.int 1)]) (rest := []) (own_min_1_1 l Z a0 hw h0 n0) e1 (by rw [hml]; rfl) (lenOf own_pd23903 rfl) rfl (hb hby d12_14) (W := 0) (Nat.le_of_eq rfl) (by decide) ?_
  intro v2 T2 L2 X2 q2
  obtain ⟨rfl, N2q, e2⟩ := q2
  have N2 := Fr.app N1 N2q
  show own_Go p e below _ T2 (mkF m 17 #[rv b, iv 47, iv 1, .unset] [(.int 1)])
  refine og_istoreN X2 hx #[rv b, iv 47, iv 1, iv 1] (hb hby d12_17) rfl ?_
  refine og_iloadN X2 hx (hb hby d12_18) rfl ?_
  refine og_ifN X2 hx (hb hby d12_19) (flt (by decide)).1 ?_
  refine og_aloadN X2 hx (hb hby d12_22) rfl rfl ?_
  refine og_iloadN X2 hx (hb hby d12_23) rfl ?_
  refine own_ldB X2 hx hZ e2 Ab ⟨by decide, by decide⟩ rfl (hb hby d12_24) ?_
  show own_Go p e below _ T2 (mkF m 25 #[rv b, iv 47, iv 1, iv 1] [(.int c1.toInt8.toInt32)])
  refine og_iloadN X2 hx (hb hby d12_25) rfl ?_
  refine own_go (fun t k => XS.i2b X2.here hx rfl (hb hby d12_26) rfl k) ?_
  show own_Go p e below _ T2 (mkF m 27 #[rv b, iv 47, iv 1, iv 1] [(.int 47), (.int c1.toInt8.toInt32)])
  refine og_icN X2 hx (hb hby d12_27) (teq (by rw [hsl]; rfl)).2 ?_
  refine og_iloadN X2 hx (hb hby d12_30) rfl ?_
  exact own_retI X2 hx hret hlk (hb hby d12_31) rfl (by simp) (by decide) (by decide) (⟨rfl, N2, e2⟩)
def own_r_own_po_2_1 : Room := { frames := 4, cells := 2, slots := 4, locals := 58 }
theorem own_po_2_1 (l : Launch) (Z : State) (a0 : Array Value) (hw : own_W a0 Z) (z : Int32) (sf : Value) (t b : Addr) (kb : ClassId) (dv : Value) (c0 c1 : Int32) (h0 : Heap) (n0 : Nat) (hO : Old Z n0 h0) (hG : own_Gs Z z sf)  (hsl : c1 = 47) (Et : own_E Z h0 t) (Fv : own_V Z h0 t b) (Fc : own_C Z h0 t) (Ab : Arv Z h0 b kb .byte 2 [(.int c0.toInt8.toInt32), (.int c1.toInt8.toInt32)] dv) :
    own_MetH l Z own_EL (⟨"com/example/svazek/svazek/PackageFolder", "nameOf", "(Ljava/lang/String;)Ljava/lang/String;"⟩ : MethodName) prog_41_method_8_code 1 (some (.object "java/lang/String")) own_r_own_po_2_1 #[(.ref t)] h0 (own_Qe Z h0 n0) := by
  refine own_bodyH (by decide +kernel) ?_
  intro p e s m below meth c T0 X0 hx hZ hby hml hown hnm hret hlk e0 hS hk C0
  have hwS : ∀ a ∈ Bundle.stringAtoms, a.before a0 Z = true := fun d hd => hw d ((by decide +kernel : ∀ d ∈ Bundle.stringAtoms, d ∈ tables_1) d hd)
  have N0 := Fr.nil n0
  refine own_cast (own_frame (L := [rv t]) (ls := #[rv t]) rfl rfl) ?_
  obtain ⟨SC, hz, SF, rf⟩ := id hG
  refine og_aloadN X0 hx (hb hby d6_0) rfl rfl ?_
  refine og_aloadN X0 hx (hb hby d6_1) rfl rfl ?_
  refine og_bipush X0 hx (hb hby d6_2) ?_
  refine own_callV X0 hx hZ hown (own_hw hw 34 rfl) (own_hw hw 35 rfl) (notFace_of_selects (args := #[]) (mvT hZ (own_hw hw 37 rfl))) (own_hw hw 37 rfl) (own_hw hw 36 rfl) (own_hw hw 38 rfl) (own_hw hw 11 rfl) (by decide) (b := t) (argsL := [(.int 47)]) (rest := [(.ref t)]) (own_lic_2 l Z a0 hw z sf t b _ _ c0 c1 (1) h0 n0 hO hG (own_lia_2_1 l Z a0 hw b _ _ c0 c1 h0 n0 hsl Ab) Et Fv Fc Ab) e0 Et (by rw [hml]; rfl) (lenOf own_pd49053 rfl) rfl (hb hby d6_4) (W := 1) (Nat.le_of_eq rfl) (by decide) ?_
  intro v1 T1 L1 X1 q1
  obtain ⟨rfl, N1q, e1⟩ := q1
  have N1 := Fr.app N0 N1q
  show own_Go p e below _ T1 (mkF m 7 #[rv t] [(.int 1), (.ref t)])
  refine og_iconst X1 hx (hb hby d6_7) ?_
  refine og_iadd X1 hx (hb hby d6_8) ?_
  show own_Go p e below _ T1 (mkF m 9 #[rv t] [(.int 2), (.ref t)])
  refine own_callVH X1 hx hZ hown (own_hw hw 71 rfl) (own_hw hw 72 rfl) (notFace_of_selects (args := #[]) (mvT hZ (own_hw hw 74 rfl))) (own_hw hw 74 rfl) (own_hw hw 73 rfl) (own_hw hw 75 rfl) (own_hw hw 11 rfl) (by decide) (b := t) (argsL := [(.int 2)]) (rest := []) (own_sub1E l Z a0 hw z sf t b _ _ 2 _ h0 n0 hO hG (by decide) (by decide) Et Fv Fc Ab) (own_EW hw) C0.1 hS hk e1 Et (by rw [hml]; rfl) (lenOf own_pd44404 rfl) rfl (hb hby d6_9) (W := 0) (Nat.le_of_eq rfl) (by decide) ?_
  intro v2 T2 L2 X2 hS2 hZ2 hown2 C2q q2
  obtain ⟨t2, vb2, k2, rfl, N2q, K2q, Et2, Ft2, Ct2, At2⟩ := q2
  have N2 := Fr.app N1 N2q
  have C2 := C0.trans C2q
  have E_t_2 := Et.keep K2q
  have F_t_value_2 := Fv.keep K2q nin0
  have F_t_coder_2 := Fc.keep K2q nin0
  have A_b_2 := Ab.keep K2q nin0
  have O2 := hO.keep K2q all0
  have K2 := (Keep.refl h0 []).trans K2q all0
  show own_Go p e below _ T2 (mkF m 12 #[rv t] [(.ref t2)])
  exact own_retAH X2 hx hret hlk (hb hby d6_12) rfl rfl hZ2 (own_EW hw) C2 rfl hS2 (Nat.le_refl _) (by decide) (by decide) (⟨t2, vb2, _, rfl, N2, K2, Et2, Ft2, Ct2, At2⟩)
def own_r_own_min_2_2 : Room := { frames := 0, cells := 0, slots := 0, locals := 0 }
theorem own_min_2_2 (l : Launch) (Z : State) (a0 : Array Value) (hw : own_W a0 Z)  (h0 : Heap) (n0 : Nat)  :
    own_Met l Z (⟨"java/lang/Math", "min", "(II)I"⟩ : MethodName) jdk_29_method_69_code 2 (some .int) own_r_own_min_2_2 #[(.int 2), (.int 2)] h0 (own_Qv (some (.int (2))) h0 n0) := by
  refine own_body (by decide +kernel) ?_
  intro p e s m below meth c T0 X0 hx hZ hby hml hown hnm hret hlk e0
  have N0 := Fr.nil n0
  refine own_cast (own_frame (L := [iv 2, iv 2]) (ls := #[iv 2, iv 2]) rfl rfl) ?_
  refine og_iloadN X0 hx (hb hby d14_0) rfl ?_
  refine og_iloadN X0 hx (hb hby d14_1) rfl ?_
  refine og_icN X0 hx (hb hby d14_2) (flt (by decide)).2.2.1 ?_
  refine og_iloadN X0 hx (hb hby d14_5) rfl ?_
  refine og_goto X0 hx 10 (hb hby d14_6) (by decide) (by decide) ?_
  exact own_retI X0 hx hret hlk (hb hby d14_10) rfl (by simp) (by decide) (by decide) (⟨rfl, N0, e0⟩)
theorem own_lia_3_m1 (l : Launch) (Z : State) (a0 : Array Value) (hw : own_W a0 Z) (b : Addr) (kb : ClassId) (dv : Value) (c0 c1 c2 : Int32) (h0 : Heap) (n0 : Nat) (hc0 : ¬ c0 < 0 ∧ ¬ (255 : Int32) < c0) (m0 : ¬ c0 = 47) (hc1 : ¬ c1 < 0 ∧ ¬ (255 : Int32) < c1) (m1 : ¬ c1 = 47) (hc2 : ¬ c2 < 0 ∧ ¬ (255 : Int32) < c2) (m2 : ¬ c2 = 47) (Ab : Arv Z h0 b kb .byte 3 [(.int c0.toInt8.toInt32), (.int c1.toInt8.toInt32), (.int c2.toInt8.toInt32)] dv) :
    own_Met l Z (⟨"java/lang/StringLatin1", "lastIndexOf", "([BII)I"⟩ : MethodName) jdk_43_method_27_code 4 (some .int) own_r_lia #[(.ref b), (.int 47), (.int 2)] h0 (own_Qv (some (.int (-1))) h0 n0) := by
  refine own_body (by decide +kernel) ?_
  intro p e s m below meth c T0 X0 hx hZ hby hml hown hnm hret hlk e0
  have N0 := Fr.nil n0
  refine own_cast (own_frame (L := [rv b, iv 47, iv 2]) (ls := #[rv b, iv 47, iv 2, .unset]) rfl rfl) ?_
  refine og_iloadN X0 hx (hb hby d12_0) rfl ?_
  refine own_callS X0 hx hZ hown (own_hw hw 64 rfl) (own_hw hw 65 rfl) (own_hw hw 62 rfl) (own_hw hw 66 rfl) (by decide) (argsL := [(.int 47)]) (rest := []) (own_ce47 l Z a0 hw h0 n0) e0 (by rw [hml]; rfl) (lenOf own_pd97859 rfl) rfl (hb hby d12_1) (W := 0) (Nat.le_of_eq rfl) (by decide) ?_
  intro v1 T1 L1 X1 q1
  obtain ⟨rfl, N1q, e1⟩ := q1
  have N1 := Fr.app N0 N1q
  show own_Go p e below _ T1 (mkF m 4 #[rv b, iv 47, iv 2, .unset] [(.int 1)])
  refine og_ifY X1 hx 9 (hb hby d12_4) (feq (by decide)).2 (by decide) (by decide) ?_
  refine og_iloadN X1 hx (hb hby d12_9) rfl ?_
  refine og_aloadN X1 hx (hb hby d12_10) rfl rfl ?_
  refine own_len X1 hx hZ e1 Ab (hb hby d12_11) ?_
  show own_Go p e below _ T1 (mkF m 12 #[rv b, iv 47, iv 2, .unset] [(.int 3), (.int 2)])
  refine og_iconst X1 hx (hb hby d12_12) ?_
  refine og_isub X1 hx (hb hby d12_13) ?_
  show own_Go p e below _ T1 (mkF m 14 #[rv b, iv 47, iv 2, .unset] [(.int 2), (.int 2)])
  refine own_callS X1 hx hZ hown (own_hw hw 67 rfl) (own_hw hw 68 rfl) (own_hw hw 69 rfl) (own_hw hw 70 rfl) (by decide) (argsL := [(.int 2), (.int 2)]) (rest := []) (own_min_2_2 l Z a0 hw h0 n0) e1 (by rw [hml]; rfl) (lenOf own_pd23903 rfl) rfl (hb hby d12_14) (W := 0) (Nat.le_of_eq rfl) (by decide) ?_
  intro v2 T2 L2 X2 q2
  obtain ⟨rfl, N2q, e2⟩ := q2
  have N2 := Fr.app N1 N2q
  show own_Go p e below _ T2 (mkF m 17 #[rv b, iv 47, iv 2, .unset] [(.int 2)])
  refine og_istoreN X2 hx #[rv b, iv 47, iv 2, iv 2] (hb hby d12_17) rfl ?_
  refine og_iloadN X2 hx (hb hby d12_18) rfl ?_
  refine og_ifN X2 hx (hb hby d12_19) (flt (by decide)).1 ?_
  refine og_aloadN X2 hx (hb hby d12_22) rfl rfl ?_
  refine og_iloadN X2 hx (hb hby d12_23) rfl ?_
  refine own_ldB X2 hx hZ e2 Ab ⟨by decide, by decide⟩ rfl (hb hby d12_24) ?_
  show own_Go p e below _ T2 (mkF m 25 #[rv b, iv 47, iv 2, iv 2] [(.int c2.toInt8.toInt32)])
  refine og_iloadN X2 hx (hb hby d12_25) rfl ?_
  refine own_go (fun t k => XS.i2b X2.here hx rfl (hb hby d12_26) rfl k) ?_
  show own_Go p e below _ T2 (mkF m 27 #[rv b, iv 47, iv 2, iv 2] [(.int 47), (.int c2.toInt8.toInt32)])
  refine og_icY X2 hx 32 (hb hby d12_27) (feq (fun q => m2 (own_b47 _ hc2 q))).2 (by decide) (by decide) ?_
  refine own_go (fun t k => XS.iinc X2.here hx rfl (hb hby d12_32) rfl (l' := #[rv b, iv 47, iv 2, iv 1]) rfl k) ?_
  show own_Go p e below _ T2 (mkF m 35 #[rv b, iv 47, iv 2, iv 1] [])
  refine og_goto X2 hx 18 (hb hby d12_35) (by decide) (by decide) ?_
  refine og_iloadN X2 hx (hb hby d12_18) rfl ?_
  refine og_ifN X2 hx (hb hby d12_19) (flt (by decide)).1 ?_
  refine og_aloadN X2 hx (hb hby d12_22) rfl rfl ?_
  refine og_iloadN X2 hx (hb hby d12_23) rfl ?_
  refine own_ldB X2 hx hZ e2 Ab ⟨by decide, by decide⟩ rfl (hb hby d12_24) ?_
  show own_Go p e below _ T2 (mkF m 25 #[rv b, iv 47, iv 2, iv 1] [(.int c1.toInt8.toInt32)])
  refine og_iloadN X2 hx (hb hby d12_25) rfl ?_
  refine own_go (fun t k => XS.i2b X2.here hx rfl (hb hby d12_26) rfl k) ?_
  show own_Go p e below _ T2 (mkF m 27 #[rv b, iv 47, iv 2, iv 1] [(.int 47), (.int c1.toInt8.toInt32)])
  refine og_icY X2 hx 32 (hb hby d12_27) (feq (fun q => m1 (own_b47 _ hc1 q))).2 (by decide) (by decide) ?_
  refine own_go (fun t k => XS.iinc X2.here hx rfl (hb hby d12_32) rfl (l' := #[rv b, iv 47, iv 2, iv 0]) rfl k) ?_
  show own_Go p e below _ T2 (mkF m 35 #[rv b, iv 47, iv 2, iv 0] [])
  refine og_goto X2 hx 18 (hb hby d12_35) (by decide) (by decide) ?_
  refine og_iloadN X2 hx (hb hby d12_18) rfl ?_
  refine og_ifN X2 hx (hb hby d12_19) (flt (by decide)).1 ?_
  refine og_aloadN X2 hx (hb hby d12_22) rfl rfl ?_
  refine og_iloadN X2 hx (hb hby d12_23) rfl ?_
  refine own_ldB X2 hx hZ e2 Ab ⟨by decide, by decide⟩ rfl (hb hby d12_24) ?_
  show own_Go p e below _ T2 (mkF m 25 #[rv b, iv 47, iv 2, iv 0] [(.int c0.toInt8.toInt32)])
  refine og_iloadN X2 hx (hb hby d12_25) rfl ?_
  refine own_go (fun t k => XS.i2b X2.here hx rfl (hb hby d12_26) rfl k) ?_
  show own_Go p e below _ T2 (mkF m 27 #[rv b, iv 47, iv 2, iv 0] [(.int 47), (.int c0.toInt8.toInt32)])
  refine og_icY X2 hx 32 (hb hby d12_27) (feq (fun q => m0 (own_b47 _ hc0 q))).2 (by decide) (by decide) ?_
  refine own_go (fun t k => XS.iinc X2.here hx rfl (hb hby d12_32) rfl (l' := #[rv b, iv 47, iv 2, iv (-1)]) rfl k) ?_
  show own_Go p e below _ T2 (mkF m 35 #[rv b, iv 47, iv 2, iv (-1)] [])
  refine og_goto X2 hx 18 (hb hby d12_35) (by decide) (by decide) ?_
  refine og_iloadN X2 hx (hb hby d12_18) rfl ?_
  refine og_ifY X2 hx 38 (hb hby d12_19) (tlt (by decide)).1 (by decide) (by decide) ?_
  refine og_iconst X2 hx (hb hby d12_38) ?_
  exact own_retI X2 hx hret hlk (hb hby d12_39) rfl (by simp) (by decide) (by decide) (⟨rfl, N2, e2⟩)
def own_r_own_lib_3 : Room := { frames := 2, cells := 0, slots := 0, locals := 28 }
theorem own_lib_3 (l : Launch) (Z : State) (a0 : Array Value) (hw : own_W a0 Z) (z : Int32) (sf : Value) (t b : Addr) (kb : ClassId) (dv : Value) (c0 c1 c2 : Int32) (r : Int32) (h0 : Heap) (n0 : Nat) (hO : Old Z n0 h0) (hG : own_Gs Z z sf) (inn : own_Met l Z (⟨"java/lang/StringLatin1", "lastIndexOf", "([BII)I"⟩ : MethodName) jdk_43_method_27_code 4 (some .int) own_r_lia #[.ref b, .int 47, .int 2] h0 (own_Qv (some (.int r)) h0 n0)) (Et : own_E Z h0 t) (Fv : own_V Z h0 t b) (Fc : own_C Z h0 t) (Ab : Arv Z h0 b kb .byte 3 [(.int c0.toInt8.toInt32), (.int c1.toInt8.toInt32), (.int c2.toInt8.toInt32)] dv) :
    own_Met l Z (⟨"java/lang/String", "lastIndexOf", "(II)I"⟩ : MethodName) jdk_42_method_83_code 3 (some .int) own_r_own_lib_3 #[(.ref t), (.int 47), (.int 2)] h0 (own_Qv (some (.int r)) h0 n0) := by
  refine own_body (by decide +kernel) ?_
  intro p e s m below meth c T0 X0 hx hZ hby hml hown hnm hret hlk e0
  have N0 := Fr.nil n0
  refine own_cast (own_frame (L := [rv t, iv 47, iv 2]) (ls := #[rv t, iv 47, iv 2]) rfl rfl) ?_
  obtain ⟨SC, hz, SF, rf⟩ := id hG
  refine og_aloadN X0 hx (hb hby d10_0) rfl rfl ?_
  refine own_callV X0 hx hZ hown (own_hw hw 55 rfl) (own_hw hw 56 rfl) (notFace_of_selects (args := #[]) (mvT hZ (own_hw hw 58 rfl))) (own_hw hw 58 rfl) (own_hw hw 57 rfl) (own_hw hw 59 rfl) (own_hw hw 11 rfl) (by decide) (b := t) (argsL := []) (rest := []) (own_isl1 l Z a0 hw z sf t h0 n0 hO hG Fc) e0 Et (by rw [hml]; rfl) (lenOf own_pd61835 rfl) rfl (hb hby d10_1) (W := 0) (Nat.le_of_eq rfl) (by decide) ?_
  intro v1 T1 L1 X1 q1
  obtain ⟨rfl, N1q, e1⟩ := q1
  have N1 := Fr.app N0 N1q
  show own_Go p e below _ T1 (mkF m 4 #[rv t, iv 47, iv 2] [(.int (1 : Int32))])
  refine og_ifN X1 hx (hb hby d10_4) (feq (by decide)).1 ?_
  refine og_aloadN X1 hx (hb hby d10_7) rfl rfl ?_
  refine og_getF X1 hx hZ hown (own_hw hw 28 rfl) Via.refl e1 Fv (hb hby d10_8) ?_
  intro T2 X2 e2
  refine og_iloadN X2 hx (hb hby d10_11) rfl ?_
  refine og_iloadN X2 hx (hb hby d10_12) rfl ?_
  refine own_callS X2 hx hZ hown (own_hw hw 60 rfl) (own_hw hw 61 rfl) (own_hw hw 62 rfl) (own_hw hw 63 rfl) (by decide) (argsL := [(.ref b), (.int 47), (.int 2)]) (rest := []) inn e2 (by rw [hml]; rfl) (lenOf own_pd83039 rfl) rfl (hb hby d10_13) (W := 0) (Nat.le_of_eq rfl) (by decide) ?_
  intro v3 T3 L3 X3 q3
  obtain ⟨rfl, N3q, e3⟩ := q3
  have N3 := Fr.app N1 N3q
  show own_Go p e below _ T3 (mkF m 16 #[rv t, iv 47, iv 2] [(.int r)])
  refine og_goto X3 hx 28 (hb hby d10_16) (by decide) (by decide) ?_
  exact own_retI X3 hx hret hlk (hb hby d10_28) rfl (by simp) (by decide) (by decide) (⟨rfl, N3, e3⟩)
def own_r_own_lic_3 : Room := { frames := 3, cells := 0, slots := 0, locals := 42 }
theorem own_lic_3 (l : Launch) (Z : State) (a0 : Array Value) (hw : own_W a0 Z) (z : Int32) (sf : Value) (t b : Addr) (kb : ClassId) (dv : Value) (c0 c1 c2 : Int32) (r : Int32) (h0 : Heap) (n0 : Nat) (hO : Old Z n0 h0) (hG : own_Gs Z z sf) (inn : own_Met l Z (⟨"java/lang/StringLatin1", "lastIndexOf", "([BII)I"⟩ : MethodName) jdk_43_method_27_code 4 (some .int) own_r_lia #[.ref b, .int 47, .int 2] h0 (own_Qv (some (.int r)) h0 n0)) (Et : own_E Z h0 t) (Fv : own_V Z h0 t b) (Fc : own_C Z h0 t) (Ab : Arv Z h0 b kb .byte 3 [(.int c0.toInt8.toInt32), (.int c1.toInt8.toInt32), (.int c2.toInt8.toInt32)] dv) :
    own_Met l Z (⟨"java/lang/String", "lastIndexOf", "(I)I"⟩ : MethodName) jdk_42_method_82_code 2 (some .int) own_r_own_lic_3 #[(.ref t), (.int 47)] h0 (own_Qv (some (.int r)) h0 n0) := by
  refine own_body (by decide +kernel) ?_
  intro p e s m below meth c T0 X0 hx hZ hby hml hown hnm hret hlk e0
  have N0 := Fr.nil n0
  refine own_cast (own_frame (L := [rv t, iv 47]) (ls := #[rv t, iv 47]) rfl rfl) ?_
  obtain ⟨SC, hz, SF, rf⟩ := id hG
  refine og_aloadN X0 hx (hb hby d7_0) rfl rfl ?_
  refine og_iloadN X0 hx (hb hby d7_1) rfl ?_
  refine og_aloadN X0 hx (hb hby d7_2) rfl rfl ?_
  refine own_callV X0 hx hZ hown (own_hw hw 39 rfl) (own_hw hw 40 rfl) (notFace_of_selects (args := #[]) (mvT hZ (own_hw hw 42 rfl))) (own_hw hw 42 rfl) (own_hw hw 41 rfl) (own_hw hw 43 rfl) (own_hw hw 11 rfl) (by decide) (b := t) (argsL := []) (rest := [(.int 47), (.ref t)]) (own_slen l Z a0 hw z sf t b _ _ 3 _ h0 n0 hO hG Et Fv Fc Ab) e0 Et (by rw [hml]; rfl) (lenOf own_pd13941 rfl) rfl (hb hby d7_3) (W := 2) (Nat.le_of_eq rfl) (by decide) ?_
  intro v1 T1 L1 X1 q1
  obtain ⟨rfl, N1q, e1⟩ := q1
  have N1 := Fr.app N0 N1q
  show own_Go p e below _ T1 (mkF m 6 #[rv t, iv 47] [(.int 3), (.int 47), (.ref t)])
  refine og_iconst X1 hx (hb hby d7_6) ?_
  refine og_isub X1 hx (hb hby d7_7) ?_
  show own_Go p e below _ T1 (mkF m 8 #[rv t, iv 47] [(.int 2), (.int 47), (.ref t)])
  refine own_callV X1 hx hZ hown (own_hw hw 50 rfl) (own_hw hw 51 rfl) (notFace_of_selects (args := #[]) (mvT hZ (own_hw hw 53 rfl))) (own_hw hw 53 rfl) (own_hw hw 52 rfl) (own_hw hw 54 rfl) (own_hw hw 11 rfl) (by decide) (b := t) (argsL := [(.int 47), (.int 2)]) (rest := []) (own_lib_3 l Z a0 hw z sf t b _ _ c0 c1 c2 r h0 n0 hO hG inn Et Fv Fc Ab) e1 Et (by rw [hml]; rfl) (lenOf own_pd23903 rfl) rfl (hb hby d7_8) (W := 0) (Nat.le_of_eq rfl) (by decide) ?_
  intro v2 T2 L2 X2 q2
  obtain ⟨rfl, N2q, e2⟩ := q2
  have N2 := Fr.app N1 N2q
  show own_Go p e below _ T2 (mkF m 11 #[rv t, iv 47] [(.int r)])
  exact own_retI X2 hx hret hlk (hb hby d7_11) rfl (by simp) (by decide) (by decide) (⟨rfl, N2, e2⟩)
def own_r_own_po_3_m1 : Room := { frames := 4, cells := 0, slots := 0, locals := 58 }
theorem own_po_3_m1 (l : Launch) (Z : State) (a0 : Array Value) (hw : own_W a0 Z) (z : Int32) (sf : Value) (t b : Addr) (kb : ClassId) (dv : Value) (c0 c1 c2 : Int32) (h0 : Heap) (n0 : Nat) (hO : Old Z n0 h0) (hG : own_Gs Z z sf) (hc0 : ¬ c0 < 0 ∧ ¬ (255 : Int32) < c0) (m0 : ¬ c0 = 47) (hc1 : ¬ c1 < 0 ∧ ¬ (255 : Int32) < c1) (m1 : ¬ c1 = 47) (hc2 : ¬ c2 < 0 ∧ ¬ (255 : Int32) < c2) (m2 : ¬ c2 = 47) (Et : own_E Z h0 t) (Fv : own_V Z h0 t b) (Fc : own_C Z h0 t) (Ab : Arv Z h0 b kb .byte 3 [(.int c0.toInt8.toInt32), (.int c1.toInt8.toInt32), (.int c2.toInt8.toInt32)] dv) :
    own_Met l Z (⟨"com/example/svazek/svazek/PackageFolder", "nameOf", "(Ljava/lang/String;)Ljava/lang/String;"⟩ : MethodName) prog_41_method_8_code 1 (some (.object "java/lang/String")) own_r_own_po_3_m1 #[(.ref t)] h0 (own_Qv (some (.ref t)) h0 n0) := by
  refine own_body (by decide +kernel) ?_
  intro p e s m below meth c T0 X0 hx hZ hby hml hown hnm hret hlk e0
  have N0 := Fr.nil n0
  refine own_cast (own_frame (L := [rv t]) (ls := #[rv t]) rfl rfl) ?_
  obtain ⟨SC, hz, SF, rf⟩ := id hG
  refine og_aloadN X0 hx (hb hby d6_0) rfl rfl ?_
  refine og_aloadN X0 hx (hb hby d6_1) rfl rfl ?_
  refine og_bipush X0 hx (hb hby d6_2) ?_
  refine own_callV X0 hx hZ hown (own_hw hw 34 rfl) (own_hw hw 35 rfl) (notFace_of_selects (args := #[]) (mvT hZ (own_hw hw 37 rfl))) (own_hw hw 37 rfl) (own_hw hw 36 rfl) (own_hw hw 38 rfl) (own_hw hw 11 rfl) (by decide) (b := t) (argsL := [(.int 47)]) (rest := [(.ref t)]) (own_lic_3 l Z a0 hw z sf t b _ _ c0 c1 c2 (-1) h0 n0 hO hG (own_lia_3_m1 l Z a0 hw b _ _ c0 c1 c2 h0 n0 hc0 m0 hc1 m1 hc2 m2 Ab) Et Fv Fc Ab) e0 Et (by rw [hml]; rfl) (lenOf own_pd49053 rfl) rfl (hb hby d6_4) (W := 1) (Nat.le_of_eq rfl) (by decide) ?_
  intro v1 T1 L1 X1 q1
  obtain ⟨rfl, N1q, e1⟩ := q1
  have N1 := Fr.app N0 N1q
  show own_Go p e below _ T1 (mkF m 7 #[rv t] [(.int (-1)), (.ref t)])
  refine og_iconst X1 hx (hb hby d6_7) ?_
  refine og_iadd X1 hx (hb hby d6_8) ?_
  show own_Go p e below _ T1 (mkF m 9 #[rv t] [(.int 0), (.ref t)])
  refine own_callV X1 hx hZ hown (own_hw hw 71 rfl) (own_hw hw 72 rfl) (notFace_of_selects (args := #[]) (mvT hZ (own_hw hw 74 rfl))) (own_hw hw 74 rfl) (own_hw hw 73 rfl) (own_hw hw 75 rfl) (own_hw hw 11 rfl) (by decide) (b := t) (argsL := [(.int 0)]) (rest := []) (own_sub1Sz l Z a0 hw z sf t b _ _ 3 _ h0 n0 hO hG (by decide) Et Fv Fc Ab) e1 Et (by rw [hml]; rfl) (lenOf own_pd44404 rfl) rfl (hb hby d6_9) (W := 0) (Nat.le_of_eq rfl) (by decide) ?_
  intro v2 T2 L2 X2 q2
  obtain ⟨rfl, N2q, e2⟩ := q2
  have N2 := Fr.app N1 N2q
  show own_Go p e below _ T2 (mkF m 12 #[rv t] [(.ref t)])
  exact own_retA X2 hx hret hlk (hb hby d6_12) rfl rfl (by decide) (by decide) (⟨rfl, N2, e2⟩)
def own_Qs2 (Z : State) (h0 : Heap) (n0 : Nat) (v0 v1 : Value) (v : Option Value) (h : Heap) (L : List Loc) : Prop := ∃ (t b : Addr) (k : ClassId), v = some (.ref t) ∧ Fr n0 L ∧ Keep h0 h [] ∧ h0.size ≤ t ∧ n0 ≤ t ∧ h0.size ≤ b ∧ n0 ≤ b ∧ t ≠ b ∧ own_E Z h t ∧ own_V Z h t b ∧ own_C Z h t ∧ Arv Z h b k .byte 2 [v0, v1] (.int (0 : Int32))
def own_r_own_ckl_1_3 : Room := { frames := 0, cells := 0, slots := 0, locals := 0 }
theorem own_ckl_1_3 (l : Launch) (Z : State) (a0 : Array Value) (hw : own_W a0 Z)  (h0 : Heap) (n0 : Nat)  :
    own_Met l Z (⟨"java/util/Arrays", "checkLength", "(II)V"⟩ : MethodName) jdk_65_method_131_code 2 none own_r_own_ckl_1_3 #[(.int 1), (.int 3)] h0 (own_Qv none h0 n0) := by
  refine own_body (by decide +kernel) ?_
  intro p e s m below meth c T0 X0 hx hZ hby hml hown hnm hret hlk e0
  have N0 := Fr.nil n0
  refine own_cast (own_frame (L := [iv 1, iv 3]) (ls := #[iv 1, iv 3]) rfl rfl) ?_
  refine og_iloadN X0 hx (hb hby d30_0) rfl ?_
  refine og_iloadN X0 hx (hb hby d30_1) rfl ?_
  refine og_icY X0 hx 37 (hb hby d30_2) (flt (by decide)).2.1 (by decide) (by decide) ?_
  exact own_retV X0 hx hret hlk (hb hby d30_37) (by decide) (by decide) (⟨rfl, N0, e0⟩)
def own_Qr_1_3_3 (Z : State) (h0 : Heap) (n0 : Nat) (v0 v1 v2 : Value) (v : Option Value) (h : Heap) (L : List Loc) : Prop := ∃ (b : Addr) (k : ClassId), v = some (.ref b) ∧ Fr n0 L ∧ Keep h0 h [] ∧ h0.size ≤ b ∧ n0 ≤ b ∧ Arv Z h b k .byte 2 [v1, v2] (.int (0 : Int32))
def own_r_own_crb_1_3_3 : Room := { frames := 1, cells := 1, slots := 2, locals := 18 }
theorem own_crb_1_3_3 (l : Launch) (Z : State) (a0 : Array Value) (hw : own_W a0 Z) (b : Addr) (kb : ClassId) (dv : Value) (v0 v1 v2 : Value) (h0 : Heap) (n0 : Nat) (hO : Old Z n0 h0) (Ab : Arv Z h0 b kb .byte 3 [v0, v1, v2] dv) :
    own_Met l Z (⟨"java/util/Arrays", "copyOfRangeByte", "([BII)[B"⟩ : MethodName) jdk_65_method_133_code 5 (some (.array .byte)) own_r_own_crb_1_3_3 #[(.ref b), (.int 1), (.int 3)] h0 (own_Qr_1_3_3 Z h0 n0 v0 v1 v2) := by
  refine own_body (by decide +kernel) ?_
  intro p e s m below meth c T0 X0 hx hZ hby hml hown hnm hret hlk e0
  have N0 := Fr.nil n0
  refine own_cast (own_frame (L := [rv b, iv 1, iv 3]) (ls := #[rv b, iv 1, iv 3, .unset, .unset]) rfl rfl) ?_
  refine og_iloadN X0 hx (hb hby d29_0) rfl ?_
  refine og_iloadN X0 hx (hb hby d29_1) rfl ?_
  refine own_callS X0 hx hZ hown (own_hw hw 129 rfl) (own_hw hw 130 rfl) (own_hw hw 124 rfl) (own_hw hw 131 rfl) (by decide) (argsL := [(.int 1), (.int 3)]) (rest := []) (own_ckl_1_3 l Z a0 hw h0 n0) e0 (by rw [hml]; rfl) (lenOf own_pd97226 rfl) rfl (hb hby d29_2) (W := 0) (Nat.le_of_eq rfl) (by decide) ?_
  intro v1 T1 L1 X1 q1
  obtain ⟨rfl, N1q, e1⟩ := q1
  have N1 := Fr.app N0 N1q
  show own_Go p e below _ T1 (mkF m 5 #[rv b, iv 1, iv 3, .unset, .unset] [])
  refine og_iloadN X1 hx (hb hby d29_5) rfl ?_
  refine og_iloadN X1 hx (hb hby d29_6) rfl ?_
  refine og_isub X1 hx (hb hby d29_7) ?_
  refine og_istoreN X1 hx #[rv b, iv 1, iv 3, iv 2, .unset] (hb hby d29_8) rfl ?_
  refine og_iloadN X1 hx (hb hby d29_9) rfl ?_
  refine own_newP X1 hx hZ (own_hw hw 23 rfl) e1 (hb hby d29_10) (by decide) 2 (by decide) (by decide) (by decide) (by decide) ?_
  intro T2 h2 k2 b2 g2 X2 e2 E2 A2
  have ne_b_b2 : b ≠ b2 := Nat.ne_of_lt (Nat.lt_of_lt_of_eq Ab.lt g2.symm)
  have ge_b2 : n0 ≤ b2 := Nat.le_trans (own_oldle hO) (Nat.le_of_eq g2.symm)
  have sz_b2 : h0.size ≤ b2 := Nat.le_trans (Keep.refl h0 []).1 (Nat.le_of_eq g2.symm)
  have A_b_2 := Ab.ext E2
  have O2 := hO.ext E2
  have K2 := (Keep.refl h0 []).ext E2
  have A_b2_2 : Arv Z h2 b2 k2 .byte 2 [(.int (0 : Int32)), (.int (0 : Int32))] (.int (0 : Int32)) := A2
  show own_Go p e below _ T2 (mkF m 12 #[rv b, iv 1, iv 3, iv 2, .unset] [(.ref b2)])
  refine og_astore X2 hx #[rv b, iv 1, iv 3, iv 2, rv b2] (hb hby d29_12) rfl rfl ?_
  refine og_aloadN X2 hx (hb hby d29_14) rfl rfl ?_
  refine og_iloadN X2 hx (hb hby d29_15) rfl ?_
  refine og_aload X2 hx (hb hby d29_16) rfl rfl ?_
  refine og_iconst X2 hx (hb hby d29_18) ?_
  refine og_aloadN X2 hx (hb hby d29_19) rfl rfl ?_
  refine own_len X2 hx hZ e2 A_b_2 (hb hby d29_20) ?_
  show own_Go p e below _ T2 (mkF m 21 #[rv b, iv 1, iv 3, iv 2, rv b2] [(.int 3), (.int 0), (.ref b2), (.int 1), (.ref b)])
  refine og_iloadN X2 hx (hb hby d29_21) rfl ?_
  refine og_isub X2 hx (hb hby d29_22) ?_
  refine og_iloadN X2 hx (hb hby d29_23) rfl ?_
  refine own_callS X2 hx hZ hown (own_hw hw 132 rfl) (own_hw hw 68 rfl) (own_hw hw 69 rfl) (own_hw hw 70 rfl) (by decide) (argsL := [(.int 2), (.int 2)]) (rest := [(.int 0), (.ref b2), (.int 1), (.ref b)]) (own_min_2_2 l Z a0 hw h2 n0) e2 (by rw [hml]; rfl) (lenOf own_pd23903 rfl) rfl (hb hby d29_24) (W := 4) (Nat.le_of_eq rfl) (by decide) ?_
  intro v3 T3 L3 X3 q3
  obtain ⟨rfl, N3q, e3⟩ := q3
  have N3 := Fr.app N1 N3q
  show own_Go p e below _ T3 (mkF m 27 #[rv b, iv 1, iv 3, iv 2, rv b2] [(.int 2), (.int 0), (.ref b2), (.int 1), (.ref b)])
  obtain ⟨T4, h4, L4, X4, e4, N4, K4q, A4, st4⟩ := cpA X3 hx hZ hown (own_hw hw 133 rfl) (own_hw hw 136 rfl) (own_hw hw 134 rfl) (own_hw hw 135 rfl) e3 A_b_2 A_b2_2 (us := [v1, v2]) (Or.inl ⟨rfl, rfl⟩) (by decide) (by decide) (by decide) (by decide) (by decide) rfl (by decide) N3 ge_b2 (g := (mkF m 27 #[rv b, iv 1, iv 3, iv 2, rv b2] [(.int 2), (.int 0), (.ref b2), (.int 1), (.ref b)])) rfl (by rw [hml]; rfl) rfl (hb hby d29_27) (by decide) (W := 0) (by show 2 * 0 + _ ≤ _; exact Nat.le_of_eq rfl) (by decide)
  refine own_go st4 ?_
  have A_b_4 := A_b_2.keep K4q (ninS ne_b_b2 nin0)
  have O4 := O2.keep K4q (allS ge_b2 all0)
  have K4 := K2.trans K4q (allS (Or.inr sz_b2) all0)
  have A_b2_4 : Arv Z h4 b2 k2 .byte 2 [v1, v2] (.int (0 : Int32)) := A4
  show own_Go p e below _ T4 (mkF m 30 #[rv b, iv 1, iv 3, iv 2, rv b2] [])
  refine og_aload X4 hx (hb hby d29_30) rfl rfl ?_
  exact own_retA X4 hx hret hlk (hb hby d29_32) rfl rfl (by decide) (by decide) (by rw [e4]; exact ⟨b2, _, rfl, N4, K4, sz_b2, ge_b2, A_b2_4⟩)
def own_r_own_cr_1_3_3 : Room := { frames := 2, cells := 1, slots := 2, locals := 34 }
theorem own_cr_1_3_3 (l : Launch) (Z : State) (a0 : Array Value) (hw : own_W a0 Z) (b : Addr) (kb : ClassId) (dv : Value) (v0 v1 v2 : Value) (h0 : Heap) (n0 : Nat) (hO : Old Z n0 h0) (Ab : Arv Z h0 b kb .byte 3 [v0, v1, v2] dv) :
    own_Met l Z (⟨"java/util/Arrays", "copyOfRange", "([BII)[B"⟩ : MethodName) jdk_65_method_132_code 3 (some (.array .byte)) own_r_own_cr_1_3_3 #[(.ref b), (.int 1), (.int 3)] h0 (own_Qr_1_3_3 Z h0 n0 v0 v1 v2) := by
  refine own_body (by decide +kernel) ?_
  intro p e s m below meth c T0 X0 hx hZ hby hml hown hnm hret hlk e0
  have N0 := Fr.nil n0
  refine own_cast (own_frame (L := [rv b, iv 1, iv 3]) (ls := #[rv b, iv 1, iv 3]) rfl rfl) ?_
  refine og_iloadN X0 hx (hb hby d28_0) rfl ?_
  refine og_ifY X0 hx 10 (hb hby d28_1) (feq (by decide)).2 (by decide) (by decide) ?_
  refine og_aloadN X0 hx (hb hby d28_10) rfl rfl ?_
  refine og_iloadN X0 hx (hb hby d28_11) rfl ?_
  refine og_iloadN X0 hx (hb hby d28_12) rfl ?_
  refine own_callS X0 hx hZ hown (own_hw hw 126 rfl) (own_hw hw 127 rfl) (own_hw hw 124 rfl) (own_hw hw 128 rfl) (by decide) (argsL := [(.ref b), (.int 1), (.int 3)]) (rest := []) (own_crb_1_3_3 l Z a0 hw b _ _ v0 v1 v2 h0 n0 hO Ab) e0 (by rw [hml]; rfl) (lenOf own_pd77155 rfl) rfl (hb hby d28_13) (W := 0) (Nat.le_of_eq rfl) (by decide) ?_
  intro v1 T1 L1 X1 q1
  obtain ⟨b1, k1, rfl, N1q, K1q, z1q, g1q, A1q⟩ := q1
  have N1 := Fr.app N0 N1q
  have ne_b_b1 : b ≠ b1 := Nat.ne_of_lt (Nat.lt_of_lt_of_le Ab.lt z1q)
  have sz_b1 : h0.size ≤ b1 := Nat.le_trans (Keep.refl h0 []).1 z1q
  have A_b_1 := Ab.keep K1q nin0
  have O1 := hO.keep K1q all0
  have K1 := (Keep.refl h0 []).trans K1q all0
  show own_Go p e below _ T1 (mkF m 16 #[rv b, iv 1, iv 3] [(.ref b1)])
  exact own_retA X1 hx hret hlk (hb hby d28_16) rfl rfl (by decide) (by decide) (⟨b1, _, rfl, N1, K1, sz_b1, g1q, A1q⟩)
def own_r_own_ns_1_2_3 : Room := { frames := 3, cells := 2, slots := 6, locals := 50 }
theorem own_ns_1_2_3 (l : Launch) (Z : State) (a0 : Array Value) (hw : own_W a0 Z) (b : Addr) (kb : ClassId) (dv : Value) (v0 v1 v2 : Value) (h0 : Heap) (n0 : Nat) (hO : Old Z n0 h0) (Ab : Arv Z h0 b kb .byte 3 [v0, v1, v2] dv) :
    own_Met l Z (⟨"java/lang/StringLatin1", "newString", "([BII)Ljava/lang/String;"⟩ : MethodName) jdk_43_method_47_code 3 (some (.object "java/lang/String")) own_r_own_ns_1_2_3 #[(.ref b), (.int 1), (.int 2)] h0 (own_Qs2 Z h0 n0 v1 v2) := by
  refine own_body (by decide +kernel) ?_
  intro p e s m below meth c T0 X0 hx hZ hby hml hown hnm hret hlk e0
  have N0 := Fr.nil n0
  refine own_cast (own_frame (L := [rv b, iv 1, iv 2]) (ls := #[rv b, iv 1, iv 2]) rfl rfl) ?_
  refine og_iloadN X0 hx (hb hby d23_0) rfl ?_
  refine og_ifY X0 hx 7 (hb hby d23_1) (feq (by decide)).2 (by decide) (by decide) ?_
  refine own_newO X0 hx hZ hown (own_hw hw 121 rfl) (own_hw hw 10 rfl) (own_hw hw 11 rfl) e0 (hb hby d23_7) (by decide) (by decide) ?_
  intro T1 h1 b1 g1 X1 e1 E1 A1 D1
  have ne_b_b1 : b ≠ b1 := Nat.ne_of_lt (Nat.lt_of_lt_of_eq Ab.lt g1.symm)
  have ge_b1 : n0 ≤ b1 := Nat.le_trans (own_oldle hO) (Nat.le_of_eq g1.symm)
  have sz_b1 : h0.size ≤ b1 := Nat.le_trans (Keep.refl h0 []).1 (Nat.le_of_eq g1.symm)
  have A_b_1 := Ab.ext E1
  have O1 := hO.ext E1
  have K1 := (Keep.refl h0 []).ext E1
  have F_b1_value_1 : Fld Z h1 b1 "java/lang/String" "value" "[B" .null := D1 (Or.inr (own_hw hw 24 rfl)) (ty := (.array .byte)) (by decide)
  have F_b1_coder_1 : Fld Z h1 b1 "java/lang/String" "coder" "B" (.int 0) := D1 (Or.inr (own_hw hw 25 rfl)) (ty := .byte) (by decide)
  show own_Go p e below _ T1 (mkF m 10 #[rv b, iv 1, iv 2] [(.ref b1)])
  refine og_dup X1 hx (hb hby d23_10) rfl ?_
  refine og_aloadN X1 hx (hb hby d23_11) rfl rfl ?_
  refine og_iloadN X1 hx (hb hby d23_12) rfl ?_
  refine og_iloadN X1 hx (hb hby d23_13) rfl ?_
  refine og_iloadN X1 hx (hb hby d23_14) rfl ?_
  refine og_iadd X1 hx (hb hby d23_15) ?_
  show own_Go p e below _ T1 (mkF m 16 #[rv b, iv 1, iv 2] [(.int 3), (.int 1), (.ref b), (.ref b1), (.ref b1)])
  refine own_callS X1 hx hZ hown (own_hw hw 122 rfl) (own_hw hw 123 rfl) (own_hw hw 124 rfl) (own_hw hw 125 rfl) (by decide) (argsL := [(.ref b), (.int 1), (.int 3)]) (rest := [(.ref b1), (.ref b1)]) (own_cr_1_3_3 l Z a0 hw b _ _ v0 v1 v2 h1 n0 O1 A_b_1) e1 (by rw [hml]; rfl) (lenOf own_pd77155 rfl) rfl (hb hby d23_16) (W := 2) (Nat.le_of_eq rfl) (by decide) ?_
  intro v2 T2 L2 X2 q2
  obtain ⟨b2, k2, rfl, N2q, K2q, z2q, g2q, A2q⟩ := q2
  have N2 := Fr.app N0 N2q
  have ne_b_b2 : b ≠ b2 := Nat.ne_of_lt (Nat.lt_of_lt_of_le A_b_1.lt z2q)
  have ne_b1_b2 : b1 ≠ b2 := Nat.ne_of_lt (Nat.lt_of_lt_of_le A1.lt z2q)
  have sz_b2 : h0.size ≤ b2 := Nat.le_trans K1.1 z2q
  have A_b_2 := A_b_1.keep K2q nin0
  have E_b1_2 := A1.keep K2q
  have F_b1_value_2 := F_b1_value_1.keep K2q nin0
  have F_b1_coder_2 := F_b1_coder_1.keep K2q nin0
  have O2 := O1.keep K2q all0
  have K2 := K1.trans K2q all0
  show own_Go p e below _ T2 (mkF m 19 #[rv b, iv 1, iv 2] [(.ref b2), (.ref b1), (.ref b1)])
  refine og_iconst X2 hx (hb hby d23_19) ?_
  refine own_callN X2 hx hZ hown (own_hw hw 137 rfl) (own_hw hw 138 rfl) (own_hw hw 139 rfl) (own_hw hw 11 rfl) (by decide) rfl (b := b1) (argsL := [(.ref b2), (.int 0)]) (rest := [(.ref b1)]) (own_si l Z a0 hw b1 b2 _ _ T2.heap n0 O2 ge_b1 E_b1_2 F_b1_value_2 F_b1_coder_2) rfl (by rw [hml]; rfl) (lenOf own_pd58512 rfl) rfl (hb hby d23_20) (W := 1) (Nat.le_of_eq rfl) (by decide) ?_
  intro v3 T3 L3 X3 q3
  obtain ⟨rfl, N3q, K3q, Fv3, Fc3⟩ := q3
  have N3 := Fr.app N2 N3q
  have A_b_3 := A_b_2.keep K3q (ninS ne_b_b1 nin0)
  have E_b1_3 := E_b1_2.keep K3q
  have A_b2_3 := A2q.keep K3q (ninS (Ne.symm ne_b1_b2) nin0)
  have O3 := O2.keep K3q (allS ge_b1 all0)
  have K3 := K2.trans K3q (allS (Or.inr sz_b1) all0)
  show own_Go p e below _ T3 (mkF m 23 #[rv b, iv 1, iv 2] [(.ref b1)])
  exact own_retA X3 hx hret hlk (hb hby d23_23) rfl rfl (by decide) (by decide) (⟨b1, b2, _, rfl, N3, K3, sz_b1, ge_b1, sz_b2, g2q, ne_b1_b2, E_b1_3, Fv3, Fc3, A_b2_3⟩)
def own_r_own_subN2 : Room := { frames := 4, cells := 2, slots := 6, locals := 64 }
theorem own_subN2 (l : Launch) (Z : State) (a0 : Array Value) (hw : own_W a0 Z) (z : Int32) (sf : Value) (t b : Addr) (kb : ClassId) (dv : Value) (n : Int32) (vs : List Value) (lo : Int32) (hi : Int32) (w0 w1 : Value) (h0 : Heap) (n0 : Nat) (hO : Old Z n0 h0) (hG : own_Gs Z z sf) (h1 : ¬ lo < 0) (h2 : ¬ hi < lo) (h3 : ¬ n < hi) (hx0 : ¬ lo = 0) (inn : own_Met l Z (⟨"java/lang/StringLatin1", "newString", "([BII)Ljava/lang/String;"⟩ : MethodName) jdk_43_method_47_code 3 (some (.object "java/lang/String")) own_r_own_ns_1_2_3 #[.ref b, .int lo, .int (hi - lo)] h0 (own_Qs2 Z h0 n0 w0 w1)) (Et : own_E Z h0 t) (Fv : own_V Z h0 t b) (Fc : own_C Z h0 t) (Ab : Arv Z h0 b kb .byte n vs dv) :
    own_Met l Z (⟨"java/lang/String", "substring", "(II)Ljava/lang/String;"⟩ : MethodName) jdk_42_method_92_code 5 (some (.object "java/lang/String")) own_r_own_subN2 #[(.ref t), (.int lo), (.int hi)] h0 (own_Qs2 Z h0 n0 w0 w1) := by
  refine own_body (by decide +kernel) ?_
  intro p e s m below meth c T0 X0 hx hZ hby hml hown hnm hret hlk e0
  have N0 := Fr.nil n0
  refine own_cast (own_frame (L := [rv t, iv lo, iv hi]) (ls := #[rv t, iv lo, iv hi, .unset, .unset]) rfl rfl) ?_
  obtain ⟨SC, hz, SF, rf⟩ := id hG
  refine og_aloadN X0 hx (hb hby d16_0) rfl rfl ?_
  refine own_callV X0 hx hZ hown (own_hw hw 39 rfl) (own_hw hw 40 rfl) (notFace_of_selects (args := #[]) (mvT hZ (own_hw hw 42 rfl))) (own_hw hw 42 rfl) (own_hw hw 41 rfl) (own_hw hw 43 rfl) (own_hw hw 11 rfl) (by decide) (b := t) (argsL := []) (rest := []) (own_slen l Z a0 hw z sf t b _ _ n _ h0 n0 hO hG Et Fv Fc Ab) e0 Et (by rw [hml]; rfl) (lenOf own_pd13941 rfl) rfl (hb hby d16_1) (W := 0) (Nat.le_of_eq rfl) (by decide) ?_
  intro v1 T1 L1 X1 q1
  obtain ⟨rfl, N1q, e1⟩ := q1
  have N1 := Fr.app N0 N1q
  show own_Go p e below _ T1 (mkF m 4 #[rv t, iv lo, iv hi, .unset, .unset] [(.int n)])
  refine og_istoreN X1 hx #[rv t, iv lo, iv hi, iv n, .unset] (hb hby d16_4) rfl ?_
  refine og_iloadN X1 hx (hb hby d16_5) rfl ?_
  refine og_iloadN X1 hx (hb hby d16_6) rfl ?_
  refine og_iloadN X1 hx (hb hby d16_7) rfl ?_
  refine own_callS X1 hx hZ hown (own_hw hw 81 rfl) (own_hw hw 82 rfl) (own_hw hw 11 rfl) (own_hw hw 83 rfl) (by decide) (argsL := [(.int lo), (.int hi), (.int n)]) (rest := []) (own_cbb l Z a0 hw z sf lo hi n h0 n0 hO hG h1 h2 h3) e1 (by rw [hml]; rfl) (lenOf own_pd73746 rfl) rfl (hb hby d16_8) (W := 0) (Nat.le_of_eq rfl) (by decide) ?_
  intro v2 T2 L2 X2 q2
  obtain ⟨rfl, N2q, e2⟩ := q2
  have N2 := Fr.app N1 N2q
  show own_Go p e below _ T2 (mkF m 11 #[rv t, iv lo, iv hi, iv n, .unset] [])
  refine og_iloadN X2 hx (hb hby d16_11) rfl ?_
  refine og_ifY X2 hx 22 (hb hby d16_12) (feq hx0).2 (by decide) (by decide) ?_
  refine og_iloadN X2 hx (hb hby d16_22) rfl ?_
  refine og_iloadN X2 hx (hb hby d16_23) rfl ?_
  refine og_isub X2 hx (hb hby d16_24) ?_
  refine og_istore X2 hx #[rv t, iv lo, iv hi, iv n, iv (hi - lo)] (hb hby d16_25) rfl ?_
  refine og_aloadN X2 hx (hb hby d16_27) rfl rfl ?_
  refine own_callV X2 hx hZ hown (own_hw hw 55 rfl) (own_hw hw 56 rfl) (notFace_of_selects (args := #[]) (mvT hZ (own_hw hw 58 rfl))) (own_hw hw 58 rfl) (own_hw hw 57 rfl) (own_hw hw 59 rfl) (own_hw hw 11 rfl) (by decide) (b := t) (argsL := []) (rest := []) (own_isl1 l Z a0 hw z sf t h0 n0 hO hG Fc) e2 Et (by rw [hml]; rfl) (lenOf own_pd61835 rfl) rfl (hb hby d16_28) (W := 0) (Nat.le_of_eq rfl) (by decide) ?_
  intro v3 T3 L3 X3 q3
  obtain ⟨rfl, N3q, e3⟩ := q3
  have N3 := Fr.app N2 N3q
  show own_Go p e below _ T3 (mkF m 31 #[rv t, iv lo, iv hi, iv n, iv (hi - lo)] [(.int (1 : Int32))])
  refine og_ifN X3 hx (hb hby d16_31) (feq (by decide)).1 ?_
  refine og_aloadN X3 hx (hb hby d16_34) rfl rfl ?_
  refine og_getF X3 hx hZ hown (own_hw hw 28 rfl) Via.refl e3 Fv (hb hby d16_35) ?_
  intro T4 X4 e4
  refine og_iloadN X4 hx (hb hby d16_38) rfl ?_
  refine og_iload X4 hx (hb hby d16_39) rfl ?_
  refine own_callS X4 hx hZ hown (own_hw hw 103 rfl) (own_hw hw 104 rfl) (own_hw hw 62 rfl) (own_hw hw 105 rfl) (by decide) (argsL := [(.ref b), (.int lo), (.int (hi - lo))]) (rest := []) inn e4 (by rw [hml]; rfl) (lenOf own_pd78060 rfl) rfl (hb hby d16_41) (W := 0) (Nat.le_of_eq rfl) (by decide) ?_
  intro v5 T5 L5 X5 q5
  obtain ⟨t5, vb5, k5, rfl, N5q, K5q, zt5, gt5, zb5, gb5, ne_t5_vb5, Et5, Ft5, Ct5, At5⟩ := q5
  have N5 := Fr.app N3 N5q
  have ne_b_t5 : b ≠ t5 := Nat.ne_of_lt (Nat.lt_of_lt_of_le Ab.lt zt5)
  have ne_t_t5 : t ≠ t5 := Nat.ne_of_lt (Nat.lt_of_lt_of_le Et.lt zt5)
  have sz_t5 : h0.size ≤ t5 := Nat.le_trans (Keep.refl h0 []).1 zt5
  have ne_b_vb5 : b ≠ vb5 := Nat.ne_of_lt (Nat.lt_of_lt_of_le Ab.lt zb5)
  have ne_t_vb5 : t ≠ vb5 := Nat.ne_of_lt (Nat.lt_of_lt_of_le Et.lt zb5)
  have sz_vb5 : h0.size ≤ vb5 := Nat.le_trans (Keep.refl h0 []).1 zb5
  have E_t_5 := Et.keep K5q
  have F_t_value_5 := Fv.keep K5q nin0
  have F_t_coder_5 := Fc.keep K5q nin0
  have A_b_5 := Ab.keep K5q nin0
  have O5 := hO.keep K5q all0
  have K5 := (Keep.refl h0 []).trans K5q all0
  show own_Go p e below _ T5 (mkF m 44 #[rv t, iv lo, iv hi, iv n, iv (hi - lo)] [(.ref t5)])
  refine og_goto X5 hx 57 (hb hby d16_44) (by decide) (by decide) ?_
  exact own_retA X5 hx hret hlk (hb hby d16_57) rfl rfl (by decide) (by decide) (⟨t5, vb5, _, rfl, N5, K5, sz_t5, gt5, sz_vb5, gb5, ne_t5_vb5, Et5, Ft5, Ct5, At5⟩)
def own_r_own_sub1N2 : Room := { frames := 5, cells := 2, slots := 6, locals := 80 }
theorem own_sub1N2 (l : Launch) (Z : State) (a0 : Array Value) (hw : own_W a0 Z) (z : Int32) (sf : Value) (t b : Addr) (kb : ClassId) (dv : Value) (n : Int32) (vs : List Value) (lo : Int32) (w0 w1 : Value) (h0 : Heap) (n0 : Nat) (hO : Old Z n0 h0) (hG : own_Gs Z z sf) (h1 : ¬ lo < 0) (h2 : ¬ n < lo) (hx0 : ¬ lo = 0) (inn : own_Met l Z (⟨"java/lang/StringLatin1", "newString", "([BII)Ljava/lang/String;"⟩ : MethodName) jdk_43_method_47_code 3 (some (.object "java/lang/String")) own_r_own_ns_1_2_3 #[.ref b, .int lo, .int (n - lo)] h0 (own_Qs2 Z h0 n0 w0 w1)) (Et : own_E Z h0 t) (Fv : own_V Z h0 t b) (Fc : own_C Z h0 t) (Ab : Arv Z h0 b kb .byte n vs dv) :
    own_Met l Z (⟨"java/lang/String", "substring", "(I)Ljava/lang/String;"⟩ : MethodName) jdk_42_method_91_code 2 (some (.object "java/lang/String")) own_r_own_sub1N2 #[(.ref t), (.int lo)] h0 (own_Qs2 Z h0 n0 w0 w1) := by
  refine own_body (by decide +kernel) ?_
  intro p e s m below meth c T0 X0 hx hZ hby hml hown hnm hret hlk e0
  have N0 := Fr.nil n0
  refine own_cast (own_frame (L := [rv t, iv lo]) (ls := #[rv t, iv lo]) rfl rfl) ?_
  obtain ⟨SC, hz, SF, rf⟩ := id hG
  refine og_aloadN X0 hx (hb hby d15_0) rfl rfl ?_
  refine og_iloadN X0 hx (hb hby d15_1) rfl ?_
  refine og_aloadN X0 hx (hb hby d15_2) rfl rfl ?_
  refine own_callV X0 hx hZ hown (own_hw hw 39 rfl) (own_hw hw 40 rfl) (notFace_of_selects (args := #[]) (mvT hZ (own_hw hw 42 rfl))) (own_hw hw 42 rfl) (own_hw hw 41 rfl) (own_hw hw 43 rfl) (own_hw hw 11 rfl) (by decide) (b := t) (argsL := []) (rest := [(.int lo), (.ref t)]) (own_slen l Z a0 hw z sf t b _ _ n _ h0 n0 hO hG Et Fv Fc Ab) e0 Et (by rw [hml]; rfl) (lenOf own_pd13941 rfl) rfl (hb hby d15_3) (W := 2) (Nat.le_of_eq rfl) (by decide) ?_
  intro v1 T1 L1 X1 q1
  obtain ⟨rfl, N1q, e1⟩ := q1
  have N1 := Fr.app N0 N1q
  show own_Go p e below _ T1 (mkF m 6 #[rv t, iv lo] [(.int n), (.int lo), (.ref t)])
  refine own_callV X1 hx hZ hown (own_hw hw 76 rfl) (own_hw hw 77 rfl) (notFace_of_selects (args := #[]) (mvT hZ (own_hw hw 79 rfl))) (own_hw hw 79 rfl) (own_hw hw 78 rfl) (own_hw hw 80 rfl) (own_hw hw 11 rfl) (by decide) (b := t) (argsL := [(.int lo), (.int n)]) (rest := []) (own_subN2 l Z a0 hw z sf t b _ _ n _ lo n w0 w1 h0 n0 hO hG h1 h2 Int32.lt_irrefl hx0 inn Et Fv Fc Ab) e1 Et (by rw [hml]; rfl) (lenOf own_pd41291 rfl) rfl (hb hby d15_6) (W := 0) (Nat.le_of_eq rfl) (by decide) ?_
  intro v2 T2 L2 X2 q2
  obtain ⟨t2, vb2, k2, rfl, N2q, K2q, zt2, gt2, zb2, gb2, ne_t2_vb2, Et2, Ft2, Ct2, At2⟩ := q2
  have N2 := Fr.app N1 N2q
  have ne_b_t2 : b ≠ t2 := Nat.ne_of_lt (Nat.lt_of_lt_of_le Ab.lt zt2)
  have ne_t_t2 : t ≠ t2 := Nat.ne_of_lt (Nat.lt_of_lt_of_le Et.lt zt2)
  have sz_t2 : h0.size ≤ t2 := Nat.le_trans (Keep.refl h0 []).1 zt2
  have ne_b_vb2 : b ≠ vb2 := Nat.ne_of_lt (Nat.lt_of_lt_of_le Ab.lt zb2)
  have ne_t_vb2 : t ≠ vb2 := Nat.ne_of_lt (Nat.lt_of_lt_of_le Et.lt zb2)
  have sz_vb2 : h0.size ≤ vb2 := Nat.le_trans (Keep.refl h0 []).1 zb2
  have E_t_2 := Et.keep K2q
  have F_t_value_2 := Fv.keep K2q nin0
  have F_t_coder_2 := Fc.keep K2q nin0
  have A_b_2 := Ab.keep K2q nin0
  have O2 := hO.keep K2q all0
  have K2 := (Keep.refl h0 []).trans K2q all0
  show own_Go p e below _ T2 (mkF m 9 #[rv t, iv lo] [(.ref t2)])
  exact own_retA X2 hx hret hlk (hb hby d15_9) rfl rfl (by decide) (by decide) (⟨t2, vb2, _, rfl, N2, K2, sz_t2, gt2, sz_vb2, gb2, ne_t2_vb2, Et2, Ft2, Ct2, At2⟩)
theorem own_lia_3_0 (l : Launch) (Z : State) (a0 : Array Value) (hw : own_W a0 Z) (b : Addr) (kb : ClassId) (dv : Value) (c0 c1 c2 : Int32) (h0 : Heap) (n0 : Nat) (hc1 : ¬ c1 < 0 ∧ ¬ (255 : Int32) < c1) (m1 : ¬ c1 = 47) (hc2 : ¬ c2 < 0 ∧ ¬ (255 : Int32) < c2) (m2 : ¬ c2 = 47) (hsl : c0 = 47) (Ab : Arv Z h0 b kb .byte 3 [(.int c0.toInt8.toInt32), (.int c1.toInt8.toInt32), (.int c2.toInt8.toInt32)] dv) :
    own_Met l Z (⟨"java/lang/StringLatin1", "lastIndexOf", "([BII)I"⟩ : MethodName) jdk_43_method_27_code 4 (some .int) own_r_lia #[(.ref b), (.int 47), (.int 2)] h0 (own_Qv (some (.int (0))) h0 n0) := by
  refine own_body (by decide +kernel) ?_
  intro p e s m below meth c T0 X0 hx hZ hby hml hown hnm hret hlk e0
  have N0 := Fr.nil n0
  refine own_cast (own_frame (L := [rv b, iv 47, iv 2]) (ls := #[rv b, iv 47, iv 2, .unset]) rfl rfl) ?_
  refine og_iloadN X0 hx (hb hby d12_0) rfl ?_
  refine own_callS X0 hx hZ hown (own_hw hw 64 rfl) (own_hw hw 65 rfl) (own_hw hw 62 rfl) (own_hw hw 66 rfl) (by decide) (argsL := [(.int 47)]) (rest := []) (own_ce47 l Z a0 hw h0 n0) e0 (by rw [hml]; rfl) (lenOf own_pd97859 rfl) rfl (hb hby d12_1) (W := 0) (Nat.le_of_eq rfl) (by decide) ?_
  intro v1 T1 L1 X1 q1
  obtain ⟨rfl, N1q, e1⟩ := q1
  have N1 := Fr.app N0 N1q
  show own_Go p e below _ T1 (mkF m 4 #[rv b, iv 47, iv 2, .unset] [(.int 1)])
  refine og_ifY X1 hx 9 (hb hby d12_4) (feq (by decide)).2 (by decide) (by decide) ?_
  refine og_iloadN X1 hx (hb hby d12_9) rfl ?_
  refine og_aloadN X1 hx (hb hby d12_10) rfl rfl ?_
  refine own_len X1 hx hZ e1 Ab (hb hby d12_11) ?_
  show own_Go p e below _ T1 (mkF m 12 #[rv b, iv 47, iv 2, .unset] [(.int 3), (.int 2)])
  refine og_iconst X1 hx (hb hby d12_12) ?_
  refine og_isub X1 hx (hb hby d12_13) ?_
  show own_Go p e below _ T1 (mkF m 14 #[rv b, iv 47, iv 2, .unset] [(.int 2), (.int 2)])
  refine own_callS X1 hx hZ hown (own_hw hw 67 rfl) (own_hw hw 68 rfl) (own_hw hw 69 rfl) (own_hw hw 70 rfl) (by decide) (argsL := [(.int 2), (.int 2)]) (rest := []) (own_min_2_2 l Z a0 hw h0 n0) e1 (by rw [hml]; rfl) (lenOf own_pd23903 rfl) rfl (hb hby d12_14) (W := 0) (Nat.le_of_eq rfl) (by decide) ?_
  intro v2 T2 L2 X2 q2
  obtain ⟨rfl, N2q, e2⟩ := q2
  have N2 := Fr.app N1 N2q
  show own_Go p e below _ T2 (mkF m 17 #[rv b, iv 47, iv 2, .unset] [(.int 2)])
  refine og_istoreN X2 hx #[rv b, iv 47, iv 2, iv 2] (hb hby d12_17) rfl ?_
  refine og_iloadN X2 hx (hb hby d12_18) rfl ?_
  refine og_ifN X2 hx (hb hby d12_19) (flt (by decide)).1 ?_
  refine og_aloadN X2 hx (hb hby d12_22) rfl rfl ?_
  refine og_iloadN X2 hx (hb hby d12_23) rfl ?_
  refine own_ldB X2 hx hZ e2 Ab ⟨by decide, by decide⟩ rfl (hb hby d12_24) ?_
  show own_Go p e below _ T2 (mkF m 25 #[rv b, iv 47, iv 2, iv 2] [(.int c2.toInt8.toInt32)])
  refine og_iloadN X2 hx (hb hby d12_25) rfl ?_
  refine own_go (fun t k => XS.i2b X2.here hx rfl (hb hby d12_26) rfl k) ?_
  show own_Go p e below _ T2 (mkF m 27 #[rv b, iv 47, iv 2, iv 2] [(.int 47), (.int c2.toInt8.toInt32)])
  refine og_icY X2 hx 32 (hb hby d12_27) (feq (fun q => m2 (own_b47 _ hc2 q))).2 (by decide) (by decide) ?_
  refine own_go (fun t k => XS.iinc X2.here hx rfl (hb hby d12_32) rfl (l' := #[rv b, iv 47, iv 2, iv 1]) rfl k) ?_
  show own_Go p e below _ T2 (mkF m 35 #[rv b, iv 47, iv 2, iv 1] [])
  refine og_goto X2 hx 18 (hb hby d12_35) (by decide) (by decide) ?_
  refine og_iloadN X2 hx (hb hby d12_18) rfl ?_
  refine og_ifN X2 hx (hb hby d12_19) (flt (by decide)).1 ?_
  refine og_aloadN X2 hx (hb hby d12_22) rfl rfl ?_
  refine og_iloadN X2 hx (hb hby d12_23) rfl ?_
  refine own_ldB X2 hx hZ e2 Ab ⟨by decide, by decide⟩ rfl (hb hby d12_24) ?_
  show own_Go p e below _ T2 (mkF m 25 #[rv b, iv 47, iv 2, iv 1] [(.int c1.toInt8.toInt32)])
  refine og_iloadN X2 hx (hb hby d12_25) rfl ?_
  refine own_go (fun t k => XS.i2b X2.here hx rfl (hb hby d12_26) rfl k) ?_
  show own_Go p e below _ T2 (mkF m 27 #[rv b, iv 47, iv 2, iv 1] [(.int 47), (.int c1.toInt8.toInt32)])
  refine og_icY X2 hx 32 (hb hby d12_27) (feq (fun q => m1 (own_b47 _ hc1 q))).2 (by decide) (by decide) ?_
  refine own_go (fun t k => XS.iinc X2.here hx rfl (hb hby d12_32) rfl (l' := #[rv b, iv 47, iv 2, iv 0]) rfl k) ?_
  show own_Go p e below _ T2 (mkF m 35 #[rv b, iv 47, iv 2, iv 0] [])
  refine og_goto X2 hx 18 (hb hby d12_35) (by decide) (by decide) ?_
  refine og_iloadN X2 hx (hb hby d12_18) rfl ?_
  refine og_ifN X2 hx (hb hby d12_19) (flt (by decide)).1 ?_
  refine og_aloadN X2 hx (hb hby d12_22) rfl rfl ?_
  refine og_iloadN X2 hx (hb hby d12_23) rfl ?_
  refine own_ldB X2 hx hZ e2 Ab ⟨by decide, by decide⟩ rfl (hb hby d12_24) ?_
  show own_Go p e below _ T2 (mkF m 25 #[rv b, iv 47, iv 2, iv 0] [(.int c0.toInt8.toInt32)])
  refine og_iloadN X2 hx (hb hby d12_25) rfl ?_
  refine own_go (fun t k => XS.i2b X2.here hx rfl (hb hby d12_26) rfl k) ?_
  show own_Go p e below _ T2 (mkF m 27 #[rv b, iv 47, iv 2, iv 0] [(.int 47), (.int c0.toInt8.toInt32)])
  refine og_icN X2 hx (hb hby d12_27) (teq (by rw [hsl]; rfl)).2 ?_
  refine og_iloadN X2 hx (hb hby d12_30) rfl ?_
  exact own_retI X2 hx hret hlk (hb hby d12_31) rfl (by simp) (by decide) (by decide) (⟨rfl, N2, e2⟩)
def own_r_own_po_3_0 : Room := { frames := 6, cells := 2, slots := 6, locals := 93 }
theorem own_po_3_0 (l : Launch) (Z : State) (a0 : Array Value) (hw : own_W a0 Z) (z : Int32) (sf : Value) (t b : Addr) (kb : ClassId) (dv : Value) (c0 c1 c2 : Int32) (h0 : Heap) (n0 : Nat) (hO : Old Z n0 h0) (hG : own_Gs Z z sf) (hc1 : ¬ c1 < 0 ∧ ¬ (255 : Int32) < c1) (m1 : ¬ c1 = 47) (hc2 : ¬ c2 < 0 ∧ ¬ (255 : Int32) < c2) (m2 : ¬ c2 = 47) (hsl : c0 = 47) (Et : own_E Z h0 t) (Fv : own_V Z h0 t b) (Fc : own_C Z h0 t) (Ab : Arv Z h0 b kb .byte 3 [(.int c0.toInt8.toInt32), (.int c1.toInt8.toInt32), (.int c2.toInt8.toInt32)] dv) :
    own_Met l Z (⟨"com/example/svazek/svazek/PackageFolder", "nameOf", "(Ljava/lang/String;)Ljava/lang/String;"⟩ : MethodName) prog_41_method_8_code 1 (some (.object "java/lang/String")) own_r_own_po_3_0 #[(.ref t)] h0 (own_Qs2 Z h0 n0 (.int c1.toInt8.toInt32) (.int c2.toInt8.toInt32)) := by
  refine own_body (by decide +kernel) ?_
  intro p e s m below meth c T0 X0 hx hZ hby hml hown hnm hret hlk e0
  have N0 := Fr.nil n0
  refine own_cast (own_frame (L := [rv t]) (ls := #[rv t]) rfl rfl) ?_
  obtain ⟨SC, hz, SF, rf⟩ := id hG
  refine og_aloadN X0 hx (hb hby d6_0) rfl rfl ?_
  refine og_aloadN X0 hx (hb hby d6_1) rfl rfl ?_
  refine og_bipush X0 hx (hb hby d6_2) ?_
  refine own_callV X0 hx hZ hown (own_hw hw 34 rfl) (own_hw hw 35 rfl) (notFace_of_selects (args := #[]) (mvT hZ (own_hw hw 37 rfl))) (own_hw hw 37 rfl) (own_hw hw 36 rfl) (own_hw hw 38 rfl) (own_hw hw 11 rfl) (by decide) (b := t) (argsL := [(.int 47)]) (rest := [(.ref t)]) (own_lic_3 l Z a0 hw z sf t b _ _ c0 c1 c2 (0) h0 n0 hO hG (own_lia_3_0 l Z a0 hw b _ _ c0 c1 c2 h0 n0 hc1 m1 hc2 m2 hsl Ab) Et Fv Fc Ab) e0 Et (by rw [hml]; rfl) (lenOf own_pd49053 rfl) rfl (hb hby d6_4) (W := 1) (Nat.le_of_eq rfl) (by decide) ?_
  intro v1 T1 L1 X1 q1
  obtain ⟨rfl, N1q, e1⟩ := q1
  have N1 := Fr.app N0 N1q
  show own_Go p e below _ T1 (mkF m 7 #[rv t] [(.int 0), (.ref t)])
  refine og_iconst X1 hx (hb hby d6_7) ?_
  refine og_iadd X1 hx (hb hby d6_8) ?_
  show own_Go p e below _ T1 (mkF m 9 #[rv t] [(.int 1), (.ref t)])
  refine own_callV X1 hx hZ hown (own_hw hw 71 rfl) (own_hw hw 72 rfl) (notFace_of_selects (args := #[]) (mvT hZ (own_hw hw 74 rfl))) (own_hw hw 74 rfl) (own_hw hw 73 rfl) (own_hw hw 75 rfl) (own_hw hw 11 rfl) (by decide) (b := t) (argsL := [(.int 1)]) (rest := []) (own_sub1N2 l Z a0 hw z sf t b _ _ 3 _ 1 (.int c1.toInt8.toInt32) (.int c2.toInt8.toInt32) h0 n0 hO hG (by decide) (by decide) (by decide) (own_ns_1_2_3 l Z a0 hw b _ _ (.int c0.toInt8.toInt32) (.int c1.toInt8.toInt32) (.int c2.toInt8.toInt32) h0 n0 hO Ab) Et Fv Fc Ab) e1 Et (by rw [hml]; rfl) (lenOf own_pd44404 rfl) rfl (hb hby d6_9) (W := 0) (Nat.le_of_eq rfl) (by decide) ?_
  intro v2 T2 L2 X2 q2
  obtain ⟨t2, vb2, k2, rfl, N2q, K2q, zt2, gt2, zb2, gb2, ne_t2_vb2, Et2, Ft2, Ct2, At2⟩ := q2
  have N2 := Fr.app N1 N2q
  have ne_b_t2 : b ≠ t2 := Nat.ne_of_lt (Nat.lt_of_lt_of_le Ab.lt zt2)
  have ne_t_t2 : t ≠ t2 := Nat.ne_of_lt (Nat.lt_of_lt_of_le Et.lt zt2)
  have sz_t2 : h0.size ≤ t2 := Nat.le_trans (Keep.refl h0 []).1 zt2
  have ne_b_vb2 : b ≠ vb2 := Nat.ne_of_lt (Nat.lt_of_lt_of_le Ab.lt zb2)
  have ne_t_vb2 : t ≠ vb2 := Nat.ne_of_lt (Nat.lt_of_lt_of_le Et.lt zb2)
  have sz_vb2 : h0.size ≤ vb2 := Nat.le_trans (Keep.refl h0 []).1 zb2
  have E_t_2 := Et.keep K2q
  have F_t_value_2 := Fv.keep K2q nin0
  have F_t_coder_2 := Fc.keep K2q nin0
  have A_b_2 := Ab.keep K2q nin0
  have O2 := hO.keep K2q all0
  have K2 := (Keep.refl h0 []).trans K2q all0
  show own_Go p e below _ T2 (mkF m 12 #[rv t] [(.ref t2)])
  exact own_retA X2 hx hret hlk (hb hby d6_12) rfl rfl (by decide) (by decide) (⟨t2, vb2, _, rfl, N2, K2, sz_t2, gt2, sz_vb2, gb2, ne_t2_vb2, Et2, Ft2, Ct2, At2⟩)
def own_r_own_ckl_2_3 : Room := { frames := 0, cells := 0, slots := 0, locals := 0 }
theorem own_ckl_2_3 (l : Launch) (Z : State) (a0 : Array Value) (hw : own_W a0 Z)  (h0 : Heap) (n0 : Nat)  :
    own_Met l Z (⟨"java/util/Arrays", "checkLength", "(II)V"⟩ : MethodName) jdk_65_method_131_code 2 none own_r_own_ckl_2_3 #[(.int 2), (.int 3)] h0 (own_Qv none h0 n0) := by
  refine own_body (by decide +kernel) ?_
  intro p e s m below meth c T0 X0 hx hZ hby hml hown hnm hret hlk e0
  have N0 := Fr.nil n0
  refine own_cast (own_frame (L := [iv 2, iv 3]) (ls := #[iv 2, iv 3]) rfl rfl) ?_
  refine og_iloadN X0 hx (hb hby d30_0) rfl ?_
  refine og_iloadN X0 hx (hb hby d30_1) rfl ?_
  refine og_icY X0 hx 37 (hb hby d30_2) (flt (by decide)).2.1 (by decide) (by decide) ?_
  exact own_retV X0 hx hret hlk (hb hby d30_37) (by decide) (by decide) (⟨rfl, N0, e0⟩)
def own_Qr_2_3_3 (Z : State) (h0 : Heap) (n0 : Nat) (v0 v1 v2 : Value) (v : Option Value) (h : Heap) (L : List Loc) : Prop := ∃ (b : Addr) (k : ClassId), v = some (.ref b) ∧ Fr n0 L ∧ Keep h0 h [] ∧ h0.size ≤ b ∧ n0 ≤ b ∧ Arv Z h b k .byte 1 [v2] (.int (0 : Int32))
def own_r_own_crb_2_3_3 : Room := { frames := 1, cells := 1, slots := 1, locals := 18 }
theorem own_crb_2_3_3 (l : Launch) (Z : State) (a0 : Array Value) (hw : own_W a0 Z) (b : Addr) (kb : ClassId) (dv : Value) (v0 v1 v2 : Value) (h0 : Heap) (n0 : Nat) (hO : Old Z n0 h0) (Ab : Arv Z h0 b kb .byte 3 [v0, v1, v2] dv) :
    own_Met l Z (⟨"java/util/Arrays", "copyOfRangeByte", "([BII)[B"⟩ : MethodName) jdk_65_method_133_code 5 (some (.array .byte)) own_r_own_crb_2_3_3 #[(.ref b), (.int 2), (.int 3)] h0 (own_Qr_2_3_3 Z h0 n0 v0 v1 v2) := by
  refine own_body (by decide +kernel) ?_
  intro p e s m below meth c T0 X0 hx hZ hby hml hown hnm hret hlk e0
  have N0 := Fr.nil n0
  refine own_cast (own_frame (L := [rv b, iv 2, iv 3]) (ls := #[rv b, iv 2, iv 3, .unset, .unset]) rfl rfl) ?_
  refine og_iloadN X0 hx (hb hby d29_0) rfl ?_
  refine og_iloadN X0 hx (hb hby d29_1) rfl ?_
  refine own_callS X0 hx hZ hown (own_hw hw 129 rfl) (own_hw hw 130 rfl) (own_hw hw 124 rfl) (own_hw hw 131 rfl) (by decide) (argsL := [(.int 2), (.int 3)]) (rest := []) (own_ckl_2_3 l Z a0 hw h0 n0) e0 (by rw [hml]; rfl) (lenOf own_pd97226 rfl) rfl (hb hby d29_2) (W := 0) (Nat.le_of_eq rfl) (by decide) ?_
  intro v1 T1 L1 X1 q1
  obtain ⟨rfl, N1q, e1⟩ := q1
  have N1 := Fr.app N0 N1q
  show own_Go p e below _ T1 (mkF m 5 #[rv b, iv 2, iv 3, .unset, .unset] [])
  refine og_iloadN X1 hx (hb hby d29_5) rfl ?_
  refine og_iloadN X1 hx (hb hby d29_6) rfl ?_
  refine og_isub X1 hx (hb hby d29_7) ?_
  refine og_istoreN X1 hx #[rv b, iv 2, iv 3, iv 1, .unset] (hb hby d29_8) rfl ?_
  refine og_iloadN X1 hx (hb hby d29_9) rfl ?_
  refine own_newP X1 hx hZ (own_hw hw 23 rfl) e1 (hb hby d29_10) (by decide) 1 (by decide) (by decide) (by decide) (by decide) ?_
  intro T2 h2 k2 b2 g2 X2 e2 E2 A2
  have ne_b_b2 : b ≠ b2 := Nat.ne_of_lt (Nat.lt_of_lt_of_eq Ab.lt g2.symm)
  have ge_b2 : n0 ≤ b2 := Nat.le_trans (own_oldle hO) (Nat.le_of_eq g2.symm)
  have sz_b2 : h0.size ≤ b2 := Nat.le_trans (Keep.refl h0 []).1 (Nat.le_of_eq g2.symm)
  have A_b_2 := Ab.ext E2
  have O2 := hO.ext E2
  have K2 := (Keep.refl h0 []).ext E2
  have A_b2_2 : Arv Z h2 b2 k2 .byte 1 [(.int (0 : Int32))] (.int (0 : Int32)) := A2
  show own_Go p e below _ T2 (mkF m 12 #[rv b, iv 2, iv 3, iv 1, .unset] [(.ref b2)])
  refine og_astore X2 hx #[rv b, iv 2, iv 3, iv 1, rv b2] (hb hby d29_12) rfl rfl ?_
  refine og_aloadN X2 hx (hb hby d29_14) rfl rfl ?_
  refine og_iloadN X2 hx (hb hby d29_15) rfl ?_
  refine og_aload X2 hx (hb hby d29_16) rfl rfl ?_
  refine og_iconst X2 hx (hb hby d29_18) ?_
  refine og_aloadN X2 hx (hb hby d29_19) rfl rfl ?_
  refine own_len X2 hx hZ e2 A_b_2 (hb hby d29_20) ?_
  show own_Go p e below _ T2 (mkF m 21 #[rv b, iv 2, iv 3, iv 1, rv b2] [(.int 3), (.int 0), (.ref b2), (.int 2), (.ref b)])
  refine og_iloadN X2 hx (hb hby d29_21) rfl ?_
  refine og_isub X2 hx (hb hby d29_22) ?_
  refine og_iloadN X2 hx (hb hby d29_23) rfl ?_
  refine own_callS X2 hx hZ hown (own_hw hw 132 rfl) (own_hw hw 68 rfl) (own_hw hw 69 rfl) (own_hw hw 70 rfl) (by decide) (argsL := [(.int 1), (.int 1)]) (rest := [(.int 0), (.ref b2), (.int 2), (.ref b)]) (own_min_1_1 l Z a0 hw h2 n0) e2 (by rw [hml]; rfl) (lenOf own_pd23903 rfl) rfl (hb hby d29_24) (W := 4) (Nat.le_of_eq rfl) (by decide) ?_
  intro v3 T3 L3 X3 q3
  obtain ⟨rfl, N3q, e3⟩ := q3
  have N3 := Fr.app N1 N3q
  show own_Go p e below _ T3 (mkF m 27 #[rv b, iv 2, iv 3, iv 1, rv b2] [(.int 1), (.int 0), (.ref b2), (.int 2), (.ref b)])
  obtain ⟨T4, h4, L4, X4, e4, N4, K4q, A4, st4⟩ := cpA X3 hx hZ hown (own_hw hw 133 rfl) (own_hw hw 136 rfl) (own_hw hw 134 rfl) (own_hw hw 135 rfl) e3 A_b_2 A_b2_2 (us := [v2]) (Or.inl ⟨rfl, rfl⟩) (by decide) (by decide) (by decide) (by decide) (by decide) rfl (by decide) N3 ge_b2 (g := (mkF m 27 #[rv b, iv 2, iv 3, iv 1, rv b2] [(.int 1), (.int 0), (.ref b2), (.int 2), (.ref b)])) rfl (by rw [hml]; rfl) rfl (hb hby d29_27) (by decide) (W := 0) (by show 2 * 0 + _ ≤ _; exact Nat.le_of_eq rfl) (by decide)
  refine own_go st4 ?_
  have A_b_4 := A_b_2.keep K4q (ninS ne_b_b2 nin0)
  have O4 := O2.keep K4q (allS ge_b2 all0)
  have K4 := K2.trans K4q (allS (Or.inr sz_b2) all0)
  have A_b2_4 : Arv Z h4 b2 k2 .byte 1 [v2] (.int (0 : Int32)) := A4
  show own_Go p e below _ T4 (mkF m 30 #[rv b, iv 2, iv 3, iv 1, rv b2] [])
  refine og_aload X4 hx (hb hby d29_30) rfl rfl ?_
  exact own_retA X4 hx hret hlk (hb hby d29_32) rfl rfl (by decide) (by decide) (by rw [e4]; exact ⟨b2, _, rfl, N4, K4, sz_b2, ge_b2, A_b2_4⟩)
def own_r_own_cr_2_3_3 : Room := { frames := 2, cells := 1, slots := 1, locals := 34 }
theorem own_cr_2_3_3 (l : Launch) (Z : State) (a0 : Array Value) (hw : own_W a0 Z) (b : Addr) (kb : ClassId) (dv : Value) (v0 v1 v2 : Value) (h0 : Heap) (n0 : Nat) (hO : Old Z n0 h0) (Ab : Arv Z h0 b kb .byte 3 [v0, v1, v2] dv) :
    own_Met l Z (⟨"java/util/Arrays", "copyOfRange", "([BII)[B"⟩ : MethodName) jdk_65_method_132_code 3 (some (.array .byte)) own_r_own_cr_2_3_3 #[(.ref b), (.int 2), (.int 3)] h0 (own_Qr_2_3_3 Z h0 n0 v0 v1 v2) := by
  refine own_body (by decide +kernel) ?_
  intro p e s m below meth c T0 X0 hx hZ hby hml hown hnm hret hlk e0
  have N0 := Fr.nil n0
  refine own_cast (own_frame (L := [rv b, iv 2, iv 3]) (ls := #[rv b, iv 2, iv 3]) rfl rfl) ?_
  refine og_iloadN X0 hx (hb hby d28_0) rfl ?_
  refine og_ifY X0 hx 10 (hb hby d28_1) (feq (by decide)).2 (by decide) (by decide) ?_
  refine og_aloadN X0 hx (hb hby d28_10) rfl rfl ?_
  refine og_iloadN X0 hx (hb hby d28_11) rfl ?_
  refine og_iloadN X0 hx (hb hby d28_12) rfl ?_
  refine own_callS X0 hx hZ hown (own_hw hw 126 rfl) (own_hw hw 127 rfl) (own_hw hw 124 rfl) (own_hw hw 128 rfl) (by decide) (argsL := [(.ref b), (.int 2), (.int 3)]) (rest := []) (own_crb_2_3_3 l Z a0 hw b _ _ v0 v1 v2 h0 n0 hO Ab) e0 (by rw [hml]; rfl) (lenOf own_pd77155 rfl) rfl (hb hby d28_13) (W := 0) (Nat.le_of_eq rfl) (by decide) ?_
  intro v1 T1 L1 X1 q1
  obtain ⟨b1, k1, rfl, N1q, K1q, z1q, g1q, A1q⟩ := q1
  have N1 := Fr.app N0 N1q
  have ne_b_b1 : b ≠ b1 := Nat.ne_of_lt (Nat.lt_of_lt_of_le Ab.lt z1q)
  have sz_b1 : h0.size ≤ b1 := Nat.le_trans (Keep.refl h0 []).1 z1q
  have A_b_1 := Ab.keep K1q nin0
  have O1 := hO.keep K1q all0
  have K1 := (Keep.refl h0 []).trans K1q all0
  show own_Go p e below _ T1 (mkF m 16 #[rv b, iv 2, iv 3] [(.ref b1)])
  exact own_retA X1 hx hret hlk (hb hby d28_16) rfl rfl (by decide) (by decide) (⟨b1, _, rfl, N1, K1, sz_b1, g1q, A1q⟩)
def own_r_own_ns_2_1_3 : Room := { frames := 3, cells := 2, slots := 5, locals := 50 }
theorem own_ns_2_1_3 (l : Launch) (Z : State) (a0 : Array Value) (hw : own_W a0 Z) (b : Addr) (kb : ClassId) (dv : Value) (v0 v1 v2 : Value) (h0 : Heap) (n0 : Nat) (hO : Old Z n0 h0) (Ab : Arv Z h0 b kb .byte 3 [v0, v1, v2] dv) :
    own_Met l Z (⟨"java/lang/StringLatin1", "newString", "([BII)Ljava/lang/String;"⟩ : MethodName) jdk_43_method_47_code 3 (some (.object "java/lang/String")) own_r_own_ns_2_1_3 #[(.ref b), (.int 2), (.int 1)] h0 (own_Qs1 Z h0 n0 v2) := by
  refine own_body (by decide +kernel) ?_
  intro p e s m below meth c T0 X0 hx hZ hby hml hown hnm hret hlk e0
  have N0 := Fr.nil n0
  refine own_cast (own_frame (L := [rv b, iv 2, iv 1]) (ls := #[rv b, iv 2, iv 1]) rfl rfl) ?_
  refine og_iloadN X0 hx (hb hby d23_0) rfl ?_
  refine og_ifY X0 hx 7 (hb hby d23_1) (feq (by decide)).2 (by decide) (by decide) ?_
  refine own_newO X0 hx hZ hown (own_hw hw 121 rfl) (own_hw hw 10 rfl) (own_hw hw 11 rfl) e0 (hb hby d23_7) (by decide) (by decide) ?_
  intro T1 h1 b1 g1 X1 e1 E1 A1 D1
  have ne_b_b1 : b ≠ b1 := Nat.ne_of_lt (Nat.lt_of_lt_of_eq Ab.lt g1.symm)
  have ge_b1 : n0 ≤ b1 := Nat.le_trans (own_oldle hO) (Nat.le_of_eq g1.symm)
  have sz_b1 : h0.size ≤ b1 := Nat.le_trans (Keep.refl h0 []).1 (Nat.le_of_eq g1.symm)
  have A_b_1 := Ab.ext E1
  have O1 := hO.ext E1
  have K1 := (Keep.refl h0 []).ext E1
  have F_b1_value_1 : Fld Z h1 b1 "java/lang/String" "value" "[B" .null := D1 (Or.inr (own_hw hw 24 rfl)) (ty := (.array .byte)) (by decide)
  have F_b1_coder_1 : Fld Z h1 b1 "java/lang/String" "coder" "B" (.int 0) := D1 (Or.inr (own_hw hw 25 rfl)) (ty := .byte) (by decide)
  show own_Go p e below _ T1 (mkF m 10 #[rv b, iv 2, iv 1] [(.ref b1)])
  refine og_dup X1 hx (hb hby d23_10) rfl ?_
  refine og_aloadN X1 hx (hb hby d23_11) rfl rfl ?_
  refine og_iloadN X1 hx (hb hby d23_12) rfl ?_
  refine og_iloadN X1 hx (hb hby d23_13) rfl ?_
  refine og_iloadN X1 hx (hb hby d23_14) rfl ?_
  refine og_iadd X1 hx (hb hby d23_15) ?_
  show own_Go p e below _ T1 (mkF m 16 #[rv b, iv 2, iv 1] [(.int 3), (.int 2), (.ref b), (.ref b1), (.ref b1)])
  refine own_callS X1 hx hZ hown (own_hw hw 122 rfl) (own_hw hw 123 rfl) (own_hw hw 124 rfl) (own_hw hw 125 rfl) (by decide) (argsL := [(.ref b), (.int 2), (.int 3)]) (rest := [(.ref b1), (.ref b1)]) (own_cr_2_3_3 l Z a0 hw b _ _ v0 v1 v2 h1 n0 O1 A_b_1) e1 (by rw [hml]; rfl) (lenOf own_pd77155 rfl) rfl (hb hby d23_16) (W := 2) (Nat.le_of_eq rfl) (by decide) ?_
  intro v2 T2 L2 X2 q2
  obtain ⟨b2, k2, rfl, N2q, K2q, z2q, g2q, A2q⟩ := q2
  have N2 := Fr.app N0 N2q
  have ne_b_b2 : b ≠ b2 := Nat.ne_of_lt (Nat.lt_of_lt_of_le A_b_1.lt z2q)
  have ne_b1_b2 : b1 ≠ b2 := Nat.ne_of_lt (Nat.lt_of_lt_of_le A1.lt z2q)
  have sz_b2 : h0.size ≤ b2 := Nat.le_trans K1.1 z2q
  have A_b_2 := A_b_1.keep K2q nin0
  have E_b1_2 := A1.keep K2q
  have F_b1_value_2 := F_b1_value_1.keep K2q nin0
  have F_b1_coder_2 := F_b1_coder_1.keep K2q nin0
  have O2 := O1.keep K2q all0
  have K2 := K1.trans K2q all0
  show own_Go p e below _ T2 (mkF m 19 #[rv b, iv 2, iv 1] [(.ref b2), (.ref b1), (.ref b1)])
  refine og_iconst X2 hx (hb hby d23_19) ?_
  refine own_callN X2 hx hZ hown (own_hw hw 137 rfl) (own_hw hw 138 rfl) (own_hw hw 139 rfl) (own_hw hw 11 rfl) (by decide) rfl (b := b1) (argsL := [(.ref b2), (.int 0)]) (rest := [(.ref b1)]) (own_si l Z a0 hw b1 b2 _ _ T2.heap n0 O2 ge_b1 E_b1_2 F_b1_value_2 F_b1_coder_2) rfl (by rw [hml]; rfl) (lenOf own_pd58512 rfl) rfl (hb hby d23_20) (W := 1) (Nat.le_of_eq rfl) (by decide) ?_
  intro v3 T3 L3 X3 q3
  obtain ⟨rfl, N3q, K3q, Fv3, Fc3⟩ := q3
  have N3 := Fr.app N2 N3q
  have A_b_3 := A_b_2.keep K3q (ninS ne_b_b1 nin0)
  have E_b1_3 := E_b1_2.keep K3q
  have A_b2_3 := A2q.keep K3q (ninS (Ne.symm ne_b1_b2) nin0)
  have O3 := O2.keep K3q (allS ge_b1 all0)
  have K3 := K2.trans K3q (allS (Or.inr sz_b1) all0)
  show own_Go p e below _ T3 (mkF m 23 #[rv b, iv 2, iv 1] [(.ref b1)])
  exact own_retA X3 hx hret hlk (hb hby d23_23) rfl rfl (by decide) (by decide) (⟨b1, b2, _, rfl, N3, K3, sz_b1, ge_b1, sz_b2, g2q, ne_b1_b2, E_b1_3, Fv3, Fc3, A_b2_3⟩)
theorem own_lia_3_1 (l : Launch) (Z : State) (a0 : Array Value) (hw : own_W a0 Z) (b : Addr) (kb : ClassId) (dv : Value) (c0 c1 c2 : Int32) (h0 : Heap) (n0 : Nat) (hc2 : ¬ c2 < 0 ∧ ¬ (255 : Int32) < c2) (m2 : ¬ c2 = 47) (hsl : c1 = 47) (Ab : Arv Z h0 b kb .byte 3 [(.int c0.toInt8.toInt32), (.int c1.toInt8.toInt32), (.int c2.toInt8.toInt32)] dv) :
    own_Met l Z (⟨"java/lang/StringLatin1", "lastIndexOf", "([BII)I"⟩ : MethodName) jdk_43_method_27_code 4 (some .int) own_r_lia #[(.ref b), (.int 47), (.int 2)] h0 (own_Qv (some (.int (1))) h0 n0) := by
  refine own_body (by decide +kernel) ?_
  intro p e s m below meth c T0 X0 hx hZ hby hml hown hnm hret hlk e0
  have N0 := Fr.nil n0
  refine own_cast (own_frame (L := [rv b, iv 47, iv 2]) (ls := #[rv b, iv 47, iv 2, .unset]) rfl rfl) ?_
  refine og_iloadN X0 hx (hb hby d12_0) rfl ?_
  refine own_callS X0 hx hZ hown (own_hw hw 64 rfl) (own_hw hw 65 rfl) (own_hw hw 62 rfl) (own_hw hw 66 rfl) (by decide) (argsL := [(.int 47)]) (rest := []) (own_ce47 l Z a0 hw h0 n0) e0 (by rw [hml]; rfl) (lenOf own_pd97859 rfl) rfl (hb hby d12_1) (W := 0) (Nat.le_of_eq rfl) (by decide) ?_
  intro v1 T1 L1 X1 q1
  obtain ⟨rfl, N1q, e1⟩ := q1
  have N1 := Fr.app N0 N1q
  show own_Go p e below _ T1 (mkF m 4 #[rv b, iv 47, iv 2, .unset] [(.int 1)])
  refine og_ifY X1 hx 9 (hb hby d12_4) (feq (by decide)).2 (by decide) (by decide) ?_
  refine og_iloadN X1 hx (hb hby d12_9) rfl ?_
  refine og_aloadN X1 hx (hb hby d12_10) rfl rfl ?_
  refine own_len X1 hx hZ e1 Ab (hb hby d12_11) ?_
  show own_Go p e below _ T1 (mkF m 12 #[rv b, iv 47, iv 2, .unset] [(.int 3), (.int 2)])
  refine og_iconst X1 hx (hb hby d12_12) ?_
  refine og_isub X1 hx (hb hby d12_13) ?_
  show own_Go p e below _ T1 (mkF m 14 #[rv b, iv 47, iv 2, .unset] [(.int 2), (.int 2)])
  refine own_callS X1 hx hZ hown (own_hw hw 67 rfl) (own_hw hw 68 rfl) (own_hw hw 69 rfl) (own_hw hw 70 rfl) (by decide) (argsL := [(.int 2), (.int 2)]) (rest := []) (own_min_2_2 l Z a0 hw h0 n0) e1 (by rw [hml]; rfl) (lenOf own_pd23903 rfl) rfl (hb hby d12_14) (W := 0) (Nat.le_of_eq rfl) (by decide) ?_
  intro v2 T2 L2 X2 q2
  obtain ⟨rfl, N2q, e2⟩ := q2
  have N2 := Fr.app N1 N2q
  show own_Go p e below _ T2 (mkF m 17 #[rv b, iv 47, iv 2, .unset] [(.int 2)])
  refine og_istoreN X2 hx #[rv b, iv 47, iv 2, iv 2] (hb hby d12_17) rfl ?_
  refine og_iloadN X2 hx (hb hby d12_18) rfl ?_
  refine og_ifN X2 hx (hb hby d12_19) (flt (by decide)).1 ?_
  refine og_aloadN X2 hx (hb hby d12_22) rfl rfl ?_
  refine og_iloadN X2 hx (hb hby d12_23) rfl ?_
  refine own_ldB X2 hx hZ e2 Ab ⟨by decide, by decide⟩ rfl (hb hby d12_24) ?_
  show own_Go p e below _ T2 (mkF m 25 #[rv b, iv 47, iv 2, iv 2] [(.int c2.toInt8.toInt32)])
  refine og_iloadN X2 hx (hb hby d12_25) rfl ?_
  refine own_go (fun t k => XS.i2b X2.here hx rfl (hb hby d12_26) rfl k) ?_
  show own_Go p e below _ T2 (mkF m 27 #[rv b, iv 47, iv 2, iv 2] [(.int 47), (.int c2.toInt8.toInt32)])
  refine og_icY X2 hx 32 (hb hby d12_27) (feq (fun q => m2 (own_b47 _ hc2 q))).2 (by decide) (by decide) ?_
  refine own_go (fun t k => XS.iinc X2.here hx rfl (hb hby d12_32) rfl (l' := #[rv b, iv 47, iv 2, iv 1]) rfl k) ?_
  show own_Go p e below _ T2 (mkF m 35 #[rv b, iv 47, iv 2, iv 1] [])
  refine og_goto X2 hx 18 (hb hby d12_35) (by decide) (by decide) ?_
  refine og_iloadN X2 hx (hb hby d12_18) rfl ?_
  refine og_ifN X2 hx (hb hby d12_19) (flt (by decide)).1 ?_
  refine og_aloadN X2 hx (hb hby d12_22) rfl rfl ?_
  refine og_iloadN X2 hx (hb hby d12_23) rfl ?_
  refine own_ldB X2 hx hZ e2 Ab ⟨by decide, by decide⟩ rfl (hb hby d12_24) ?_
  show own_Go p e below _ T2 (mkF m 25 #[rv b, iv 47, iv 2, iv 1] [(.int c1.toInt8.toInt32)])
  refine og_iloadN X2 hx (hb hby d12_25) rfl ?_
  refine own_go (fun t k => XS.i2b X2.here hx rfl (hb hby d12_26) rfl k) ?_
  show own_Go p e below _ T2 (mkF m 27 #[rv b, iv 47, iv 2, iv 1] [(.int 47), (.int c1.toInt8.toInt32)])
  refine og_icN X2 hx (hb hby d12_27) (teq (by rw [hsl]; rfl)).2 ?_
  refine og_iloadN X2 hx (hb hby d12_30) rfl ?_
  exact own_retI X2 hx hret hlk (hb hby d12_31) rfl (by simp) (by decide) (by decide) (⟨rfl, N2, e2⟩)
def own_r_own_po_3_1 : Room := { frames := 6, cells := 2, slots := 5, locals := 93 }
theorem own_po_3_1 (l : Launch) (Z : State) (a0 : Array Value) (hw : own_W a0 Z) (z : Int32) (sf : Value) (t b : Addr) (kb : ClassId) (dv : Value) (c0 c1 c2 : Int32) (h0 : Heap) (n0 : Nat) (hO : Old Z n0 h0) (hG : own_Gs Z z sf) (hc2 : ¬ c2 < 0 ∧ ¬ (255 : Int32) < c2) (m2 : ¬ c2 = 47) (hsl : c1 = 47) (Et : own_E Z h0 t) (Fv : own_V Z h0 t b) (Fc : own_C Z h0 t) (Ab : Arv Z h0 b kb .byte 3 [(.int c0.toInt8.toInt32), (.int c1.toInt8.toInt32), (.int c2.toInt8.toInt32)] dv) :
    own_Met l Z (⟨"com/example/svazek/svazek/PackageFolder", "nameOf", "(Ljava/lang/String;)Ljava/lang/String;"⟩ : MethodName) prog_41_method_8_code 1 (some (.object "java/lang/String")) own_r_own_po_3_1 #[(.ref t)] h0 (own_Qs1 Z h0 n0 (.int c2.toInt8.toInt32)) := by
  refine own_body (by decide +kernel) ?_
  intro p e s m below meth c T0 X0 hx hZ hby hml hown hnm hret hlk e0
  have N0 := Fr.nil n0
  refine own_cast (own_frame (L := [rv t]) (ls := #[rv t]) rfl rfl) ?_
  obtain ⟨SC, hz, SF, rf⟩ := id hG
  refine og_aloadN X0 hx (hb hby d6_0) rfl rfl ?_
  refine og_aloadN X0 hx (hb hby d6_1) rfl rfl ?_
  refine og_bipush X0 hx (hb hby d6_2) ?_
  refine own_callV X0 hx hZ hown (own_hw hw 34 rfl) (own_hw hw 35 rfl) (notFace_of_selects (args := #[]) (mvT hZ (own_hw hw 37 rfl))) (own_hw hw 37 rfl) (own_hw hw 36 rfl) (own_hw hw 38 rfl) (own_hw hw 11 rfl) (by decide) (b := t) (argsL := [(.int 47)]) (rest := [(.ref t)]) (own_lic_3 l Z a0 hw z sf t b _ _ c0 c1 c2 (1) h0 n0 hO hG (own_lia_3_1 l Z a0 hw b _ _ c0 c1 c2 h0 n0 hc2 m2 hsl Ab) Et Fv Fc Ab) e0 Et (by rw [hml]; rfl) (lenOf own_pd49053 rfl) rfl (hb hby d6_4) (W := 1) (Nat.le_of_eq rfl) (by decide) ?_
  intro v1 T1 L1 X1 q1
  obtain ⟨rfl, N1q, e1⟩ := q1
  have N1 := Fr.app N0 N1q
  show own_Go p e below _ T1 (mkF m 7 #[rv t] [(.int 1), (.ref t)])
  refine og_iconst X1 hx (hb hby d6_7) ?_
  refine og_iadd X1 hx (hb hby d6_8) ?_
  show own_Go p e below _ T1 (mkF m 9 #[rv t] [(.int 2), (.ref t)])
  refine own_callV X1 hx hZ hown (own_hw hw 71 rfl) (own_hw hw 72 rfl) (notFace_of_selects (args := #[]) (mvT hZ (own_hw hw 74 rfl))) (own_hw hw 74 rfl) (own_hw hw 73 rfl) (own_hw hw 75 rfl) (own_hw hw 11 rfl) (by decide) (b := t) (argsL := [(.int 2)]) (rest := []) (own_sub1N1 l Z a0 hw z sf t b _ _ 3 _ 2 (.int c2.toInt8.toInt32) h0 n0 hO hG (by decide) (by decide) (by decide) (own_ns_2_1_3 l Z a0 hw b _ _ (.int c0.toInt8.toInt32) (.int c1.toInt8.toInt32) (.int c2.toInt8.toInt32) h0 n0 hO Ab) Et Fv Fc Ab) e1 Et (by rw [hml]; rfl) (lenOf own_pd44404 rfl) rfl (hb hby d6_9) (W := 0) (Nat.le_of_eq rfl) (by decide) ?_
  intro v2 T2 L2 X2 q2
  obtain ⟨t2, vb2, k2, rfl, N2q, K2q, zt2, gt2, zb2, gb2, ne_t2_vb2, Et2, Ft2, Ct2, At2⟩ := q2
  have N2 := Fr.app N1 N2q
  have ne_b_t2 : b ≠ t2 := Nat.ne_of_lt (Nat.lt_of_lt_of_le Ab.lt zt2)
  have ne_t_t2 : t ≠ t2 := Nat.ne_of_lt (Nat.lt_of_lt_of_le Et.lt zt2)
  have sz_t2 : h0.size ≤ t2 := Nat.le_trans (Keep.refl h0 []).1 zt2
  have ne_b_vb2 : b ≠ vb2 := Nat.ne_of_lt (Nat.lt_of_lt_of_le Ab.lt zb2)
  have ne_t_vb2 : t ≠ vb2 := Nat.ne_of_lt (Nat.lt_of_lt_of_le Et.lt zb2)
  have sz_vb2 : h0.size ≤ vb2 := Nat.le_trans (Keep.refl h0 []).1 zb2
  have E_t_2 := Et.keep K2q
  have F_t_value_2 := Fv.keep K2q nin0
  have F_t_coder_2 := Fc.keep K2q nin0
  have A_b_2 := Ab.keep K2q nin0
  have O2 := hO.keep K2q all0
  have K2 := (Keep.refl h0 []).trans K2q all0
  show own_Go p e below _ T2 (mkF m 12 #[rv t] [(.ref t2)])
  exact own_retA X2 hx hret hlk (hb hby d6_12) rfl rfl (by decide) (by decide) (⟨t2, vb2, _, rfl, N2, K2, sz_t2, gt2, sz_vb2, gb2, ne_t2_vb2, Et2, Ft2, Ct2, At2⟩)
theorem own_lia_3_2 (l : Launch) (Z : State) (a0 : Array Value) (hw : own_W a0 Z) (b : Addr) (kb : ClassId) (dv : Value) (c0 c1 c2 : Int32) (h0 : Heap) (n0 : Nat)  (hsl : c2 = 47) (Ab : Arv Z h0 b kb .byte 3 [(.int c0.toInt8.toInt32), (.int c1.toInt8.toInt32), (.int c2.toInt8.toInt32)] dv) :
    own_Met l Z (⟨"java/lang/StringLatin1", "lastIndexOf", "([BII)I"⟩ : MethodName) jdk_43_method_27_code 4 (some .int) own_r_lia #[(.ref b), (.int 47), (.int 2)] h0 (own_Qv (some (.int (2))) h0 n0) := by
  refine own_body (by decide +kernel) ?_
  intro p e s m below meth c T0 X0 hx hZ hby hml hown hnm hret hlk e0
  have N0 := Fr.nil n0
  refine own_cast (own_frame (L := [rv b, iv 47, iv 2]) (ls := #[rv b, iv 47, iv 2, .unset]) rfl rfl) ?_
  refine og_iloadN X0 hx (hb hby d12_0) rfl ?_
  refine own_callS X0 hx hZ hown (own_hw hw 64 rfl) (own_hw hw 65 rfl) (own_hw hw 62 rfl) (own_hw hw 66 rfl) (by decide) (argsL := [(.int 47)]) (rest := []) (own_ce47 l Z a0 hw h0 n0) e0 (by rw [hml]; rfl) (lenOf own_pd97859 rfl) rfl (hb hby d12_1) (W := 0) (Nat.le_of_eq rfl) (by decide) ?_
  intro v1 T1 L1 X1 q1
  obtain ⟨rfl, N1q, e1⟩ := q1
  have N1 := Fr.app N0 N1q
  show own_Go p e below _ T1 (mkF m 4 #[rv b, iv 47, iv 2, .unset] [(.int 1)])
  refine og_ifY X1 hx 9 (hb hby d12_4) (feq (by decide)).2 (by decide) (by decide) ?_
  refine og_iloadN X1 hx (hb hby d12_9) rfl ?_
  refine og_aloadN X1 hx (hb hby d12_10) rfl rfl ?_
  refine own_len X1 hx hZ e1 Ab (hb hby d12_11) ?_
  show own_Go p e below _ T1 (mkF m 12 #[rv b, iv 47, iv 2, .unset] [(.int 3), (.int 2)])
  refine og_iconst X1 hx (hb hby d12_12) ?_
  refine og_isub X1 hx (hb hby d12_13) ?_
  show own_Go p e below _ T1 (mkF m 14 #[rv b, iv 47, iv 2, .unset] [(.int 2), (.int 2)])
  refine own_callS X1 hx hZ hown (own_hw hw 67 rfl) (own_hw hw 68 rfl) (own_hw hw 69 rfl) (own_hw hw 70 rfl) (by decide) (argsL := [(.int 2), (.int 2)]) (rest := []) (own_min_2_2 l Z a0 hw h0 n0) e1 (by rw [hml]; rfl) (lenOf own_pd23903 rfl) rfl (hb hby d12_14) (W := 0) (Nat.le_of_eq rfl) (by decide) ?_
  intro v2 T2 L2 X2 q2
  obtain ⟨rfl, N2q, e2⟩ := q2
  have N2 := Fr.app N1 N2q
  show own_Go p e below _ T2 (mkF m 17 #[rv b, iv 47, iv 2, .unset] [(.int 2)])
  refine og_istoreN X2 hx #[rv b, iv 47, iv 2, iv 2] (hb hby d12_17) rfl ?_
  refine og_iloadN X2 hx (hb hby d12_18) rfl ?_
  refine og_ifN X2 hx (hb hby d12_19) (flt (by decide)).1 ?_
  refine og_aloadN X2 hx (hb hby d12_22) rfl rfl ?_
  refine og_iloadN X2 hx (hb hby d12_23) rfl ?_
  refine own_ldB X2 hx hZ e2 Ab ⟨by decide, by decide⟩ rfl (hb hby d12_24) ?_
  show own_Go p e below _ T2 (mkF m 25 #[rv b, iv 47, iv 2, iv 2] [(.int c2.toInt8.toInt32)])
  refine og_iloadN X2 hx (hb hby d12_25) rfl ?_
  refine own_go (fun t k => XS.i2b X2.here hx rfl (hb hby d12_26) rfl k) ?_
  show own_Go p e below _ T2 (mkF m 27 #[rv b, iv 47, iv 2, iv 2] [(.int 47), (.int c2.toInt8.toInt32)])
  refine og_icN X2 hx (hb hby d12_27) (teq (by rw [hsl]; rfl)).2 ?_
  refine og_iloadN X2 hx (hb hby d12_30) rfl ?_
  exact own_retI X2 hx hret hlk (hb hby d12_31) rfl (by simp) (by decide) (by decide) (⟨rfl, N2, e2⟩)
def own_r_own_po_3_2 : Room := { frames := 4, cells := 2, slots := 4, locals := 58 }
theorem own_po_3_2 (l : Launch) (Z : State) (a0 : Array Value) (hw : own_W a0 Z) (z : Int32) (sf : Value) (t b : Addr) (kb : ClassId) (dv : Value) (c0 c1 c2 : Int32) (h0 : Heap) (n0 : Nat) (hO : Old Z n0 h0) (hG : own_Gs Z z sf)  (hsl : c2 = 47) (Et : own_E Z h0 t) (Fv : own_V Z h0 t b) (Fc : own_C Z h0 t) (Ab : Arv Z h0 b kb .byte 3 [(.int c0.toInt8.toInt32), (.int c1.toInt8.toInt32), (.int c2.toInt8.toInt32)] dv) :
    own_MetH l Z own_EL (⟨"com/example/svazek/svazek/PackageFolder", "nameOf", "(Ljava/lang/String;)Ljava/lang/String;"⟩ : MethodName) prog_41_method_8_code 1 (some (.object "java/lang/String")) own_r_own_po_3_2 #[(.ref t)] h0 (own_Qe Z h0 n0) := by
  refine own_bodyH (by decide +kernel) ?_
  intro p e s m below meth c T0 X0 hx hZ hby hml hown hnm hret hlk e0 hS hk C0
  have hwS : ∀ a ∈ Bundle.stringAtoms, a.before a0 Z = true := fun d hd => hw d ((by decide +kernel : ∀ d ∈ Bundle.stringAtoms, d ∈ tables_1) d hd)
  have N0 := Fr.nil n0
  refine own_cast (own_frame (L := [rv t]) (ls := #[rv t]) rfl rfl) ?_
  obtain ⟨SC, hz, SF, rf⟩ := id hG
  refine og_aloadN X0 hx (hb hby d6_0) rfl rfl ?_
  refine og_aloadN X0 hx (hb hby d6_1) rfl rfl ?_
  refine og_bipush X0 hx (hb hby d6_2) ?_
  refine own_callV X0 hx hZ hown (own_hw hw 34 rfl) (own_hw hw 35 rfl) (notFace_of_selects (args := #[]) (mvT hZ (own_hw hw 37 rfl))) (own_hw hw 37 rfl) (own_hw hw 36 rfl) (own_hw hw 38 rfl) (own_hw hw 11 rfl) (by decide) (b := t) (argsL := [(.int 47)]) (rest := [(.ref t)]) (own_lic_3 l Z a0 hw z sf t b _ _ c0 c1 c2 (2) h0 n0 hO hG (own_lia_3_2 l Z a0 hw b _ _ c0 c1 c2 h0 n0 hsl Ab) Et Fv Fc Ab) e0 Et (by rw [hml]; rfl) (lenOf own_pd49053 rfl) rfl (hb hby d6_4) (W := 1) (Nat.le_of_eq rfl) (by decide) ?_
  intro v1 T1 L1 X1 q1
  obtain ⟨rfl, N1q, e1⟩ := q1
  have N1 := Fr.app N0 N1q
  show own_Go p e below _ T1 (mkF m 7 #[rv t] [(.int 2), (.ref t)])
  refine og_iconst X1 hx (hb hby d6_7) ?_
  refine og_iadd X1 hx (hb hby d6_8) ?_
  show own_Go p e below _ T1 (mkF m 9 #[rv t] [(.int 3), (.ref t)])
  refine own_callVH X1 hx hZ hown (own_hw hw 71 rfl) (own_hw hw 72 rfl) (notFace_of_selects (args := #[]) (mvT hZ (own_hw hw 74 rfl))) (own_hw hw 74 rfl) (own_hw hw 73 rfl) (own_hw hw 75 rfl) (own_hw hw 11 rfl) (by decide) (b := t) (argsL := [(.int 3)]) (rest := []) (own_sub1E l Z a0 hw z sf t b _ _ 3 _ h0 n0 hO hG (by decide) (by decide) Et Fv Fc Ab) (own_EW hw) C0.1 hS hk e1 Et (by rw [hml]; rfl) (lenOf own_pd44404 rfl) rfl (hb hby d6_9) (W := 0) (Nat.le_of_eq rfl) (by decide) ?_
  intro v2 T2 L2 X2 hS2 hZ2 hown2 C2q q2
  obtain ⟨t2, vb2, k2, rfl, N2q, K2q, Et2, Ft2, Ct2, At2⟩ := q2
  have N2 := Fr.app N1 N2q
  have C2 := C0.trans C2q
  have E_t_2 := Et.keep K2q
  have F_t_value_2 := Fv.keep K2q nin0
  have F_t_coder_2 := Fc.keep K2q nin0
  have A_b_2 := Ab.keep K2q nin0
  have O2 := hO.keep K2q all0
  have K2 := (Keep.refl h0 []).trans K2q all0
  show own_Go p e below _ T2 (mkF m 12 #[rv t] [(.ref t2)])
  exact own_retAH X2 hx hret hlk (hb hby d6_12) rfl rfl hZ2 (own_EW hw) C2 rfl hS2 (Nat.le_refl _) (by decide) (by decide) (⟨t2, vb2, _, rfl, N2, K2, Et2, Ft2, Ct2, At2⟩)
def own_r_own_min_3_3 : Room := { frames := 0, cells := 0, slots := 0, locals := 0 }
theorem own_min_3_3 (l : Launch) (Z : State) (a0 : Array Value) (hw : own_W a0 Z)  (h0 : Heap) (n0 : Nat)  :
    own_Met l Z (⟨"java/lang/Math", "min", "(II)I"⟩ : MethodName) jdk_29_method_69_code 2 (some .int) own_r_own_min_3_3 #[(.int 3), (.int 3)] h0 (own_Qv (some (.int (3))) h0 n0) := by
  refine own_body (by decide +kernel) ?_
  intro p e s m below meth c T0 X0 hx hZ hby hml hown hnm hret hlk e0
  have N0 := Fr.nil n0
  refine own_cast (own_frame (L := [iv 3, iv 3]) (ls := #[iv 3, iv 3]) rfl rfl) ?_
  refine og_iloadN X0 hx (hb hby d14_0) rfl ?_
  refine og_iloadN X0 hx (hb hby d14_1) rfl ?_
  refine og_icN X0 hx (hb hby d14_2) (flt (by decide)).2.2.1 ?_
  refine og_iloadN X0 hx (hb hby d14_5) rfl ?_
  refine og_goto X0 hx 10 (hb hby d14_6) (by decide) (by decide) ?_
  exact own_retI X0 hx hret hlk (hb hby d14_10) rfl (by simp) (by decide) (by decide) (⟨rfl, N0, e0⟩)
theorem own_lia_4_m1 (l : Launch) (Z : State) (a0 : Array Value) (hw : own_W a0 Z) (b : Addr) (kb : ClassId) (dv : Value) (c0 c1 c2 c3 : Int32) (h0 : Heap) (n0 : Nat) (hc0 : ¬ c0 < 0 ∧ ¬ (255 : Int32) < c0) (m0 : ¬ c0 = 47) (hc1 : ¬ c1 < 0 ∧ ¬ (255 : Int32) < c1) (m1 : ¬ c1 = 47) (hc2 : ¬ c2 < 0 ∧ ¬ (255 : Int32) < c2) (m2 : ¬ c2 = 47) (hc3 : ¬ c3 < 0 ∧ ¬ (255 : Int32) < c3) (m3 : ¬ c3 = 47) (Ab : Arv Z h0 b kb .byte 4 [(.int c0.toInt8.toInt32), (.int c1.toInt8.toInt32), (.int c2.toInt8.toInt32), (.int c3.toInt8.toInt32)] dv) :
    own_Met l Z (⟨"java/lang/StringLatin1", "lastIndexOf", "([BII)I"⟩ : MethodName) jdk_43_method_27_code 4 (some .int) own_r_lia #[(.ref b), (.int 47), (.int 3)] h0 (own_Qv (some (.int (-1))) h0 n0) := by
  refine own_body (by decide +kernel) ?_
  intro p e s m below meth c T0 X0 hx hZ hby hml hown hnm hret hlk e0
  have N0 := Fr.nil n0
  refine own_cast (own_frame (L := [rv b, iv 47, iv 3]) (ls := #[rv b, iv 47, iv 3, .unset]) rfl rfl) ?_
  refine og_iloadN X0 hx (hb hby d12_0) rfl ?_
  refine own_callS X0 hx hZ hown (own_hw hw 64 rfl) (own_hw hw 65 rfl) (own_hw hw 62 rfl) (own_hw hw 66 rfl) (by decide) (argsL := [(.int 47)]) (rest := []) (own_ce47 l Z a0 hw h0 n0) e0 (by rw [hml]; rfl) (lenOf own_pd97859 rfl) rfl (hb hby d12_1) (W := 0) (Nat.le_of_eq rfl) (by decide) ?_
  intro v1 T1 L1 X1 q1
  obtain ⟨rfl, N1q, e1⟩ := q1
  have N1 := Fr.app N0 N1q
  show own_Go p e below _ T1 (mkF m 4 #[rv b, iv 47, iv 3, .unset] [(.int 1)])
  refine og_ifY X1 hx 9 (hb hby d12_4) (feq (by decide)).2 (by decide) (by decide) ?_
  refine og_iloadN X1 hx (hb hby d12_9) rfl ?_
  refine og_aloadN X1 hx (hb hby d12_10) rfl rfl ?_
  refine own_len X1 hx hZ e1 Ab (hb hby d12_11) ?_
  show own_Go p e below _ T1 (mkF m 12 #[rv b, iv 47, iv 3, .unset] [(.int 4), (.int 3)])
  refine og_iconst X1 hx (hb hby d12_12) ?_
  refine og_isub X1 hx (hb hby d12_13) ?_
  show own_Go p e below _ T1 (mkF m 14 #[rv b, iv 47, iv 3, .unset] [(.int 3), (.int 3)])
  refine own_callS X1 hx hZ hown (own_hw hw 67 rfl) (own_hw hw 68 rfl) (own_hw hw 69 rfl) (own_hw hw 70 rfl) (by decide) (argsL := [(.int 3), (.int 3)]) (rest := []) (own_min_3_3 l Z a0 hw h0 n0) e1 (by rw [hml]; rfl) (lenOf own_pd23903 rfl) rfl (hb hby d12_14) (W := 0) (Nat.le_of_eq rfl) (by decide) ?_
  intro v2 T2 L2 X2 q2
  obtain ⟨rfl, N2q, e2⟩ := q2
  have N2 := Fr.app N1 N2q
  show own_Go p e below _ T2 (mkF m 17 #[rv b, iv 47, iv 3, .unset] [(.int 3)])
  refine og_istoreN X2 hx #[rv b, iv 47, iv 3, iv 3] (hb hby d12_17) rfl ?_
  refine og_iloadN X2 hx (hb hby d12_18) rfl ?_
  refine og_ifN X2 hx (hb hby d12_19) (flt (by decide)).1 ?_
  refine og_aloadN X2 hx (hb hby d12_22) rfl rfl ?_
  refine og_iloadN X2 hx (hb hby d12_23) rfl ?_
  refine own_ldB X2 hx hZ e2 Ab ⟨by decide, by decide⟩ rfl (hb hby d12_24) ?_
  show own_Go p e below _ T2 (mkF m 25 #[rv b, iv 47, iv 3, iv 3] [(.int c3.toInt8.toInt32)])
  refine og_iloadN X2 hx (hb hby d12_25) rfl ?_
  refine own_go (fun t k => XS.i2b X2.here hx rfl (hb hby d12_26) rfl k) ?_
  show own_Go p e below _ T2 (mkF m 27 #[rv b, iv 47, iv 3, iv 3] [(.int 47), (.int c3.toInt8.toInt32)])
  refine og_icY X2 hx 32 (hb hby d12_27) (feq (fun q => m3 (own_b47 _ hc3 q))).2 (by decide) (by decide) ?_
  refine own_go (fun t k => XS.iinc X2.here hx rfl (hb hby d12_32) rfl (l' := #[rv b, iv 47, iv 3, iv 2]) rfl k) ?_
  show own_Go p e below _ T2 (mkF m 35 #[rv b, iv 47, iv 3, iv 2] [])
  refine og_goto X2 hx 18 (hb hby d12_35) (by decide) (by decide) ?_
  refine og_iloadN X2 hx (hb hby d12_18) rfl ?_
  refine og_ifN X2 hx (hb hby d12_19) (flt (by decide)).1 ?_
  refine og_aloadN X2 hx (hb hby d12_22) rfl rfl ?_
  refine og_iloadN X2 hx (hb hby d12_23) rfl ?_
  refine own_ldB X2 hx hZ e2 Ab ⟨by decide, by decide⟩ rfl (hb hby d12_24) ?_
  show own_Go p e below _ T2 (mkF m 25 #[rv b, iv 47, iv 3, iv 2] [(.int c2.toInt8.toInt32)])
  refine og_iloadN X2 hx (hb hby d12_25) rfl ?_
  refine own_go (fun t k => XS.i2b X2.here hx rfl (hb hby d12_26) rfl k) ?_
  show own_Go p e below _ T2 (mkF m 27 #[rv b, iv 47, iv 3, iv 2] [(.int 47), (.int c2.toInt8.toInt32)])
  refine og_icY X2 hx 32 (hb hby d12_27) (feq (fun q => m2 (own_b47 _ hc2 q))).2 (by decide) (by decide) ?_
  refine own_go (fun t k => XS.iinc X2.here hx rfl (hb hby d12_32) rfl (l' := #[rv b, iv 47, iv 3, iv 1]) rfl k) ?_
  show own_Go p e below _ T2 (mkF m 35 #[rv b, iv 47, iv 3, iv 1] [])
  refine og_goto X2 hx 18 (hb hby d12_35) (by decide) (by decide) ?_
  refine og_iloadN X2 hx (hb hby d12_18) rfl ?_
  refine og_ifN X2 hx (hb hby d12_19) (flt (by decide)).1 ?_
  refine og_aloadN X2 hx (hb hby d12_22) rfl rfl ?_
  refine og_iloadN X2 hx (hb hby d12_23) rfl ?_
  refine own_ldB X2 hx hZ e2 Ab ⟨by decide, by decide⟩ rfl (hb hby d12_24) ?_
  show own_Go p e below _ T2 (mkF m 25 #[rv b, iv 47, iv 3, iv 1] [(.int c1.toInt8.toInt32)])
  refine og_iloadN X2 hx (hb hby d12_25) rfl ?_
  refine own_go (fun t k => XS.i2b X2.here hx rfl (hb hby d12_26) rfl k) ?_
  show own_Go p e below _ T2 (mkF m 27 #[rv b, iv 47, iv 3, iv 1] [(.int 47), (.int c1.toInt8.toInt32)])
  refine og_icY X2 hx 32 (hb hby d12_27) (feq (fun q => m1 (own_b47 _ hc1 q))).2 (by decide) (by decide) ?_
  refine own_go (fun t k => XS.iinc X2.here hx rfl (hb hby d12_32) rfl (l' := #[rv b, iv 47, iv 3, iv 0]) rfl k) ?_
  show own_Go p e below _ T2 (mkF m 35 #[rv b, iv 47, iv 3, iv 0] [])
  refine og_goto X2 hx 18 (hb hby d12_35) (by decide) (by decide) ?_
  refine og_iloadN X2 hx (hb hby d12_18) rfl ?_
  refine og_ifN X2 hx (hb hby d12_19) (flt (by decide)).1 ?_
  refine og_aloadN X2 hx (hb hby d12_22) rfl rfl ?_
  refine og_iloadN X2 hx (hb hby d12_23) rfl ?_
  refine own_ldB X2 hx hZ e2 Ab ⟨by decide, by decide⟩ rfl (hb hby d12_24) ?_
  show own_Go p e below _ T2 (mkF m 25 #[rv b, iv 47, iv 3, iv 0] [(.int c0.toInt8.toInt32)])
  refine og_iloadN X2 hx (hb hby d12_25) rfl ?_
  refine own_go (fun t k => XS.i2b X2.here hx rfl (hb hby d12_26) rfl k) ?_
  show own_Go p e below _ T2 (mkF m 27 #[rv b, iv 47, iv 3, iv 0] [(.int 47), (.int c0.toInt8.toInt32)])
  refine og_icY X2 hx 32 (hb hby d12_27) (feq (fun q => m0 (own_b47 _ hc0 q))).2 (by decide) (by decide) ?_
  refine own_go (fun t k => XS.iinc X2.here hx rfl (hb hby d12_32) rfl (l' := #[rv b, iv 47, iv 3, iv (-1)]) rfl k) ?_
  show own_Go p e below _ T2 (mkF m 35 #[rv b, iv 47, iv 3, iv (-1)] [])
  refine og_goto X2 hx 18 (hb hby d12_35) (by decide) (by decide) ?_
  refine og_iloadN X2 hx (hb hby d12_18) rfl ?_
  refine og_ifY X2 hx 38 (hb hby d12_19) (tlt (by decide)).1 (by decide) (by decide) ?_
  refine og_iconst X2 hx (hb hby d12_38) ?_
  exact own_retI X2 hx hret hlk (hb hby d12_39) rfl (by simp) (by decide) (by decide) (⟨rfl, N2, e2⟩)
def own_r_own_lib_4 : Room := { frames := 2, cells := 0, slots := 0, locals := 28 }
theorem own_lib_4 (l : Launch) (Z : State) (a0 : Array Value) (hw : own_W a0 Z) (z : Int32) (sf : Value) (t b : Addr) (kb : ClassId) (dv : Value) (c0 c1 c2 c3 : Int32) (r : Int32) (h0 : Heap) (n0 : Nat) (hO : Old Z n0 h0) (hG : own_Gs Z z sf) (inn : own_Met l Z (⟨"java/lang/StringLatin1", "lastIndexOf", "([BII)I"⟩ : MethodName) jdk_43_method_27_code 4 (some .int) own_r_lia #[.ref b, .int 47, .int 3] h0 (own_Qv (some (.int r)) h0 n0)) (Et : own_E Z h0 t) (Fv : own_V Z h0 t b) (Fc : own_C Z h0 t) (Ab : Arv Z h0 b kb .byte 4 [(.int c0.toInt8.toInt32), (.int c1.toInt8.toInt32), (.int c2.toInt8.toInt32), (.int c3.toInt8.toInt32)] dv) :
    own_Met l Z (⟨"java/lang/String", "lastIndexOf", "(II)I"⟩ : MethodName) jdk_42_method_83_code 3 (some .int) own_r_own_lib_4 #[(.ref t), (.int 47), (.int 3)] h0 (own_Qv (some (.int r)) h0 n0) := by
  refine own_body (by decide +kernel) ?_
  intro p e s m below meth c T0 X0 hx hZ hby hml hown hnm hret hlk e0
  have N0 := Fr.nil n0
  refine own_cast (own_frame (L := [rv t, iv 47, iv 3]) (ls := #[rv t, iv 47, iv 3]) rfl rfl) ?_
  obtain ⟨SC, hz, SF, rf⟩ := id hG
  refine og_aloadN X0 hx (hb hby d10_0) rfl rfl ?_
  refine own_callV X0 hx hZ hown (own_hw hw 55 rfl) (own_hw hw 56 rfl) (notFace_of_selects (args := #[]) (mvT hZ (own_hw hw 58 rfl))) (own_hw hw 58 rfl) (own_hw hw 57 rfl) (own_hw hw 59 rfl) (own_hw hw 11 rfl) (by decide) (b := t) (argsL := []) (rest := []) (own_isl1 l Z a0 hw z sf t h0 n0 hO hG Fc) e0 Et (by rw [hml]; rfl) (lenOf own_pd61835 rfl) rfl (hb hby d10_1) (W := 0) (Nat.le_of_eq rfl) (by decide) ?_
  intro v1 T1 L1 X1 q1
  obtain ⟨rfl, N1q, e1⟩ := q1
  have N1 := Fr.app N0 N1q
  show own_Go p e below _ T1 (mkF m 4 #[rv t, iv 47, iv 3] [(.int (1 : Int32))])
  refine og_ifN X1 hx (hb hby d10_4) (feq (by decide)).1 ?_
  refine og_aloadN X1 hx (hb hby d10_7) rfl rfl ?_
  refine og_getF X1 hx hZ hown (own_hw hw 28 rfl) Via.refl e1 Fv (hb hby d10_8) ?_
  intro T2 X2 e2
  refine og_iloadN X2 hx (hb hby d10_11) rfl ?_
  refine og_iloadN X2 hx (hb hby d10_12) rfl ?_
  refine own_callS X2 hx hZ hown (own_hw hw 60 rfl) (own_hw hw 61 rfl) (own_hw hw 62 rfl) (own_hw hw 63 rfl) (by decide) (argsL := [(.ref b), (.int 47), (.int 3)]) (rest := []) inn e2 (by rw [hml]; rfl) (lenOf own_pd83039 rfl) rfl (hb hby d10_13) (W := 0) (Nat.le_of_eq rfl) (by decide) ?_
  intro v3 T3 L3 X3 q3
  obtain ⟨rfl, N3q, e3⟩ := q3
  have N3 := Fr.app N1 N3q
  show own_Go p e below _ T3 (mkF m 16 #[rv t, iv 47, iv 3] [(.int r)])
  refine og_goto X3 hx 28 (hb hby d10_16) (by decide) (by decide) ?_
  exact own_retI X3 hx hret hlk (hb hby d10_28) rfl (by simp) (by decide) (by decide) (⟨rfl, N3, e3⟩)
def own_r_own_lic_4 : Room := { frames := 3, cells := 0, slots := 0, locals := 42 }
theorem own_lic_4 (l : Launch) (Z : State) (a0 : Array Value) (hw : own_W a0 Z) (z : Int32) (sf : Value) (t b : Addr) (kb : ClassId) (dv : Value) (c0 c1 c2 c3 : Int32) (r : Int32) (h0 : Heap) (n0 : Nat) (hO : Old Z n0 h0) (hG : own_Gs Z z sf) (inn : own_Met l Z (⟨"java/lang/StringLatin1", "lastIndexOf", "([BII)I"⟩ : MethodName) jdk_43_method_27_code 4 (some .int) own_r_lia #[.ref b, .int 47, .int 3] h0 (own_Qv (some (.int r)) h0 n0)) (Et : own_E Z h0 t) (Fv : own_V Z h0 t b) (Fc : own_C Z h0 t) (Ab : Arv Z h0 b kb .byte 4 [(.int c0.toInt8.toInt32), (.int c1.toInt8.toInt32), (.int c2.toInt8.toInt32), (.int c3.toInt8.toInt32)] dv) :
    own_Met l Z (⟨"java/lang/String", "lastIndexOf", "(I)I"⟩ : MethodName) jdk_42_method_82_code 2 (some .int) own_r_own_lic_4 #[(.ref t), (.int 47)] h0 (own_Qv (some (.int r)) h0 n0) := by
  refine own_body (by decide +kernel) ?_
  intro p e s m below meth c T0 X0 hx hZ hby hml hown hnm hret hlk e0
  have N0 := Fr.nil n0
  refine own_cast (own_frame (L := [rv t, iv 47]) (ls := #[rv t, iv 47]) rfl rfl) ?_
  obtain ⟨SC, hz, SF, rf⟩ := id hG
  refine og_aloadN X0 hx (hb hby d7_0) rfl rfl ?_
  refine og_iloadN X0 hx (hb hby d7_1) rfl ?_
  refine og_aloadN X0 hx (hb hby d7_2) rfl rfl ?_
  refine own_callV X0 hx hZ hown (own_hw hw 39 rfl) (own_hw hw 40 rfl) (notFace_of_selects (args := #[]) (mvT hZ (own_hw hw 42 rfl))) (own_hw hw 42 rfl) (own_hw hw 41 rfl) (own_hw hw 43 rfl) (own_hw hw 11 rfl) (by decide) (b := t) (argsL := []) (rest := [(.int 47), (.ref t)]) (own_slen l Z a0 hw z sf t b _ _ 4 _ h0 n0 hO hG Et Fv Fc Ab) e0 Et (by rw [hml]; rfl) (lenOf own_pd13941 rfl) rfl (hb hby d7_3) (W := 2) (Nat.le_of_eq rfl) (by decide) ?_
  intro v1 T1 L1 X1 q1
  obtain ⟨rfl, N1q, e1⟩ := q1
  have N1 := Fr.app N0 N1q
  show own_Go p e below _ T1 (mkF m 6 #[rv t, iv 47] [(.int 4), (.int 47), (.ref t)])
  refine og_iconst X1 hx (hb hby d7_6) ?_
  refine og_isub X1 hx (hb hby d7_7) ?_
  show own_Go p e below _ T1 (mkF m 8 #[rv t, iv 47] [(.int 3), (.int 47), (.ref t)])
  refine own_callV X1 hx hZ hown (own_hw hw 50 rfl) (own_hw hw 51 rfl) (notFace_of_selects (args := #[]) (mvT hZ (own_hw hw 53 rfl))) (own_hw hw 53 rfl) (own_hw hw 52 rfl) (own_hw hw 54 rfl) (own_hw hw 11 rfl) (by decide) (b := t) (argsL := [(.int 47), (.int 3)]) (rest := []) (own_lib_4 l Z a0 hw z sf t b _ _ c0 c1 c2 c3 r h0 n0 hO hG inn Et Fv Fc Ab) e1 Et (by rw [hml]; rfl) (lenOf own_pd23903 rfl) rfl (hb hby d7_8) (W := 0) (Nat.le_of_eq rfl) (by decide) ?_
  intro v2 T2 L2 X2 q2
  obtain ⟨rfl, N2q, e2⟩ := q2
  have N2 := Fr.app N1 N2q
  show own_Go p e below _ T2 (mkF m 11 #[rv t, iv 47] [(.int r)])
  exact own_retI X2 hx hret hlk (hb hby d7_11) rfl (by simp) (by decide) (by decide) (⟨rfl, N2, e2⟩)
def own_r_own_po_4_m1 : Room := { frames := 4, cells := 0, slots := 0, locals := 58 }
theorem own_po_4_m1 (l : Launch) (Z : State) (a0 : Array Value) (hw : own_W a0 Z) (z : Int32) (sf : Value) (t b : Addr) (kb : ClassId) (dv : Value) (c0 c1 c2 c3 : Int32) (h0 : Heap) (n0 : Nat) (hO : Old Z n0 h0) (hG : own_Gs Z z sf) (hc0 : ¬ c0 < 0 ∧ ¬ (255 : Int32) < c0) (m0 : ¬ c0 = 47) (hc1 : ¬ c1 < 0 ∧ ¬ (255 : Int32) < c1) (m1 : ¬ c1 = 47) (hc2 : ¬ c2 < 0 ∧ ¬ (255 : Int32) < c2) (m2 : ¬ c2 = 47) (hc3 : ¬ c3 < 0 ∧ ¬ (255 : Int32) < c3) (m3 : ¬ c3 = 47) (Et : own_E Z h0 t) (Fv : own_V Z h0 t b) (Fc : own_C Z h0 t) (Ab : Arv Z h0 b kb .byte 4 [(.int c0.toInt8.toInt32), (.int c1.toInt8.toInt32), (.int c2.toInt8.toInt32), (.int c3.toInt8.toInt32)] dv) :
    own_Met l Z (⟨"com/example/svazek/svazek/PackageFolder", "nameOf", "(Ljava/lang/String;)Ljava/lang/String;"⟩ : MethodName) prog_41_method_8_code 1 (some (.object "java/lang/String")) own_r_own_po_4_m1 #[(.ref t)] h0 (own_Qv (some (.ref t)) h0 n0) := by
  refine own_body (by decide +kernel) ?_
  intro p e s m below meth c T0 X0 hx hZ hby hml hown hnm hret hlk e0
  have N0 := Fr.nil n0
  refine own_cast (own_frame (L := [rv t]) (ls := #[rv t]) rfl rfl) ?_
  obtain ⟨SC, hz, SF, rf⟩ := id hG
  refine og_aloadN X0 hx (hb hby d6_0) rfl rfl ?_
  refine og_aloadN X0 hx (hb hby d6_1) rfl rfl ?_
  refine og_bipush X0 hx (hb hby d6_2) ?_
  refine own_callV X0 hx hZ hown (own_hw hw 34 rfl) (own_hw hw 35 rfl) (notFace_of_selects (args := #[]) (mvT hZ (own_hw hw 37 rfl))) (own_hw hw 37 rfl) (own_hw hw 36 rfl) (own_hw hw 38 rfl) (own_hw hw 11 rfl) (by decide) (b := t) (argsL := [(.int 47)]) (rest := [(.ref t)]) (own_lic_4 l Z a0 hw z sf t b _ _ c0 c1 c2 c3 (-1) h0 n0 hO hG (own_lia_4_m1 l Z a0 hw b _ _ c0 c1 c2 c3 h0 n0 hc0 m0 hc1 m1 hc2 m2 hc3 m3 Ab) Et Fv Fc Ab) e0 Et (by rw [hml]; rfl) (lenOf own_pd49053 rfl) rfl (hb hby d6_4) (W := 1) (Nat.le_of_eq rfl) (by decide) ?_
  intro v1 T1 L1 X1 q1
  obtain ⟨rfl, N1q, e1⟩ := q1
  have N1 := Fr.app N0 N1q
  show own_Go p e below _ T1 (mkF m 7 #[rv t] [(.int (-1)), (.ref t)])
  refine og_iconst X1 hx (hb hby d6_7) ?_
  refine og_iadd X1 hx (hb hby d6_8) ?_
  show own_Go p e below _ T1 (mkF m 9 #[rv t] [(.int 0), (.ref t)])
  refine own_callV X1 hx hZ hown (own_hw hw 71 rfl) (own_hw hw 72 rfl) (notFace_of_selects (args := #[]) (mvT hZ (own_hw hw 74 rfl))) (own_hw hw 74 rfl) (own_hw hw 73 rfl) (own_hw hw 75 rfl) (own_hw hw 11 rfl) (by decide) (b := t) (argsL := [(.int 0)]) (rest := []) (own_sub1Sz l Z a0 hw z sf t b _ _ 4 _ h0 n0 hO hG (by decide) Et Fv Fc Ab) e1 Et (by rw [hml]; rfl) (lenOf own_pd44404 rfl) rfl (hb hby d6_9) (W := 0) (Nat.le_of_eq rfl) (by decide) ?_
  intro v2 T2 L2 X2 q2
  obtain ⟨rfl, N2q, e2⟩ := q2
  have N2 := Fr.app N1 N2q
  show own_Go p e below _ T2 (mkF m 12 #[rv t] [(.ref t)])
  exact own_retA X2 hx hret hlk (hb hby d6_12) rfl rfl (by decide) (by decide) (⟨rfl, N2, e2⟩)
def own_Qs3 (Z : State) (h0 : Heap) (n0 : Nat) (v0 v1 v2 : Value) (v : Option Value) (h : Heap) (L : List Loc) : Prop := ∃ (t b : Addr) (k : ClassId), v = some (.ref t) ∧ Fr n0 L ∧ Keep h0 h [] ∧ h0.size ≤ t ∧ n0 ≤ t ∧ h0.size ≤ b ∧ n0 ≤ b ∧ t ≠ b ∧ own_E Z h t ∧ own_V Z h t b ∧ own_C Z h t ∧ Arv Z h b k .byte 3 [v0, v1, v2] (.int (0 : Int32))
def own_r_own_ckl_1_4 : Room := { frames := 0, cells := 0, slots := 0, locals := 0 }
theorem own_ckl_1_4 (l : Launch) (Z : State) (a0 : Array Value) (hw : own_W a0 Z)  (h0 : Heap) (n0 : Nat)  :
    own_Met l Z (⟨"java/util/Arrays", "checkLength", "(II)V"⟩ : MethodName) jdk_65_method_131_code 2 none own_r_own_ckl_1_4 #[(.int 1), (.int 4)] h0 (own_Qv none h0 n0) := by
  refine own_body (by decide +kernel) ?_
  intro p e s m below meth c T0 X0 hx hZ hby hml hown hnm hret hlk e0
  have N0 := Fr.nil n0
  refine own_cast (own_frame (L := [iv 1, iv 4]) (ls := #[iv 1, iv 4]) rfl rfl) ?_
  refine og_iloadN X0 hx (hb hby d30_0) rfl ?_
  refine og_iloadN X0 hx (hb hby d30_1) rfl ?_
  refine og_icY X0 hx 37 (hb hby d30_2) (flt (by decide)).2.1 (by decide) (by decide) ?_
  exact own_retV X0 hx hret hlk (hb hby d30_37) (by decide) (by decide) (⟨rfl, N0, e0⟩)
def own_Qr_1_4_4 (Z : State) (h0 : Heap) (n0 : Nat) (v0 v1 v2 v3 : Value) (v : Option Value) (h : Heap) (L : List Loc) : Prop := ∃ (b : Addr) (k : ClassId), v = some (.ref b) ∧ Fr n0 L ∧ Keep h0 h [] ∧ h0.size ≤ b ∧ n0 ≤ b ∧ Arv Z h b k .byte 3 [v1, v2, v3] (.int (0 : Int32))
def own_r_own_crb_1_4_4 : Room := { frames := 1, cells := 1, slots := 3, locals := 18 }
theorem own_crb_1_4_4 (l : Launch) (Z : State) (a0 : Array Value) (hw : own_W a0 Z) (b : Addr) (kb : ClassId) (dv : Value) (v0 v1 v2 v3 : Value) (h0 : Heap) (n0 : Nat) (hO : Old Z n0 h0) (Ab : Arv Z h0 b kb .byte 4 [v0, v1, v2, v3] dv) :
    own_Met l Z (⟨"java/util/Arrays", "copyOfRangeByte", "([BII)[B"⟩ : MethodName) jdk_65_method_133_code 5 (some (.array .byte)) own_r_own_crb_1_4_4 #[(.ref b), (.int 1), (.int 4)] h0 (own_Qr_1_4_4 Z h0 n0 v0 v1 v2 v3) := by
  refine own_body (by decide +kernel) ?_
  intro p e s m below meth c T0 X0 hx hZ hby hml hown hnm hret hlk e0
  have N0 := Fr.nil n0
  refine own_cast (own_frame (L := [rv b, iv 1, iv 4]) (ls := #[rv b, iv 1, iv 4, .unset, .unset]) rfl rfl) ?_
  refine og_iloadN X0 hx (hb hby d29_0) rfl ?_
  refine og_iloadN X0 hx (hb hby d29_1) rfl ?_
  refine own_callS X0 hx hZ hown (own_hw hw 129 rfl) (own_hw hw 130 rfl) (own_hw hw 124 rfl) (own_hw hw 131 rfl) (by decide) (argsL := [(.int 1), (.int 4)]) (rest := []) (own_ckl_1_4 l Z a0 hw h0 n0) e0 (by rw [hml]; rfl) (lenOf own_pd97226 rfl) rfl (hb hby d29_2) (W := 0) (Nat.le_of_eq rfl) (by decide) ?_
  intro v1 T1 L1 X1 q1
  obtain ⟨rfl, N1q, e1⟩ := q1
  have N1 := Fr.app N0 N1q
  show own_Go p e below _ T1 (mkF m 5 #[rv b, iv 1, iv 4, .unset, .unset] [])
  refine og_iloadN X1 hx (hb hby d29_5) rfl ?_
  refine og_iloadN X1 hx (hb hby d29_6) rfl ?_
  refine og_isub X1 hx (hb hby d29_7) ?_
  refine og_istoreN X1 hx #[rv b, iv 1, iv 4, iv 3, .unset] (hb hby d29_8) rfl ?_
  refine og_iloadN X1 hx (hb hby d29_9) rfl ?_
  refine own_newP X1 hx hZ (own_hw hw 23 rfl) e1 (hb hby d29_10) (by decide) 3 (by decide) (by decide) (by decide) (by decide) ?_
  intro T2 h2 k2 b2 g2 X2 e2 E2 A2
  have ne_b_b2 : b ≠ b2 := Nat.ne_of_lt (Nat.lt_of_lt_of_eq Ab.lt g2.symm)
  have ge_b2 : n0 ≤ b2 := Nat.le_trans (own_oldle hO) (Nat.le_of_eq g2.symm)
  have sz_b2 : h0.size ≤ b2 := Nat.le_trans (Keep.refl h0 []).1 (Nat.le_of_eq g2.symm)
  have A_b_2 := Ab.ext E2
  have O2 := hO.ext E2
  have K2 := (Keep.refl h0 []).ext E2
  have A_b2_2 : Arv Z h2 b2 k2 .byte 3 [(.int (0 : Int32)), (.int (0 : Int32)), (.int (0 : Int32))] (.int (0 : Int32)) := A2
  show own_Go p e below _ T2 (mkF m 12 #[rv b, iv 1, iv 4, iv 3, .unset] [(.ref b2)])
  refine og_astore X2 hx #[rv b, iv 1, iv 4, iv 3, rv b2] (hb hby d29_12) rfl rfl ?_
  refine og_aloadN X2 hx (hb hby d29_14) rfl rfl ?_
  refine og_iloadN X2 hx (hb hby d29_15) rfl ?_
  refine og_aload X2 hx (hb hby d29_16) rfl rfl ?_
  refine og_iconst X2 hx (hb hby d29_18) ?_
  refine og_aloadN X2 hx (hb hby d29_19) rfl rfl ?_
  refine own_len X2 hx hZ e2 A_b_2 (hb hby d29_20) ?_
  show own_Go p e below _ T2 (mkF m 21 #[rv b, iv 1, iv 4, iv 3, rv b2] [(.int 4), (.int 0), (.ref b2), (.int 1), (.ref b)])
  refine og_iloadN X2 hx (hb hby d29_21) rfl ?_
  refine og_isub X2 hx (hb hby d29_22) ?_
  refine og_iloadN X2 hx (hb hby d29_23) rfl ?_
  refine own_callS X2 hx hZ hown (own_hw hw 132 rfl) (own_hw hw 68 rfl) (own_hw hw 69 rfl) (own_hw hw 70 rfl) (by decide) (argsL := [(.int 3), (.int 3)]) (rest := [(.int 0), (.ref b2), (.int 1), (.ref b)]) (own_min_3_3 l Z a0 hw h2 n0) e2 (by rw [hml]; rfl) (lenOf own_pd23903 rfl) rfl (hb hby d29_24) (W := 4) (Nat.le_of_eq rfl) (by decide) ?_
  intro v3 T3 L3 X3 q3
  obtain ⟨rfl, N3q, e3⟩ := q3
  have N3 := Fr.app N1 N3q
  show own_Go p e below _ T3 (mkF m 27 #[rv b, iv 1, iv 4, iv 3, rv b2] [(.int 3), (.int 0), (.ref b2), (.int 1), (.ref b)])
  obtain ⟨T4, h4, L4, X4, e4, N4, K4q, A4, st4⟩ := cpA X3 hx hZ hown (own_hw hw 133 rfl) (own_hw hw 136 rfl) (own_hw hw 134 rfl) (own_hw hw 135 rfl) e3 A_b_2 A_b2_2 (us := [v1, v2, v3]) (Or.inl ⟨rfl, rfl⟩) (by decide) (by decide) (by decide) (by decide) (by decide) rfl (by decide) N3 ge_b2 (g := (mkF m 27 #[rv b, iv 1, iv 4, iv 3, rv b2] [(.int 3), (.int 0), (.ref b2), (.int 1), (.ref b)])) rfl (by rw [hml]; rfl) rfl (hb hby d29_27) (by decide) (W := 0) (by show 2 * 0 + _ ≤ _; exact Nat.le_of_eq rfl) (by decide)
  refine own_go st4 ?_
  have A_b_4 := A_b_2.keep K4q (ninS ne_b_b2 nin0)
  have O4 := O2.keep K4q (allS ge_b2 all0)
  have K4 := K2.trans K4q (allS (Or.inr sz_b2) all0)
  have A_b2_4 : Arv Z h4 b2 k2 .byte 3 [v1, v2, v3] (.int (0 : Int32)) := A4
  show own_Go p e below _ T4 (mkF m 30 #[rv b, iv 1, iv 4, iv 3, rv b2] [])
  refine og_aload X4 hx (hb hby d29_30) rfl rfl ?_
  exact own_retA X4 hx hret hlk (hb hby d29_32) rfl rfl (by decide) (by decide) (by rw [e4]; exact ⟨b2, _, rfl, N4, K4, sz_b2, ge_b2, A_b2_4⟩)
def own_r_own_cr_1_4_4 : Room := { frames := 2, cells := 1, slots := 3, locals := 34 }
theorem own_cr_1_4_4 (l : Launch) (Z : State) (a0 : Array Value) (hw : own_W a0 Z) (b : Addr) (kb : ClassId) (dv : Value) (v0 v1 v2 v3 : Value) (h0 : Heap) (n0 : Nat) (hO : Old Z n0 h0) (Ab : Arv Z h0 b kb .byte 4 [v0, v1, v2, v3] dv) :
    own_Met l Z (⟨"java/util/Arrays", "copyOfRange", "([BII)[B"⟩ : MethodName) jdk_65_method_132_code 3 (some (.array .byte)) own_r_own_cr_1_4_4 #[(.ref b), (.int 1), (.int 4)] h0 (own_Qr_1_4_4 Z h0 n0 v0 v1 v2 v3) := by
  refine own_body (by decide +kernel) ?_
  intro p e s m below meth c T0 X0 hx hZ hby hml hown hnm hret hlk e0
  have N0 := Fr.nil n0
  refine own_cast (own_frame (L := [rv b, iv 1, iv 4]) (ls := #[rv b, iv 1, iv 4]) rfl rfl) ?_
  refine og_iloadN X0 hx (hb hby d28_0) rfl ?_
  refine og_ifY X0 hx 10 (hb hby d28_1) (feq (by decide)).2 (by decide) (by decide) ?_
  refine og_aloadN X0 hx (hb hby d28_10) rfl rfl ?_
  refine og_iloadN X0 hx (hb hby d28_11) rfl ?_
  refine og_iloadN X0 hx (hb hby d28_12) rfl ?_
  refine own_callS X0 hx hZ hown (own_hw hw 126 rfl) (own_hw hw 127 rfl) (own_hw hw 124 rfl) (own_hw hw 128 rfl) (by decide) (argsL := [(.ref b), (.int 1), (.int 4)]) (rest := []) (own_crb_1_4_4 l Z a0 hw b _ _ v0 v1 v2 v3 h0 n0 hO Ab) e0 (by rw [hml]; rfl) (lenOf own_pd77155 rfl) rfl (hb hby d28_13) (W := 0) (Nat.le_of_eq rfl) (by decide) ?_
  intro v1 T1 L1 X1 q1
  obtain ⟨b1, k1, rfl, N1q, K1q, z1q, g1q, A1q⟩ := q1
  have N1 := Fr.app N0 N1q
  have ne_b_b1 : b ≠ b1 := Nat.ne_of_lt (Nat.lt_of_lt_of_le Ab.lt z1q)
  have sz_b1 : h0.size ≤ b1 := Nat.le_trans (Keep.refl h0 []).1 z1q
  have A_b_1 := Ab.keep K1q nin0
  have O1 := hO.keep K1q all0
  have K1 := (Keep.refl h0 []).trans K1q all0
  show own_Go p e below _ T1 (mkF m 16 #[rv b, iv 1, iv 4] [(.ref b1)])
  exact own_retA X1 hx hret hlk (hb hby d28_16) rfl rfl (by decide) (by decide) (⟨b1, _, rfl, N1, K1, sz_b1, g1q, A1q⟩)
def own_r_own_ns_1_3_4 : Room := { frames := 3, cells := 2, slots := 7, locals := 50 }
theorem own_ns_1_3_4 (l : Launch) (Z : State) (a0 : Array Value) (hw : own_W a0 Z) (b : Addr) (kb : ClassId) (dv : Value) (v0 v1 v2 v3 : Value) (h0 : Heap) (n0 : Nat) (hO : Old Z n0 h0) (Ab : Arv Z h0 b kb .byte 4 [v0, v1, v2, v3] dv) :
    own_Met l Z (⟨"java/lang/StringLatin1", "newString", "([BII)Ljava/lang/String;"⟩ : MethodName) jdk_43_method_47_code 3 (some (.object "java/lang/String")) own_r_own_ns_1_3_4 #[(.ref b), (.int 1), (.int 3)] h0 (own_Qs3 Z h0 n0 v1 v2 v3) := by
  refine own_body (by decide +kernel) ?_
  intro p e s m below meth c T0 X0 hx hZ hby hml hown hnm hret hlk e0
  have N0 := Fr.nil n0
  refine own_cast (own_frame (L := [rv b, iv 1, iv 3]) (ls := #[rv b, iv 1, iv 3]) rfl rfl) ?_
  refine og_iloadN X0 hx (hb hby d23_0) rfl ?_
  refine og_ifY X0 hx 7 (hb hby d23_1) (feq (by decide)).2 (by decide) (by decide) ?_
  refine own_newO X0 hx hZ hown (own_hw hw 121 rfl) (own_hw hw 10 rfl) (own_hw hw 11 rfl) e0 (hb hby d23_7) (by decide) (by decide) ?_
  intro T1 h1 b1 g1 X1 e1 E1 A1 D1
  have ne_b_b1 : b ≠ b1 := Nat.ne_of_lt (Nat.lt_of_lt_of_eq Ab.lt g1.symm)
  have ge_b1 : n0 ≤ b1 := Nat.le_trans (own_oldle hO) (Nat.le_of_eq g1.symm)
  have sz_b1 : h0.size ≤ b1 := Nat.le_trans (Keep.refl h0 []).1 (Nat.le_of_eq g1.symm)
  have A_b_1 := Ab.ext E1
  have O1 := hO.ext E1
  have K1 := (Keep.refl h0 []).ext E1
  have F_b1_value_1 : Fld Z h1 b1 "java/lang/String" "value" "[B" .null := D1 (Or.inr (own_hw hw 24 rfl)) (ty := (.array .byte)) (by decide)
  have F_b1_coder_1 : Fld Z h1 b1 "java/lang/String" "coder" "B" (.int 0) := D1 (Or.inr (own_hw hw 25 rfl)) (ty := .byte) (by decide)
  show own_Go p e below _ T1 (mkF m 10 #[rv b, iv 1, iv 3] [(.ref b1)])
  refine og_dup X1 hx (hb hby d23_10) rfl ?_
  refine og_aloadN X1 hx (hb hby d23_11) rfl rfl ?_
  refine og_iloadN X1 hx (hb hby d23_12) rfl ?_
  refine og_iloadN X1 hx (hb hby d23_13) rfl ?_
  refine og_iloadN X1 hx (hb hby d23_14) rfl ?_
  refine og_iadd X1 hx (hb hby d23_15) ?_
  show own_Go p e below _ T1 (mkF m 16 #[rv b, iv 1, iv 3] [(.int 4), (.int 1), (.ref b), (.ref b1), (.ref b1)])
  refine own_callS X1 hx hZ hown (own_hw hw 122 rfl) (own_hw hw 123 rfl) (own_hw hw 124 rfl) (own_hw hw 125 rfl) (by decide) (argsL := [(.ref b), (.int 1), (.int 4)]) (rest := [(.ref b1), (.ref b1)]) (own_cr_1_4_4 l Z a0 hw b _ _ v0 v1 v2 v3 h1 n0 O1 A_b_1) e1 (by rw [hml]; rfl) (lenOf own_pd77155 rfl) rfl (hb hby d23_16) (W := 2) (Nat.le_of_eq rfl) (by decide) ?_
  intro v2 T2 L2 X2 q2
  obtain ⟨b2, k2, rfl, N2q, K2q, z2q, g2q, A2q⟩ := q2
  have N2 := Fr.app N0 N2q
  have ne_b_b2 : b ≠ b2 := Nat.ne_of_lt (Nat.lt_of_lt_of_le A_b_1.lt z2q)
  have ne_b1_b2 : b1 ≠ b2 := Nat.ne_of_lt (Nat.lt_of_lt_of_le A1.lt z2q)
  have sz_b2 : h0.size ≤ b2 := Nat.le_trans K1.1 z2q
  have A_b_2 := A_b_1.keep K2q nin0
  have E_b1_2 := A1.keep K2q
  have F_b1_value_2 := F_b1_value_1.keep K2q nin0
  have F_b1_coder_2 := F_b1_coder_1.keep K2q nin0
  have O2 := O1.keep K2q all0
  have K2 := K1.trans K2q all0
  show own_Go p e below _ T2 (mkF m 19 #[rv b, iv 1, iv 3] [(.ref b2), (.ref b1), (.ref b1)])
  refine og_iconst X2 hx (hb hby d23_19) ?_
  refine own_callN X2 hx hZ hown (own_hw hw 137 rfl) (own_hw hw 138 rfl) (own_hw hw 139 rfl) (own_hw hw 11 rfl) (by decide) rfl (b := b1) (argsL := [(.ref b2), (.int 0)]) (rest := [(.ref b1)]) (own_si l Z a0 hw b1 b2 _ _ T2.heap n0 O2 ge_b1 E_b1_2 F_b1_value_2 F_b1_coder_2) rfl (by rw [hml]; rfl) (lenOf own_pd58512 rfl) rfl (hb hby d23_20) (W := 1) (Nat.le_of_eq rfl) (by decide) ?_
  intro v3 T3 L3 X3 q3
  obtain ⟨rfl, N3q, K3q, Fv3, Fc3⟩ := q3
  have N3 := Fr.app N2 N3q
  have A_b_3 := A_b_2.keep K3q (ninS ne_b_b1 nin0)
  have E_b1_3 := E_b1_2.keep K3q
  have A_b2_3 := A2q.keep K3q (ninS (Ne.symm ne_b1_b2) nin0)
  have O3 := O2.keep K3q (allS ge_b1 all0)
  have K3 := K2.trans K3q (allS (Or.inr sz_b1) all0)
  show own_Go p e below _ T3 (mkF m 23 #[rv b, iv 1, iv 3] [(.ref b1)])
  exact own_retA X3 hx hret hlk (hb hby d23_23) rfl rfl (by decide) (by decide) (⟨b1, b2, _, rfl, N3, K3, sz_b1, ge_b1, sz_b2, g2q, ne_b1_b2, E_b1_3, Fv3, Fc3, A_b2_3⟩)
def own_r_own_subN3 : Room := { frames := 4, cells := 2, slots := 7, locals := 64 }
theorem own_subN3 (l : Launch) (Z : State) (a0 : Array Value) (hw : own_W a0 Z) (z : Int32) (sf : Value) (t b : Addr) (kb : ClassId) (dv : Value) (n : Int32) (vs : List Value) (lo : Int32) (hi : Int32) (w0 w1 w2 : Value) (h0 : Heap) (n0 : Nat) (hO : Old Z n0 h0) (hG : own_Gs Z z sf) (h1 : ¬ lo < 0) (h2 : ¬ hi < lo) (h3 : ¬ n < hi) (hx0 : ¬ lo = 0) (inn : own_Met l Z (⟨"java/lang/StringLatin1", "newString", "([BII)Ljava/lang/String;"⟩ : MethodName) jdk_43_method_47_code 3 (some (.object "java/lang/String")) own_r_own_ns_1_3_4 #[.ref b, .int lo, .int (hi - lo)] h0 (own_Qs3 Z h0 n0 w0 w1 w2)) (Et : own_E Z h0 t) (Fv : own_V Z h0 t b) (Fc : own_C Z h0 t) (Ab : Arv Z h0 b kb .byte n vs dv) :
    own_Met l Z (⟨"java/lang/String", "substring", "(II)Ljava/lang/String;"⟩ : MethodName) jdk_42_method_92_code 5 (some (.object "java/lang/String")) own_r_own_subN3 #[(.ref t), (.int lo), (.int hi)] h0 (own_Qs3 Z h0 n0 w0 w1 w2) := by
  refine own_body (by decide +kernel) ?_
  intro p e s m below meth c T0 X0 hx hZ hby hml hown hnm hret hlk e0
  have N0 := Fr.nil n0
  refine own_cast (own_frame (L := [rv t, iv lo, iv hi]) (ls := #[rv t, iv lo, iv hi, .unset, .unset]) rfl rfl) ?_
  obtain ⟨SC, hz, SF, rf⟩ := id hG
  refine og_aloadN X0 hx (hb hby d16_0) rfl rfl ?_
  refine own_callV X0 hx hZ hown (own_hw hw 39 rfl) (own_hw hw 40 rfl) (notFace_of_selects (args := #[]) (mvT hZ (own_hw hw 42 rfl))) (own_hw hw 42 rfl) (own_hw hw 41 rfl) (own_hw hw 43 rfl) (own_hw hw 11 rfl) (by decide) (b := t) (argsL := []) (rest := []) (own_slen l Z a0 hw z sf t b _ _ n _ h0 n0 hO hG Et Fv Fc Ab) e0 Et (by rw [hml]; rfl) (lenOf own_pd13941 rfl) rfl (hb hby d16_1) (W := 0) (Nat.le_of_eq rfl) (by decide) ?_
  intro v1 T1 L1 X1 q1
  obtain ⟨rfl, N1q, e1⟩ := q1
  have N1 := Fr.app N0 N1q
  show own_Go p e below _ T1 (mkF m 4 #[rv t, iv lo, iv hi, .unset, .unset] [(.int n)])
  refine og_istoreN X1 hx #[rv t, iv lo, iv hi, iv n, .unset] (hb hby d16_4) rfl ?_
  refine og_iloadN X1 hx (hb hby d16_5) rfl ?_
  refine og_iloadN X1 hx (hb hby d16_6) rfl ?_
  refine og_iloadN X1 hx (hb hby d16_7) rfl ?_
  refine own_callS X1 hx hZ hown (own_hw hw 81 rfl) (own_hw hw 82 rfl) (own_hw hw 11 rfl) (own_hw hw 83 rfl) (by decide) (argsL := [(.int lo), (.int hi), (.int n)]) (rest := []) (own_cbb l Z a0 hw z sf lo hi n h0 n0 hO hG h1 h2 h3) e1 (by rw [hml]; rfl) (lenOf own_pd73746 rfl) rfl (hb hby d16_8) (W := 0) (Nat.le_of_eq rfl) (by decide) ?_
  intro v2 T2 L2 X2 q2
  obtain ⟨rfl, N2q, e2⟩ := q2
  have N2 := Fr.app N1 N2q
  show own_Go p e below _ T2 (mkF m 11 #[rv t, iv lo, iv hi, iv n, .unset] [])
  refine og_iloadN X2 hx (hb hby d16_11) rfl ?_
  refine og_ifY X2 hx 22 (hb hby d16_12) (feq hx0).2 (by decide) (by decide) ?_
  refine og_iloadN X2 hx (hb hby d16_22) rfl ?_
  refine og_iloadN X2 hx (hb hby d16_23) rfl ?_
  refine og_isub X2 hx (hb hby d16_24) ?_
  refine og_istore X2 hx #[rv t, iv lo, iv hi, iv n, iv (hi - lo)] (hb hby d16_25) rfl ?_
  refine og_aloadN X2 hx (hb hby d16_27) rfl rfl ?_
  refine own_callV X2 hx hZ hown (own_hw hw 55 rfl) (own_hw hw 56 rfl) (notFace_of_selects (args := #[]) (mvT hZ (own_hw hw 58 rfl))) (own_hw hw 58 rfl) (own_hw hw 57 rfl) (own_hw hw 59 rfl) (own_hw hw 11 rfl) (by decide) (b := t) (argsL := []) (rest := []) (own_isl1 l Z a0 hw z sf t h0 n0 hO hG Fc) e2 Et (by rw [hml]; rfl) (lenOf own_pd61835 rfl) rfl (hb hby d16_28) (W := 0) (Nat.le_of_eq rfl) (by decide) ?_
  intro v3 T3 L3 X3 q3
  obtain ⟨rfl, N3q, e3⟩ := q3
  have N3 := Fr.app N2 N3q
  show own_Go p e below _ T3 (mkF m 31 #[rv t, iv lo, iv hi, iv n, iv (hi - lo)] [(.int (1 : Int32))])
  refine og_ifN X3 hx (hb hby d16_31) (feq (by decide)).1 ?_
  refine og_aloadN X3 hx (hb hby d16_34) rfl rfl ?_
  refine og_getF X3 hx hZ hown (own_hw hw 28 rfl) Via.refl e3 Fv (hb hby d16_35) ?_
  intro T4 X4 e4
  refine og_iloadN X4 hx (hb hby d16_38) rfl ?_
  refine og_iload X4 hx (hb hby d16_39) rfl ?_
  refine own_callS X4 hx hZ hown (own_hw hw 103 rfl) (own_hw hw 104 rfl) (own_hw hw 62 rfl) (own_hw hw 105 rfl) (by decide) (argsL := [(.ref b), (.int lo), (.int (hi - lo))]) (rest := []) inn e4 (by rw [hml]; rfl) (lenOf own_pd78060 rfl) rfl (hb hby d16_41) (W := 0) (Nat.le_of_eq rfl) (by decide) ?_
  intro v5 T5 L5 X5 q5
  obtain ⟨t5, vb5, k5, rfl, N5q, K5q, zt5, gt5, zb5, gb5, ne_t5_vb5, Et5, Ft5, Ct5, At5⟩ := q5
  have N5 := Fr.app N3 N5q
  have ne_b_t5 : b ≠ t5 := Nat.ne_of_lt (Nat.lt_of_lt_of_le Ab.lt zt5)
  have ne_t_t5 : t ≠ t5 := Nat.ne_of_lt (Nat.lt_of_lt_of_le Et.lt zt5)
  have sz_t5 : h0.size ≤ t5 := Nat.le_trans (Keep.refl h0 []).1 zt5
  have ne_b_vb5 : b ≠ vb5 := Nat.ne_of_lt (Nat.lt_of_lt_of_le Ab.lt zb5)
  have ne_t_vb5 : t ≠ vb5 := Nat.ne_of_lt (Nat.lt_of_lt_of_le Et.lt zb5)
  have sz_vb5 : h0.size ≤ vb5 := Nat.le_trans (Keep.refl h0 []).1 zb5
  have E_t_5 := Et.keep K5q
  have F_t_value_5 := Fv.keep K5q nin0
  have F_t_coder_5 := Fc.keep K5q nin0
  have A_b_5 := Ab.keep K5q nin0
  have O5 := hO.keep K5q all0
  have K5 := (Keep.refl h0 []).trans K5q all0
  show own_Go p e below _ T5 (mkF m 44 #[rv t, iv lo, iv hi, iv n, iv (hi - lo)] [(.ref t5)])
  refine og_goto X5 hx 57 (hb hby d16_44) (by decide) (by decide) ?_
  exact own_retA X5 hx hret hlk (hb hby d16_57) rfl rfl (by decide) (by decide) (⟨t5, vb5, _, rfl, N5, K5, sz_t5, gt5, sz_vb5, gb5, ne_t5_vb5, Et5, Ft5, Ct5, At5⟩)
def own_r_own_sub1N3 : Room := { frames := 5, cells := 2, slots := 7, locals := 80 }
theorem own_sub1N3 (l : Launch) (Z : State) (a0 : Array Value) (hw : own_W a0 Z) (z : Int32) (sf : Value) (t b : Addr) (kb : ClassId) (dv : Value) (n : Int32) (vs : List Value) (lo : Int32) (w0 w1 w2 : Value) (h0 : Heap) (n0 : Nat) (hO : Old Z n0 h0) (hG : own_Gs Z z sf) (h1 : ¬ lo < 0) (h2 : ¬ n < lo) (hx0 : ¬ lo = 0) (inn : own_Met l Z (⟨"java/lang/StringLatin1", "newString", "([BII)Ljava/lang/String;"⟩ : MethodName) jdk_43_method_47_code 3 (some (.object "java/lang/String")) own_r_own_ns_1_3_4 #[.ref b, .int lo, .int (n - lo)] h0 (own_Qs3 Z h0 n0 w0 w1 w2)) (Et : own_E Z h0 t) (Fv : own_V Z h0 t b) (Fc : own_C Z h0 t) (Ab : Arv Z h0 b kb .byte n vs dv) :
    own_Met l Z (⟨"java/lang/String", "substring", "(I)Ljava/lang/String;"⟩ : MethodName) jdk_42_method_91_code 2 (some (.object "java/lang/String")) own_r_own_sub1N3 #[(.ref t), (.int lo)] h0 (own_Qs3 Z h0 n0 w0 w1 w2) := by
  refine own_body (by decide +kernel) ?_
  intro p e s m below meth c T0 X0 hx hZ hby hml hown hnm hret hlk e0
  have N0 := Fr.nil n0
  refine own_cast (own_frame (L := [rv t, iv lo]) (ls := #[rv t, iv lo]) rfl rfl) ?_
  obtain ⟨SC, hz, SF, rf⟩ := id hG
  refine og_aloadN X0 hx (hb hby d15_0) rfl rfl ?_
  refine og_iloadN X0 hx (hb hby d15_1) rfl ?_
  refine og_aloadN X0 hx (hb hby d15_2) rfl rfl ?_
  refine own_callV X0 hx hZ hown (own_hw hw 39 rfl) (own_hw hw 40 rfl) (notFace_of_selects (args := #[]) (mvT hZ (own_hw hw 42 rfl))) (own_hw hw 42 rfl) (own_hw hw 41 rfl) (own_hw hw 43 rfl) (own_hw hw 11 rfl) (by decide) (b := t) (argsL := []) (rest := [(.int lo), (.ref t)]) (own_slen l Z a0 hw z sf t b _ _ n _ h0 n0 hO hG Et Fv Fc Ab) e0 Et (by rw [hml]; rfl) (lenOf own_pd13941 rfl) rfl (hb hby d15_3) (W := 2) (Nat.le_of_eq rfl) (by decide) ?_
  intro v1 T1 L1 X1 q1
  obtain ⟨rfl, N1q, e1⟩ := q1
  have N1 := Fr.app N0 N1q
  show own_Go p e below _ T1 (mkF m 6 #[rv t, iv lo] [(.int n), (.int lo), (.ref t)])
  refine own_callV X1 hx hZ hown (own_hw hw 76 rfl) (own_hw hw 77 rfl) (notFace_of_selects (args := #[]) (mvT hZ (own_hw hw 79 rfl))) (own_hw hw 79 rfl) (own_hw hw 78 rfl) (own_hw hw 80 rfl) (own_hw hw 11 rfl) (by decide) (b := t) (argsL := [(.int lo), (.int n)]) (rest := []) (own_subN3 l Z a0 hw z sf t b _ _ n _ lo n w0 w1 w2 h0 n0 hO hG h1 h2 Int32.lt_irrefl hx0 inn Et Fv Fc Ab) e1 Et (by rw [hml]; rfl) (lenOf own_pd41291 rfl) rfl (hb hby d15_6) (W := 0) (Nat.le_of_eq rfl) (by decide) ?_
  intro v2 T2 L2 X2 q2
  obtain ⟨t2, vb2, k2, rfl, N2q, K2q, zt2, gt2, zb2, gb2, ne_t2_vb2, Et2, Ft2, Ct2, At2⟩ := q2
  have N2 := Fr.app N1 N2q
  have ne_b_t2 : b ≠ t2 := Nat.ne_of_lt (Nat.lt_of_lt_of_le Ab.lt zt2)
  have ne_t_t2 : t ≠ t2 := Nat.ne_of_lt (Nat.lt_of_lt_of_le Et.lt zt2)
  have sz_t2 : h0.size ≤ t2 := Nat.le_trans (Keep.refl h0 []).1 zt2
  have ne_b_vb2 : b ≠ vb2 := Nat.ne_of_lt (Nat.lt_of_lt_of_le Ab.lt zb2)
  have ne_t_vb2 : t ≠ vb2 := Nat.ne_of_lt (Nat.lt_of_lt_of_le Et.lt zb2)
  have sz_vb2 : h0.size ≤ vb2 := Nat.le_trans (Keep.refl h0 []).1 zb2
  have E_t_2 := Et.keep K2q
  have F_t_value_2 := Fv.keep K2q nin0
  have F_t_coder_2 := Fc.keep K2q nin0
  have A_b_2 := Ab.keep K2q nin0
  have O2 := hO.keep K2q all0
  have K2 := (Keep.refl h0 []).trans K2q all0
  show own_Go p e below _ T2 (mkF m 9 #[rv t, iv lo] [(.ref t2)])
  exact own_retA X2 hx hret hlk (hb hby d15_9) rfl rfl (by decide) (by decide) (⟨t2, vb2, _, rfl, N2, K2, sz_t2, gt2, sz_vb2, gb2, ne_t2_vb2, Et2, Ft2, Ct2, At2⟩)
theorem own_lia_4_0 (l : Launch) (Z : State) (a0 : Array Value) (hw : own_W a0 Z) (b : Addr) (kb : ClassId) (dv : Value) (c0 c1 c2 c3 : Int32) (h0 : Heap) (n0 : Nat) (hc1 : ¬ c1 < 0 ∧ ¬ (255 : Int32) < c1) (m1 : ¬ c1 = 47) (hc2 : ¬ c2 < 0 ∧ ¬ (255 : Int32) < c2) (m2 : ¬ c2 = 47) (hc3 : ¬ c3 < 0 ∧ ¬ (255 : Int32) < c3) (m3 : ¬ c3 = 47) (hsl : c0 = 47) (Ab : Arv Z h0 b kb .byte 4 [(.int c0.toInt8.toInt32), (.int c1.toInt8.toInt32), (.int c2.toInt8.toInt32), (.int c3.toInt8.toInt32)] dv) :
    own_Met l Z (⟨"java/lang/StringLatin1", "lastIndexOf", "([BII)I"⟩ : MethodName) jdk_43_method_27_code 4 (some .int) own_r_lia #[(.ref b), (.int 47), (.int 3)] h0 (own_Qv (some (.int (0))) h0 n0) := by
  refine own_body (by decide +kernel) ?_
  intro p e s m below meth c T0 X0 hx hZ hby hml hown hnm hret hlk e0
  have N0 := Fr.nil n0
  refine own_cast (own_frame (L := [rv b, iv 47, iv 3]) (ls := #[rv b, iv 47, iv 3, .unset]) rfl rfl) ?_
  refine og_iloadN X0 hx (hb hby d12_0) rfl ?_
  refine own_callS X0 hx hZ hown (own_hw hw 64 rfl) (own_hw hw 65 rfl) (own_hw hw 62 rfl) (own_hw hw 66 rfl) (by decide) (argsL := [(.int 47)]) (rest := []) (own_ce47 l Z a0 hw h0 n0) e0 (by rw [hml]; rfl) (lenOf own_pd97859 rfl) rfl (hb hby d12_1) (W := 0) (Nat.le_of_eq rfl) (by decide) ?_
  intro v1 T1 L1 X1 q1
  obtain ⟨rfl, N1q, e1⟩ := q1
  have N1 := Fr.app N0 N1q
  show own_Go p e below _ T1 (mkF m 4 #[rv b, iv 47, iv 3, .unset] [(.int 1)])
  refine og_ifY X1 hx 9 (hb hby d12_4) (feq (by decide)).2 (by decide) (by decide) ?_
  refine og_iloadN X1 hx (hb hby d12_9) rfl ?_
  refine og_aloadN X1 hx (hb hby d12_10) rfl rfl ?_
  refine own_len X1 hx hZ e1 Ab (hb hby d12_11) ?_
  show own_Go p e below _ T1 (mkF m 12 #[rv b, iv 47, iv 3, .unset] [(.int 4), (.int 3)])
  refine og_iconst X1 hx (hb hby d12_12) ?_
  refine og_isub X1 hx (hb hby d12_13) ?_
  show own_Go p e below _ T1 (mkF m 14 #[rv b, iv 47, iv 3, .unset] [(.int 3), (.int 3)])
  refine own_callS X1 hx hZ hown (own_hw hw 67 rfl) (own_hw hw 68 rfl) (own_hw hw 69 rfl) (own_hw hw 70 rfl) (by decide) (argsL := [(.int 3), (.int 3)]) (rest := []) (own_min_3_3 l Z a0 hw h0 n0) e1 (by rw [hml]; rfl) (lenOf own_pd23903 rfl) rfl (hb hby d12_14) (W := 0) (Nat.le_of_eq rfl) (by decide) ?_
  intro v2 T2 L2 X2 q2
  obtain ⟨rfl, N2q, e2⟩ := q2
  have N2 := Fr.app N1 N2q
  show own_Go p e below _ T2 (mkF m 17 #[rv b, iv 47, iv 3, .unset] [(.int 3)])
  refine og_istoreN X2 hx #[rv b, iv 47, iv 3, iv 3] (hb hby d12_17) rfl ?_
  refine og_iloadN X2 hx (hb hby d12_18) rfl ?_
  refine og_ifN X2 hx (hb hby d12_19) (flt (by decide)).1 ?_
  refine og_aloadN X2 hx (hb hby d12_22) rfl rfl ?_
  refine og_iloadN X2 hx (hb hby d12_23) rfl ?_
  refine own_ldB X2 hx hZ e2 Ab ⟨by decide, by decide⟩ rfl (hb hby d12_24) ?_
  show own_Go p e below _ T2 (mkF m 25 #[rv b, iv 47, iv 3, iv 3] [(.int c3.toInt8.toInt32)])
  refine og_iloadN X2 hx (hb hby d12_25) rfl ?_
  refine own_go (fun t k => XS.i2b X2.here hx rfl (hb hby d12_26) rfl k) ?_
  show own_Go p e below _ T2 (mkF m 27 #[rv b, iv 47, iv 3, iv 3] [(.int 47), (.int c3.toInt8.toInt32)])
  refine og_icY X2 hx 32 (hb hby d12_27) (feq (fun q => m3 (own_b47 _ hc3 q))).2 (by decide) (by decide) ?_
  refine own_go (fun t k => XS.iinc X2.here hx rfl (hb hby d12_32) rfl (l' := #[rv b, iv 47, iv 3, iv 2]) rfl k) ?_
  show own_Go p e below _ T2 (mkF m 35 #[rv b, iv 47, iv 3, iv 2] [])
  refine og_goto X2 hx 18 (hb hby d12_35) (by decide) (by decide) ?_
  refine og_iloadN X2 hx (hb hby d12_18) rfl ?_
  refine og_ifN X2 hx (hb hby d12_19) (flt (by decide)).1 ?_
  refine og_aloadN X2 hx (hb hby d12_22) rfl rfl ?_
  refine og_iloadN X2 hx (hb hby d12_23) rfl ?_
  refine own_ldB X2 hx hZ e2 Ab ⟨by decide, by decide⟩ rfl (hb hby d12_24) ?_
  show own_Go p e below _ T2 (mkF m 25 #[rv b, iv 47, iv 3, iv 2] [(.int c2.toInt8.toInt32)])
  refine og_iloadN X2 hx (hb hby d12_25) rfl ?_
  refine own_go (fun t k => XS.i2b X2.here hx rfl (hb hby d12_26) rfl k) ?_
  show own_Go p e below _ T2 (mkF m 27 #[rv b, iv 47, iv 3, iv 2] [(.int 47), (.int c2.toInt8.toInt32)])
  refine og_icY X2 hx 32 (hb hby d12_27) (feq (fun q => m2 (own_b47 _ hc2 q))).2 (by decide) (by decide) ?_
  refine own_go (fun t k => XS.iinc X2.here hx rfl (hb hby d12_32) rfl (l' := #[rv b, iv 47, iv 3, iv 1]) rfl k) ?_
  show own_Go p e below _ T2 (mkF m 35 #[rv b, iv 47, iv 3, iv 1] [])
  refine og_goto X2 hx 18 (hb hby d12_35) (by decide) (by decide) ?_
  refine og_iloadN X2 hx (hb hby d12_18) rfl ?_
  refine og_ifN X2 hx (hb hby d12_19) (flt (by decide)).1 ?_
  refine og_aloadN X2 hx (hb hby d12_22) rfl rfl ?_
  refine og_iloadN X2 hx (hb hby d12_23) rfl ?_
  refine own_ldB X2 hx hZ e2 Ab ⟨by decide, by decide⟩ rfl (hb hby d12_24) ?_
  show own_Go p e below _ T2 (mkF m 25 #[rv b, iv 47, iv 3, iv 1] [(.int c1.toInt8.toInt32)])
  refine og_iloadN X2 hx (hb hby d12_25) rfl ?_
  refine own_go (fun t k => XS.i2b X2.here hx rfl (hb hby d12_26) rfl k) ?_
  show own_Go p e below _ T2 (mkF m 27 #[rv b, iv 47, iv 3, iv 1] [(.int 47), (.int c1.toInt8.toInt32)])
  refine og_icY X2 hx 32 (hb hby d12_27) (feq (fun q => m1 (own_b47 _ hc1 q))).2 (by decide) (by decide) ?_
  refine own_go (fun t k => XS.iinc X2.here hx rfl (hb hby d12_32) rfl (l' := #[rv b, iv 47, iv 3, iv 0]) rfl k) ?_
  show own_Go p e below _ T2 (mkF m 35 #[rv b, iv 47, iv 3, iv 0] [])
  refine og_goto X2 hx 18 (hb hby d12_35) (by decide) (by decide) ?_
  refine og_iloadN X2 hx (hb hby d12_18) rfl ?_
  refine og_ifN X2 hx (hb hby d12_19) (flt (by decide)).1 ?_
  refine og_aloadN X2 hx (hb hby d12_22) rfl rfl ?_
  refine og_iloadN X2 hx (hb hby d12_23) rfl ?_
  refine own_ldB X2 hx hZ e2 Ab ⟨by decide, by decide⟩ rfl (hb hby d12_24) ?_
  show own_Go p e below _ T2 (mkF m 25 #[rv b, iv 47, iv 3, iv 0] [(.int c0.toInt8.toInt32)])
  refine og_iloadN X2 hx (hb hby d12_25) rfl ?_
  refine own_go (fun t k => XS.i2b X2.here hx rfl (hb hby d12_26) rfl k) ?_
  show own_Go p e below _ T2 (mkF m 27 #[rv b, iv 47, iv 3, iv 0] [(.int 47), (.int c0.toInt8.toInt32)])
  refine og_icN X2 hx (hb hby d12_27) (teq (by rw [hsl]; rfl)).2 ?_
  refine og_iloadN X2 hx (hb hby d12_30) rfl ?_
  exact own_retI X2 hx hret hlk (hb hby d12_31) rfl (by simp) (by decide) (by decide) (⟨rfl, N2, e2⟩)
def own_r_own_po_4_0 : Room := { frames := 6, cells := 2, slots := 7, locals := 93 }
theorem own_po_4_0 (l : Launch) (Z : State) (a0 : Array Value) (hw : own_W a0 Z) (z : Int32) (sf : Value) (t b : Addr) (kb : ClassId) (dv : Value) (c0 c1 c2 c3 : Int32) (h0 : Heap) (n0 : Nat) (hO : Old Z n0 h0) (hG : own_Gs Z z sf) (hc1 : ¬ c1 < 0 ∧ ¬ (255 : Int32) < c1) (m1 : ¬ c1 = 47) (hc2 : ¬ c2 < 0 ∧ ¬ (255 : Int32) < c2) (m2 : ¬ c2 = 47) (hc3 : ¬ c3 < 0 ∧ ¬ (255 : Int32) < c3) (m3 : ¬ c3 = 47) (hsl : c0 = 47) (Et : own_E Z h0 t) (Fv : own_V Z h0 t b) (Fc : own_C Z h0 t) (Ab : Arv Z h0 b kb .byte 4 [(.int c0.toInt8.toInt32), (.int c1.toInt8.toInt32), (.int c2.toInt8.toInt32), (.int c3.toInt8.toInt32)] dv) :
    own_Met l Z (⟨"com/example/svazek/svazek/PackageFolder", "nameOf", "(Ljava/lang/String;)Ljava/lang/String;"⟩ : MethodName) prog_41_method_8_code 1 (some (.object "java/lang/String")) own_r_own_po_4_0 #[(.ref t)] h0 (own_Qs3 Z h0 n0 (.int c1.toInt8.toInt32) (.int c2.toInt8.toInt32) (.int c3.toInt8.toInt32)) := by
  refine own_body (by decide +kernel) ?_
  intro p e s m below meth c T0 X0 hx hZ hby hml hown hnm hret hlk e0
  have N0 := Fr.nil n0
  refine own_cast (own_frame (L := [rv t]) (ls := #[rv t]) rfl rfl) ?_
  obtain ⟨SC, hz, SF, rf⟩ := id hG
  refine og_aloadN X0 hx (hb hby d6_0) rfl rfl ?_
  refine og_aloadN X0 hx (hb hby d6_1) rfl rfl ?_
  refine og_bipush X0 hx (hb hby d6_2) ?_
  refine own_callV X0 hx hZ hown (own_hw hw 34 rfl) (own_hw hw 35 rfl) (notFace_of_selects (args := #[]) (mvT hZ (own_hw hw 37 rfl))) (own_hw hw 37 rfl) (own_hw hw 36 rfl) (own_hw hw 38 rfl) (own_hw hw 11 rfl) (by decide) (b := t) (argsL := [(.int 47)]) (rest := [(.ref t)]) (own_lic_4 l Z a0 hw z sf t b _ _ c0 c1 c2 c3 (0) h0 n0 hO hG (own_lia_4_0 l Z a0 hw b _ _ c0 c1 c2 c3 h0 n0 hc1 m1 hc2 m2 hc3 m3 hsl Ab) Et Fv Fc Ab) e0 Et (by rw [hml]; rfl) (lenOf own_pd49053 rfl) rfl (hb hby d6_4) (W := 1) (Nat.le_of_eq rfl) (by decide) ?_
  intro v1 T1 L1 X1 q1
  obtain ⟨rfl, N1q, e1⟩ := q1
  have N1 := Fr.app N0 N1q
  show own_Go p e below _ T1 (mkF m 7 #[rv t] [(.int 0), (.ref t)])
  refine og_iconst X1 hx (hb hby d6_7) ?_
  refine og_iadd X1 hx (hb hby d6_8) ?_
  show own_Go p e below _ T1 (mkF m 9 #[rv t] [(.int 1), (.ref t)])
  refine own_callV X1 hx hZ hown (own_hw hw 71 rfl) (own_hw hw 72 rfl) (notFace_of_selects (args := #[]) (mvT hZ (own_hw hw 74 rfl))) (own_hw hw 74 rfl) (own_hw hw 73 rfl) (own_hw hw 75 rfl) (own_hw hw 11 rfl) (by decide) (b := t) (argsL := [(.int 1)]) (rest := []) (own_sub1N3 l Z a0 hw z sf t b _ _ 4 _ 1 (.int c1.toInt8.toInt32) (.int c2.toInt8.toInt32) (.int c3.toInt8.toInt32) h0 n0 hO hG (by decide) (by decide) (by decide) (own_ns_1_3_4 l Z a0 hw b _ _ (.int c0.toInt8.toInt32) (.int c1.toInt8.toInt32) (.int c2.toInt8.toInt32) (.int c3.toInt8.toInt32) h0 n0 hO Ab) Et Fv Fc Ab) e1 Et (by rw [hml]; rfl) (lenOf own_pd44404 rfl) rfl (hb hby d6_9) (W := 0) (Nat.le_of_eq rfl) (by decide) ?_
  intro v2 T2 L2 X2 q2
  obtain ⟨t2, vb2, k2, rfl, N2q, K2q, zt2, gt2, zb2, gb2, ne_t2_vb2, Et2, Ft2, Ct2, At2⟩ := q2
  have N2 := Fr.app N1 N2q
  have ne_b_t2 : b ≠ t2 := Nat.ne_of_lt (Nat.lt_of_lt_of_le Ab.lt zt2)
  have ne_t_t2 : t ≠ t2 := Nat.ne_of_lt (Nat.lt_of_lt_of_le Et.lt zt2)
  have sz_t2 : h0.size ≤ t2 := Nat.le_trans (Keep.refl h0 []).1 zt2
  have ne_b_vb2 : b ≠ vb2 := Nat.ne_of_lt (Nat.lt_of_lt_of_le Ab.lt zb2)
  have ne_t_vb2 : t ≠ vb2 := Nat.ne_of_lt (Nat.lt_of_lt_of_le Et.lt zb2)
  have sz_vb2 : h0.size ≤ vb2 := Nat.le_trans (Keep.refl h0 []).1 zb2
  have E_t_2 := Et.keep K2q
  have F_t_value_2 := Fv.keep K2q nin0
  have F_t_coder_2 := Fc.keep K2q nin0
  have A_b_2 := Ab.keep K2q nin0
  have O2 := hO.keep K2q all0
  have K2 := (Keep.refl h0 []).trans K2q all0
  show own_Go p e below _ T2 (mkF m 12 #[rv t] [(.ref t2)])
  exact own_retA X2 hx hret hlk (hb hby d6_12) rfl rfl (by decide) (by decide) (⟨t2, vb2, _, rfl, N2, K2, sz_t2, gt2, sz_vb2, gb2, ne_t2_vb2, Et2, Ft2, Ct2, At2⟩)
def own_r_own_ckl_2_4 : Room := { frames := 0, cells := 0, slots := 0, locals := 0 }
theorem own_ckl_2_4 (l : Launch) (Z : State) (a0 : Array Value) (hw : own_W a0 Z)  (h0 : Heap) (n0 : Nat)  :
    own_Met l Z (⟨"java/util/Arrays", "checkLength", "(II)V"⟩ : MethodName) jdk_65_method_131_code 2 none own_r_own_ckl_2_4 #[(.int 2), (.int 4)] h0 (own_Qv none h0 n0) := by
  refine own_body (by decide +kernel) ?_
  intro p e s m below meth c T0 X0 hx hZ hby hml hown hnm hret hlk e0
  have N0 := Fr.nil n0
  refine own_cast (own_frame (L := [iv 2, iv 4]) (ls := #[iv 2, iv 4]) rfl rfl) ?_
  refine og_iloadN X0 hx (hb hby d30_0) rfl ?_
  refine og_iloadN X0 hx (hb hby d30_1) rfl ?_
  refine og_icY X0 hx 37 (hb hby d30_2) (flt (by decide)).2.1 (by decide) (by decide) ?_
  exact own_retV X0 hx hret hlk (hb hby d30_37) (by decide) (by decide) (⟨rfl, N0, e0⟩)
def own_Qr_2_4_4 (Z : State) (h0 : Heap) (n0 : Nat) (v0 v1 v2 v3 : Value) (v : Option Value) (h : Heap) (L : List Loc) : Prop := ∃ (b : Addr) (k : ClassId), v = some (.ref b) ∧ Fr n0 L ∧ Keep h0 h [] ∧ h0.size ≤ b ∧ n0 ≤ b ∧ Arv Z h b k .byte 2 [v2, v3] (.int (0 : Int32))
def own_r_own_crb_2_4_4 : Room := { frames := 1, cells := 1, slots := 2, locals := 18 }
theorem own_crb_2_4_4 (l : Launch) (Z : State) (a0 : Array Value) (hw : own_W a0 Z) (b : Addr) (kb : ClassId) (dv : Value) (v0 v1 v2 v3 : Value) (h0 : Heap) (n0 : Nat) (hO : Old Z n0 h0) (Ab : Arv Z h0 b kb .byte 4 [v0, v1, v2, v3] dv) :
    own_Met l Z (⟨"java/util/Arrays", "copyOfRangeByte", "([BII)[B"⟩ : MethodName) jdk_65_method_133_code 5 (some (.array .byte)) own_r_own_crb_2_4_4 #[(.ref b), (.int 2), (.int 4)] h0 (own_Qr_2_4_4 Z h0 n0 v0 v1 v2 v3) := by
  refine own_body (by decide +kernel) ?_
  intro p e s m below meth c T0 X0 hx hZ hby hml hown hnm hret hlk e0
  have N0 := Fr.nil n0
  refine own_cast (own_frame (L := [rv b, iv 2, iv 4]) (ls := #[rv b, iv 2, iv 4, .unset, .unset]) rfl rfl) ?_
  refine og_iloadN X0 hx (hb hby d29_0) rfl ?_
  refine og_iloadN X0 hx (hb hby d29_1) rfl ?_
  refine own_callS X0 hx hZ hown (own_hw hw 129 rfl) (own_hw hw 130 rfl) (own_hw hw 124 rfl) (own_hw hw 131 rfl) (by decide) (argsL := [(.int 2), (.int 4)]) (rest := []) (own_ckl_2_4 l Z a0 hw h0 n0) e0 (by rw [hml]; rfl) (lenOf own_pd97226 rfl) rfl (hb hby d29_2) (W := 0) (Nat.le_of_eq rfl) (by decide) ?_
  intro v1 T1 L1 X1 q1
  obtain ⟨rfl, N1q, e1⟩ := q1
  have N1 := Fr.app N0 N1q
  show own_Go p e below _ T1 (mkF m 5 #[rv b, iv 2, iv 4, .unset, .unset] [])
  refine og_iloadN X1 hx (hb hby d29_5) rfl ?_
  refine og_iloadN X1 hx (hb hby d29_6) rfl ?_
  refine og_isub X1 hx (hb hby d29_7) ?_
  refine og_istoreN X1 hx #[rv b, iv 2, iv 4, iv 2, .unset] (hb hby d29_8) rfl ?_
  refine og_iloadN X1 hx (hb hby d29_9) rfl ?_
  refine own_newP X1 hx hZ (own_hw hw 23 rfl) e1 (hb hby d29_10) (by decide) 2 (by decide) (by decide) (by decide) (by decide) ?_
  intro T2 h2 k2 b2 g2 X2 e2 E2 A2
  have ne_b_b2 : b ≠ b2 := Nat.ne_of_lt (Nat.lt_of_lt_of_eq Ab.lt g2.symm)
  have ge_b2 : n0 ≤ b2 := Nat.le_trans (own_oldle hO) (Nat.le_of_eq g2.symm)
  have sz_b2 : h0.size ≤ b2 := Nat.le_trans (Keep.refl h0 []).1 (Nat.le_of_eq g2.symm)
  have A_b_2 := Ab.ext E2
  have O2 := hO.ext E2
  have K2 := (Keep.refl h0 []).ext E2
  have A_b2_2 : Arv Z h2 b2 k2 .byte 2 [(.int (0 : Int32)), (.int (0 : Int32))] (.int (0 : Int32)) := A2
  show own_Go p e below _ T2 (mkF m 12 #[rv b, iv 2, iv 4, iv 2, .unset] [(.ref b2)])
  refine og_astore X2 hx #[rv b, iv 2, iv 4, iv 2, rv b2] (hb hby d29_12) rfl rfl ?_
  refine og_aloadN X2 hx (hb hby d29_14) rfl rfl ?_
  refine og_iloadN X2 hx (hb hby d29_15) rfl ?_
  refine og_aload X2 hx (hb hby d29_16) rfl rfl ?_
  refine og_iconst X2 hx (hb hby d29_18) ?_
  refine og_aloadN X2 hx (hb hby d29_19) rfl rfl ?_
  refine own_len X2 hx hZ e2 A_b_2 (hb hby d29_20) ?_
  show own_Go p e below _ T2 (mkF m 21 #[rv b, iv 2, iv 4, iv 2, rv b2] [(.int 4), (.int 0), (.ref b2), (.int 2), (.ref b)])
  refine og_iloadN X2 hx (hb hby d29_21) rfl ?_
  refine og_isub X2 hx (hb hby d29_22) ?_
  refine og_iloadN X2 hx (hb hby d29_23) rfl ?_
  refine own_callS X2 hx hZ hown (own_hw hw 132 rfl) (own_hw hw 68 rfl) (own_hw hw 69 rfl) (own_hw hw 70 rfl) (by decide) (argsL := [(.int 2), (.int 2)]) (rest := [(.int 0), (.ref b2), (.int 2), (.ref b)]) (own_min_2_2 l Z a0 hw h2 n0) e2 (by rw [hml]; rfl) (lenOf own_pd23903 rfl) rfl (hb hby d29_24) (W := 4) (Nat.le_of_eq rfl) (by decide) ?_
  intro v3 T3 L3 X3 q3
  obtain ⟨rfl, N3q, e3⟩ := q3
  have N3 := Fr.app N1 N3q
  show own_Go p e below _ T3 (mkF m 27 #[rv b, iv 2, iv 4, iv 2, rv b2] [(.int 2), (.int 0), (.ref b2), (.int 2), (.ref b)])
  obtain ⟨T4, h4, L4, X4, e4, N4, K4q, A4, st4⟩ := cpA X3 hx hZ hown (own_hw hw 133 rfl) (own_hw hw 136 rfl) (own_hw hw 134 rfl) (own_hw hw 135 rfl) e3 A_b_2 A_b2_2 (us := [v2, v3]) (Or.inl ⟨rfl, rfl⟩) (by decide) (by decide) (by decide) (by decide) (by decide) rfl (by decide) N3 ge_b2 (g := (mkF m 27 #[rv b, iv 2, iv 4, iv 2, rv b2] [(.int 2), (.int 0), (.ref b2), (.int 2), (.ref b)])) rfl (by rw [hml]; rfl) rfl (hb hby d29_27) (by decide) (W := 0) (by show 2 * 0 + _ ≤ _; exact Nat.le_of_eq rfl) (by decide)
  refine own_go st4 ?_
  have A_b_4 := A_b_2.keep K4q (ninS ne_b_b2 nin0)
  have O4 := O2.keep K4q (allS ge_b2 all0)
  have K4 := K2.trans K4q (allS (Or.inr sz_b2) all0)
  have A_b2_4 : Arv Z h4 b2 k2 .byte 2 [v2, v3] (.int (0 : Int32)) := A4
  show own_Go p e below _ T4 (mkF m 30 #[rv b, iv 2, iv 4, iv 2, rv b2] [])
  refine og_aload X4 hx (hb hby d29_30) rfl rfl ?_
  exact own_retA X4 hx hret hlk (hb hby d29_32) rfl rfl (by decide) (by decide) (by rw [e4]; exact ⟨b2, _, rfl, N4, K4, sz_b2, ge_b2, A_b2_4⟩)
def own_r_own_cr_2_4_4 : Room := { frames := 2, cells := 1, slots := 2, locals := 34 }
theorem own_cr_2_4_4 (l : Launch) (Z : State) (a0 : Array Value) (hw : own_W a0 Z) (b : Addr) (kb : ClassId) (dv : Value) (v0 v1 v2 v3 : Value) (h0 : Heap) (n0 : Nat) (hO : Old Z n0 h0) (Ab : Arv Z h0 b kb .byte 4 [v0, v1, v2, v3] dv) :
    own_Met l Z (⟨"java/util/Arrays", "copyOfRange", "([BII)[B"⟩ : MethodName) jdk_65_method_132_code 3 (some (.array .byte)) own_r_own_cr_2_4_4 #[(.ref b), (.int 2), (.int 4)] h0 (own_Qr_2_4_4 Z h0 n0 v0 v1 v2 v3) := by
  refine own_body (by decide +kernel) ?_
  intro p e s m below meth c T0 X0 hx hZ hby hml hown hnm hret hlk e0
  have N0 := Fr.nil n0
  refine own_cast (own_frame (L := [rv b, iv 2, iv 4]) (ls := #[rv b, iv 2, iv 4]) rfl rfl) ?_
  refine og_iloadN X0 hx (hb hby d28_0) rfl ?_
  refine og_ifY X0 hx 10 (hb hby d28_1) (feq (by decide)).2 (by decide) (by decide) ?_
  refine og_aloadN X0 hx (hb hby d28_10) rfl rfl ?_
  refine og_iloadN X0 hx (hb hby d28_11) rfl ?_
  refine og_iloadN X0 hx (hb hby d28_12) rfl ?_
  refine own_callS X0 hx hZ hown (own_hw hw 126 rfl) (own_hw hw 127 rfl) (own_hw hw 124 rfl) (own_hw hw 128 rfl) (by decide) (argsL := [(.ref b), (.int 2), (.int 4)]) (rest := []) (own_crb_2_4_4 l Z a0 hw b _ _ v0 v1 v2 v3 h0 n0 hO Ab) e0 (by rw [hml]; rfl) (lenOf own_pd77155 rfl) rfl (hb hby d28_13) (W := 0) (Nat.le_of_eq rfl) (by decide) ?_
  intro v1 T1 L1 X1 q1
  obtain ⟨b1, k1, rfl, N1q, K1q, z1q, g1q, A1q⟩ := q1
  have N1 := Fr.app N0 N1q
  have ne_b_b1 : b ≠ b1 := Nat.ne_of_lt (Nat.lt_of_lt_of_le Ab.lt z1q)
  have sz_b1 : h0.size ≤ b1 := Nat.le_trans (Keep.refl h0 []).1 z1q
  have A_b_1 := Ab.keep K1q nin0
  have O1 := hO.keep K1q all0
  have K1 := (Keep.refl h0 []).trans K1q all0
  show own_Go p e below _ T1 (mkF m 16 #[rv b, iv 2, iv 4] [(.ref b1)])
  exact own_retA X1 hx hret hlk (hb hby d28_16) rfl rfl (by decide) (by decide) (⟨b1, _, rfl, N1, K1, sz_b1, g1q, A1q⟩)
def own_r_own_ns_2_2_4 : Room := { frames := 3, cells := 2, slots := 6, locals := 50 }
theorem own_ns_2_2_4 (l : Launch) (Z : State) (a0 : Array Value) (hw : own_W a0 Z) (b : Addr) (kb : ClassId) (dv : Value) (v0 v1 v2 v3 : Value) (h0 : Heap) (n0 : Nat) (hO : Old Z n0 h0) (Ab : Arv Z h0 b kb .byte 4 [v0, v1, v2, v3] dv) :
    own_Met l Z (⟨"java/lang/StringLatin1", "newString", "([BII)Ljava/lang/String;"⟩ : MethodName) jdk_43_method_47_code 3 (some (.object "java/lang/String")) own_r_own_ns_2_2_4 #[(.ref b), (.int 2), (.int 2)] h0 (own_Qs2 Z h0 n0 v2 v3) := by
  refine own_body (by decide +kernel) ?_
  intro p e s m below meth c T0 X0 hx hZ hby hml hown hnm hret hlk e0
  have N0 := Fr.nil n0
  refine own_cast (own_frame (L := [rv b, iv 2, iv 2]) (ls := #[rv b, iv 2, iv 2]) rfl rfl) ?_
  refine og_iloadN X0 hx (hb hby d23_0) rfl ?_
  refine og_ifY X0 hx 7 (hb hby d23_1) (feq (by decide)).2 (by decide) (by decide) ?_
  refine own_newO X0 hx hZ hown (own_hw hw 121 rfl) (own_hw hw 10 rfl) (own_hw hw 11 rfl) e0 (hb hby d23_7) (by decide) (by decide) ?_
  intro T1 h1 b1 g1 X1 e1 E1 A1 D1
  have ne_b_b1 : b ≠ b1 := Nat.ne_of_lt (Nat.lt_of_lt_of_eq Ab.lt g1.symm)
  have ge_b1 : n0 ≤ b1 := Nat.le_trans (own_oldle hO) (Nat.le_of_eq g1.symm)
  have sz_b1 : h0.size ≤ b1 := Nat.le_trans (Keep.refl h0 []).1 (Nat.le_of_eq g1.symm)
  have A_b_1 := Ab.ext E1
  have O1 := hO.ext E1
  have K1 := (Keep.refl h0 []).ext E1
  have F_b1_value_1 : Fld Z h1 b1 "java/lang/String" "value" "[B" .null := D1 (Or.inr (own_hw hw 24 rfl)) (ty := (.array .byte)) (by decide)
  have F_b1_coder_1 : Fld Z h1 b1 "java/lang/String" "coder" "B" (.int 0) := D1 (Or.inr (own_hw hw 25 rfl)) (ty := .byte) (by decide)
  show own_Go p e below _ T1 (mkF m 10 #[rv b, iv 2, iv 2] [(.ref b1)])
  refine og_dup X1 hx (hb hby d23_10) rfl ?_
  refine og_aloadN X1 hx (hb hby d23_11) rfl rfl ?_
  refine og_iloadN X1 hx (hb hby d23_12) rfl ?_
  refine og_iloadN X1 hx (hb hby d23_13) rfl ?_
  refine og_iloadN X1 hx (hb hby d23_14) rfl ?_
  refine og_iadd X1 hx (hb hby d23_15) ?_
  show own_Go p e below _ T1 (mkF m 16 #[rv b, iv 2, iv 2] [(.int 4), (.int 2), (.ref b), (.ref b1), (.ref b1)])
  refine own_callS X1 hx hZ hown (own_hw hw 122 rfl) (own_hw hw 123 rfl) (own_hw hw 124 rfl) (own_hw hw 125 rfl) (by decide) (argsL := [(.ref b), (.int 2), (.int 4)]) (rest := [(.ref b1), (.ref b1)]) (own_cr_2_4_4 l Z a0 hw b _ _ v0 v1 v2 v3 h1 n0 O1 A_b_1) e1 (by rw [hml]; rfl) (lenOf own_pd77155 rfl) rfl (hb hby d23_16) (W := 2) (Nat.le_of_eq rfl) (by decide) ?_
  intro v2 T2 L2 X2 q2
  obtain ⟨b2, k2, rfl, N2q, K2q, z2q, g2q, A2q⟩ := q2
  have N2 := Fr.app N0 N2q
  have ne_b_b2 : b ≠ b2 := Nat.ne_of_lt (Nat.lt_of_lt_of_le A_b_1.lt z2q)
  have ne_b1_b2 : b1 ≠ b2 := Nat.ne_of_lt (Nat.lt_of_lt_of_le A1.lt z2q)
  have sz_b2 : h0.size ≤ b2 := Nat.le_trans K1.1 z2q
  have A_b_2 := A_b_1.keep K2q nin0
  have E_b1_2 := A1.keep K2q
  have F_b1_value_2 := F_b1_value_1.keep K2q nin0
  have F_b1_coder_2 := F_b1_coder_1.keep K2q nin0
  have O2 := O1.keep K2q all0
  have K2 := K1.trans K2q all0
  show own_Go p e below _ T2 (mkF m 19 #[rv b, iv 2, iv 2] [(.ref b2), (.ref b1), (.ref b1)])
  refine og_iconst X2 hx (hb hby d23_19) ?_
  refine own_callN X2 hx hZ hown (own_hw hw 137 rfl) (own_hw hw 138 rfl) (own_hw hw 139 rfl) (own_hw hw 11 rfl) (by decide) rfl (b := b1) (argsL := [(.ref b2), (.int 0)]) (rest := [(.ref b1)]) (own_si l Z a0 hw b1 b2 _ _ T2.heap n0 O2 ge_b1 E_b1_2 F_b1_value_2 F_b1_coder_2) rfl (by rw [hml]; rfl) (lenOf own_pd58512 rfl) rfl (hb hby d23_20) (W := 1) (Nat.le_of_eq rfl) (by decide) ?_
  intro v3 T3 L3 X3 q3
  obtain ⟨rfl, N3q, K3q, Fv3, Fc3⟩ := q3
  have N3 := Fr.app N2 N3q
  have A_b_3 := A_b_2.keep K3q (ninS ne_b_b1 nin0)
  have E_b1_3 := E_b1_2.keep K3q
  have A_b2_3 := A2q.keep K3q (ninS (Ne.symm ne_b1_b2) nin0)
  have O3 := O2.keep K3q (allS ge_b1 all0)
  have K3 := K2.trans K3q (allS (Or.inr sz_b1) all0)
  show own_Go p e below _ T3 (mkF m 23 #[rv b, iv 2, iv 2] [(.ref b1)])
  exact own_retA X3 hx hret hlk (hb hby d23_23) rfl rfl (by decide) (by decide) (⟨b1, b2, _, rfl, N3, K3, sz_b1, ge_b1, sz_b2, g2q, ne_b1_b2, E_b1_3, Fv3, Fc3, A_b2_3⟩)
theorem own_lia_4_1 (l : Launch) (Z : State) (a0 : Array Value) (hw : own_W a0 Z) (b : Addr) (kb : ClassId) (dv : Value) (c0 c1 c2 c3 : Int32) (h0 : Heap) (n0 : Nat) (hc2 : ¬ c2 < 0 ∧ ¬ (255 : Int32) < c2) (m2 : ¬ c2 = 47) (hc3 : ¬ c3 < 0 ∧ ¬ (255 : Int32) < c3) (m3 : ¬ c3 = 47) (hsl : c1 = 47) (Ab : Arv Z h0 b kb .byte 4 [(.int c0.toInt8.toInt32), (.int c1.toInt8.toInt32), (.int c2.toInt8.toInt32), (.int c3.toInt8.toInt32)] dv) :
    own_Met l Z (⟨"java/lang/StringLatin1", "lastIndexOf", "([BII)I"⟩ : MethodName) jdk_43_method_27_code 4 (some .int) own_r_lia #[(.ref b), (.int 47), (.int 3)] h0 (own_Qv (some (.int (1))) h0 n0) := by
  refine own_body (by decide +kernel) ?_
  intro p e s m below meth c T0 X0 hx hZ hby hml hown hnm hret hlk e0
  have N0 := Fr.nil n0
  refine own_cast (own_frame (L := [rv b, iv 47, iv 3]) (ls := #[rv b, iv 47, iv 3, .unset]) rfl rfl) ?_
  refine og_iloadN X0 hx (hb hby d12_0) rfl ?_
  refine own_callS X0 hx hZ hown (own_hw hw 64 rfl) (own_hw hw 65 rfl) (own_hw hw 62 rfl) (own_hw hw 66 rfl) (by decide) (argsL := [(.int 47)]) (rest := []) (own_ce47 l Z a0 hw h0 n0) e0 (by rw [hml]; rfl) (lenOf own_pd97859 rfl) rfl (hb hby d12_1) (W := 0) (Nat.le_of_eq rfl) (by decide) ?_
  intro v1 T1 L1 X1 q1
  obtain ⟨rfl, N1q, e1⟩ := q1
  have N1 := Fr.app N0 N1q
  show own_Go p e below _ T1 (mkF m 4 #[rv b, iv 47, iv 3, .unset] [(.int 1)])
  refine og_ifY X1 hx 9 (hb hby d12_4) (feq (by decide)).2 (by decide) (by decide) ?_
  refine og_iloadN X1 hx (hb hby d12_9) rfl ?_
  refine og_aloadN X1 hx (hb hby d12_10) rfl rfl ?_
  refine own_len X1 hx hZ e1 Ab (hb hby d12_11) ?_
  show own_Go p e below _ T1 (mkF m 12 #[rv b, iv 47, iv 3, .unset] [(.int 4), (.int 3)])
  refine og_iconst X1 hx (hb hby d12_12) ?_
  refine og_isub X1 hx (hb hby d12_13) ?_
  show own_Go p e below _ T1 (mkF m 14 #[rv b, iv 47, iv 3, .unset] [(.int 3), (.int 3)])
  refine own_callS X1 hx hZ hown (own_hw hw 67 rfl) (own_hw hw 68 rfl) (own_hw hw 69 rfl) (own_hw hw 70 rfl) (by decide) (argsL := [(.int 3), (.int 3)]) (rest := []) (own_min_3_3 l Z a0 hw h0 n0) e1 (by rw [hml]; rfl) (lenOf own_pd23903 rfl) rfl (hb hby d12_14) (W := 0) (Nat.le_of_eq rfl) (by decide) ?_
  intro v2 T2 L2 X2 q2
  obtain ⟨rfl, N2q, e2⟩ := q2
  have N2 := Fr.app N1 N2q
  show own_Go p e below _ T2 (mkF m 17 #[rv b, iv 47, iv 3, .unset] [(.int 3)])
  refine og_istoreN X2 hx #[rv b, iv 47, iv 3, iv 3] (hb hby d12_17) rfl ?_
  refine og_iloadN X2 hx (hb hby d12_18) rfl ?_
  refine og_ifN X2 hx (hb hby d12_19) (flt (by decide)).1 ?_
  refine og_aloadN X2 hx (hb hby d12_22) rfl rfl ?_
  refine og_iloadN X2 hx (hb hby d12_23) rfl ?_
  refine own_ldB X2 hx hZ e2 Ab ⟨by decide, by decide⟩ rfl (hb hby d12_24) ?_
  show own_Go p e below _ T2 (mkF m 25 #[rv b, iv 47, iv 3, iv 3] [(.int c3.toInt8.toInt32)])
  refine og_iloadN X2 hx (hb hby d12_25) rfl ?_
  refine own_go (fun t k => XS.i2b X2.here hx rfl (hb hby d12_26) rfl k) ?_
  show own_Go p e below _ T2 (mkF m 27 #[rv b, iv 47, iv 3, iv 3] [(.int 47), (.int c3.toInt8.toInt32)])
  refine og_icY X2 hx 32 (hb hby d12_27) (feq (fun q => m3 (own_b47 _ hc3 q))).2 (by decide) (by decide) ?_
  refine own_go (fun t k => XS.iinc X2.here hx rfl (hb hby d12_32) rfl (l' := #[rv b, iv 47, iv 3, iv 2]) rfl k) ?_
  show own_Go p e below _ T2 (mkF m 35 #[rv b, iv 47, iv 3, iv 2] [])
  refine og_goto X2 hx 18 (hb hby d12_35) (by decide) (by decide) ?_
  refine og_iloadN X2 hx (hb hby d12_18) rfl ?_
  refine og_ifN X2 hx (hb hby d12_19) (flt (by decide)).1 ?_
  refine og_aloadN X2 hx (hb hby d12_22) rfl rfl ?_
  refine og_iloadN X2 hx (hb hby d12_23) rfl ?_
  refine own_ldB X2 hx hZ e2 Ab ⟨by decide, by decide⟩ rfl (hb hby d12_24) ?_
  show own_Go p e below _ T2 (mkF m 25 #[rv b, iv 47, iv 3, iv 2] [(.int c2.toInt8.toInt32)])
  refine og_iloadN X2 hx (hb hby d12_25) rfl ?_
  refine own_go (fun t k => XS.i2b X2.here hx rfl (hb hby d12_26) rfl k) ?_
  show own_Go p e below _ T2 (mkF m 27 #[rv b, iv 47, iv 3, iv 2] [(.int 47), (.int c2.toInt8.toInt32)])
  refine og_icY X2 hx 32 (hb hby d12_27) (feq (fun q => m2 (own_b47 _ hc2 q))).2 (by decide) (by decide) ?_
  refine own_go (fun t k => XS.iinc X2.here hx rfl (hb hby d12_32) rfl (l' := #[rv b, iv 47, iv 3, iv 1]) rfl k) ?_
  show own_Go p e below _ T2 (mkF m 35 #[rv b, iv 47, iv 3, iv 1] [])
  refine og_goto X2 hx 18 (hb hby d12_35) (by decide) (by decide) ?_
  refine og_iloadN X2 hx (hb hby d12_18) rfl ?_
  refine og_ifN X2 hx (hb hby d12_19) (flt (by decide)).1 ?_
  refine og_aloadN X2 hx (hb hby d12_22) rfl rfl ?_
  refine og_iloadN X2 hx (hb hby d12_23) rfl ?_
  refine own_ldB X2 hx hZ e2 Ab ⟨by decide, by decide⟩ rfl (hb hby d12_24) ?_
  show own_Go p e below _ T2 (mkF m 25 #[rv b, iv 47, iv 3, iv 1] [(.int c1.toInt8.toInt32)])
  refine og_iloadN X2 hx (hb hby d12_25) rfl ?_
  refine own_go (fun t k => XS.i2b X2.here hx rfl (hb hby d12_26) rfl k) ?_
  show own_Go p e below _ T2 (mkF m 27 #[rv b, iv 47, iv 3, iv 1] [(.int 47), (.int c1.toInt8.toInt32)])
  refine og_icN X2 hx (hb hby d12_27) (teq (by rw [hsl]; rfl)).2 ?_
  refine og_iloadN X2 hx (hb hby d12_30) rfl ?_
  exact own_retI X2 hx hret hlk (hb hby d12_31) rfl (by simp) (by decide) (by decide) (⟨rfl, N2, e2⟩)
def own_r_own_po_4_1 : Room := { frames := 6, cells := 2, slots := 6, locals := 93 }
theorem own_po_4_1 (l : Launch) (Z : State) (a0 : Array Value) (hw : own_W a0 Z) (z : Int32) (sf : Value) (t b : Addr) (kb : ClassId) (dv : Value) (c0 c1 c2 c3 : Int32) (h0 : Heap) (n0 : Nat) (hO : Old Z n0 h0) (hG : own_Gs Z z sf) (hc2 : ¬ c2 < 0 ∧ ¬ (255 : Int32) < c2) (m2 : ¬ c2 = 47) (hc3 : ¬ c3 < 0 ∧ ¬ (255 : Int32) < c3) (m3 : ¬ c3 = 47) (hsl : c1 = 47) (Et : own_E Z h0 t) (Fv : own_V Z h0 t b) (Fc : own_C Z h0 t) (Ab : Arv Z h0 b kb .byte 4 [(.int c0.toInt8.toInt32), (.int c1.toInt8.toInt32), (.int c2.toInt8.toInt32), (.int c3.toInt8.toInt32)] dv) :
    own_Met l Z (⟨"com/example/svazek/svazek/PackageFolder", "nameOf", "(Ljava/lang/String;)Ljava/lang/String;"⟩ : MethodName) prog_41_method_8_code 1 (some (.object "java/lang/String")) own_r_own_po_4_1 #[(.ref t)] h0 (own_Qs2 Z h0 n0 (.int c2.toInt8.toInt32) (.int c3.toInt8.toInt32)) := by
  refine own_body (by decide +kernel) ?_
  intro p e s m below meth c T0 X0 hx hZ hby hml hown hnm hret hlk e0
  have N0 := Fr.nil n0
  refine own_cast (own_frame (L := [rv t]) (ls := #[rv t]) rfl rfl) ?_
  obtain ⟨SC, hz, SF, rf⟩ := id hG
  refine og_aloadN X0 hx (hb hby d6_0) rfl rfl ?_
  refine og_aloadN X0 hx (hb hby d6_1) rfl rfl ?_
  refine og_bipush X0 hx (hb hby d6_2) ?_
  refine own_callV X0 hx hZ hown (own_hw hw 34 rfl) (own_hw hw 35 rfl) (notFace_of_selects (args := #[]) (mvT hZ (own_hw hw 37 rfl))) (own_hw hw 37 rfl) (own_hw hw 36 rfl) (own_hw hw 38 rfl) (own_hw hw 11 rfl) (by decide) (b := t) (argsL := [(.int 47)]) (rest := [(.ref t)]) (own_lic_4 l Z a0 hw z sf t b _ _ c0 c1 c2 c3 (1) h0 n0 hO hG (own_lia_4_1 l Z a0 hw b _ _ c0 c1 c2 c3 h0 n0 hc2 m2 hc3 m3 hsl Ab) Et Fv Fc Ab) e0 Et (by rw [hml]; rfl) (lenOf own_pd49053 rfl) rfl (hb hby d6_4) (W := 1) (Nat.le_of_eq rfl) (by decide) ?_
  intro v1 T1 L1 X1 q1
  obtain ⟨rfl, N1q, e1⟩ := q1
  have N1 := Fr.app N0 N1q
  show own_Go p e below _ T1 (mkF m 7 #[rv t] [(.int 1), (.ref t)])
  refine og_iconst X1 hx (hb hby d6_7) ?_
  refine og_iadd X1 hx (hb hby d6_8) ?_
  show own_Go p e below _ T1 (mkF m 9 #[rv t] [(.int 2), (.ref t)])
  refine own_callV X1 hx hZ hown (own_hw hw 71 rfl) (own_hw hw 72 rfl) (notFace_of_selects (args := #[]) (mvT hZ (own_hw hw 74 rfl))) (own_hw hw 74 rfl) (own_hw hw 73 rfl) (own_hw hw 75 rfl) (own_hw hw 11 rfl) (by decide) (b := t) (argsL := [(.int 2)]) (rest := []) (own_sub1N2 l Z a0 hw z sf t b _ _ 4 _ 2 (.int c2.toInt8.toInt32) (.int c3.toInt8.toInt32) h0 n0 hO hG (by decide) (by decide) (by decide) (own_ns_2_2_4 l Z a0 hw b _ _ (.int c0.toInt8.toInt32) (.int c1.toInt8.toInt32) (.int c2.toInt8.toInt32) (.int c3.toInt8.toInt32) h0 n0 hO Ab) Et Fv Fc Ab) e1 Et (by rw [hml]; rfl) (lenOf own_pd44404 rfl) rfl (hb hby d6_9) (W := 0) (Nat.le_of_eq rfl) (by decide) ?_
  intro v2 T2 L2 X2 q2
  obtain ⟨t2, vb2, k2, rfl, N2q, K2q, zt2, gt2, zb2, gb2, ne_t2_vb2, Et2, Ft2, Ct2, At2⟩ := q2
  have N2 := Fr.app N1 N2q
  have ne_b_t2 : b ≠ t2 := Nat.ne_of_lt (Nat.lt_of_lt_of_le Ab.lt zt2)
  have ne_t_t2 : t ≠ t2 := Nat.ne_of_lt (Nat.lt_of_lt_of_le Et.lt zt2)
  have sz_t2 : h0.size ≤ t2 := Nat.le_trans (Keep.refl h0 []).1 zt2
  have ne_b_vb2 : b ≠ vb2 := Nat.ne_of_lt (Nat.lt_of_lt_of_le Ab.lt zb2)
  have ne_t_vb2 : t ≠ vb2 := Nat.ne_of_lt (Nat.lt_of_lt_of_le Et.lt zb2)
  have sz_vb2 : h0.size ≤ vb2 := Nat.le_trans (Keep.refl h0 []).1 zb2
  have E_t_2 := Et.keep K2q
  have F_t_value_2 := Fv.keep K2q nin0
  have F_t_coder_2 := Fc.keep K2q nin0
  have A_b_2 := Ab.keep K2q nin0
  have O2 := hO.keep K2q all0
  have K2 := (Keep.refl h0 []).trans K2q all0
  show own_Go p e below _ T2 (mkF m 12 #[rv t] [(.ref t2)])
  exact own_retA X2 hx hret hlk (hb hby d6_12) rfl rfl (by decide) (by decide) (⟨t2, vb2, _, rfl, N2, K2, sz_t2, gt2, sz_vb2, gb2, ne_t2_vb2, Et2, Ft2, Ct2, At2⟩)
def own_r_own_ckl_3_4 : Room := { frames := 0, cells := 0, slots := 0, locals := 0 }
theorem own_ckl_3_4 (l : Launch) (Z : State) (a0 : Array Value) (hw : own_W a0 Z)  (h0 : Heap) (n0 : Nat)  :
    own_Met l Z (⟨"java/util/Arrays", "checkLength", "(II)V"⟩ : MethodName) jdk_65_method_131_code 2 none own_r_own_ckl_3_4 #[(.int 3), (.int 4)] h0 (own_Qv none h0 n0) := by
  refine own_body (by decide +kernel) ?_
  intro p e s m below meth c T0 X0 hx hZ hby hml hown hnm hret hlk e0
  have N0 := Fr.nil n0
  refine own_cast (own_frame (L := [iv 3, iv 4]) (ls := #[iv 3, iv 4]) rfl rfl) ?_
  refine og_iloadN X0 hx (hb hby d30_0) rfl ?_
  refine og_iloadN X0 hx (hb hby d30_1) rfl ?_
  refine og_icY X0 hx 37 (hb hby d30_2) (flt (by decide)).2.1 (by decide) (by decide) ?_
  exact own_retV X0 hx hret hlk (hb hby d30_37) (by decide) (by decide) (⟨rfl, N0, e0⟩)
def own_Qr_3_4_4 (Z : State) (h0 : Heap) (n0 : Nat) (v0 v1 v2 v3 : Value) (v : Option Value) (h : Heap) (L : List Loc) : Prop := ∃ (b : Addr) (k : ClassId), v = some (.ref b) ∧ Fr n0 L ∧ Keep h0 h [] ∧ h0.size ≤ b ∧ n0 ≤ b ∧ Arv Z h b k .byte 1 [v3] (.int (0 : Int32))
def own_r_own_crb_3_4_4 : Room := { frames := 1, cells := 1, slots := 1, locals := 18 }
theorem own_crb_3_4_4 (l : Launch) (Z : State) (a0 : Array Value) (hw : own_W a0 Z) (b : Addr) (kb : ClassId) (dv : Value) (v0 v1 v2 v3 : Value) (h0 : Heap) (n0 : Nat) (hO : Old Z n0 h0) (Ab : Arv Z h0 b kb .byte 4 [v0, v1, v2, v3] dv) :
    own_Met l Z (⟨"java/util/Arrays", "copyOfRangeByte", "([BII)[B"⟩ : MethodName) jdk_65_method_133_code 5 (some (.array .byte)) own_r_own_crb_3_4_4 #[(.ref b), (.int 3), (.int 4)] h0 (own_Qr_3_4_4 Z h0 n0 v0 v1 v2 v3) := by
  refine own_body (by decide +kernel) ?_
  intro p e s m below meth c T0 X0 hx hZ hby hml hown hnm hret hlk e0
  have N0 := Fr.nil n0
  refine own_cast (own_frame (L := [rv b, iv 3, iv 4]) (ls := #[rv b, iv 3, iv 4, .unset, .unset]) rfl rfl) ?_
  refine og_iloadN X0 hx (hb hby d29_0) rfl ?_
  refine og_iloadN X0 hx (hb hby d29_1) rfl ?_
  refine own_callS X0 hx hZ hown (own_hw hw 129 rfl) (own_hw hw 130 rfl) (own_hw hw 124 rfl) (own_hw hw 131 rfl) (by decide) (argsL := [(.int 3), (.int 4)]) (rest := []) (own_ckl_3_4 l Z a0 hw h0 n0) e0 (by rw [hml]; rfl) (lenOf own_pd97226 rfl) rfl (hb hby d29_2) (W := 0) (Nat.le_of_eq rfl) (by decide) ?_
  intro v1 T1 L1 X1 q1
  obtain ⟨rfl, N1q, e1⟩ := q1
  have N1 := Fr.app N0 N1q
  show own_Go p e below _ T1 (mkF m 5 #[rv b, iv 3, iv 4, .unset, .unset] [])
  refine og_iloadN X1 hx (hb hby d29_5) rfl ?_
  refine og_iloadN X1 hx (hb hby d29_6) rfl ?_
  refine og_isub X1 hx (hb hby d29_7) ?_
  refine og_istoreN X1 hx #[rv b, iv 3, iv 4, iv 1, .unset] (hb hby d29_8) rfl ?_
  refine og_iloadN X1 hx (hb hby d29_9) rfl ?_
  refine own_newP X1 hx hZ (own_hw hw 23 rfl) e1 (hb hby d29_10) (by decide) 1 (by decide) (by decide) (by decide) (by decide) ?_
  intro T2 h2 k2 b2 g2 X2 e2 E2 A2
  have ne_b_b2 : b ≠ b2 := Nat.ne_of_lt (Nat.lt_of_lt_of_eq Ab.lt g2.symm)
  have ge_b2 : n0 ≤ b2 := Nat.le_trans (own_oldle hO) (Nat.le_of_eq g2.symm)
  have sz_b2 : h0.size ≤ b2 := Nat.le_trans (Keep.refl h0 []).1 (Nat.le_of_eq g2.symm)
  have A_b_2 := Ab.ext E2
  have O2 := hO.ext E2
  have K2 := (Keep.refl h0 []).ext E2
  have A_b2_2 : Arv Z h2 b2 k2 .byte 1 [(.int (0 : Int32))] (.int (0 : Int32)) := A2
  show own_Go p e below _ T2 (mkF m 12 #[rv b, iv 3, iv 4, iv 1, .unset] [(.ref b2)])
  refine og_astore X2 hx #[rv b, iv 3, iv 4, iv 1, rv b2] (hb hby d29_12) rfl rfl ?_
  refine og_aloadN X2 hx (hb hby d29_14) rfl rfl ?_
  refine og_iloadN X2 hx (hb hby d29_15) rfl ?_
  refine og_aload X2 hx (hb hby d29_16) rfl rfl ?_
  refine og_iconst X2 hx (hb hby d29_18) ?_
  refine og_aloadN X2 hx (hb hby d29_19) rfl rfl ?_
  refine own_len X2 hx hZ e2 A_b_2 (hb hby d29_20) ?_
  show own_Go p e below _ T2 (mkF m 21 #[rv b, iv 3, iv 4, iv 1, rv b2] [(.int 4), (.int 0), (.ref b2), (.int 3), (.ref b)])
  refine og_iloadN X2 hx (hb hby d29_21) rfl ?_
  refine og_isub X2 hx (hb hby d29_22) ?_
  refine og_iloadN X2 hx (hb hby d29_23) rfl ?_
  refine own_callS X2 hx hZ hown (own_hw hw 132 rfl) (own_hw hw 68 rfl) (own_hw hw 69 rfl) (own_hw hw 70 rfl) (by decide) (argsL := [(.int 1), (.int 1)]) (rest := [(.int 0), (.ref b2), (.int 3), (.ref b)]) (own_min_1_1 l Z a0 hw h2 n0) e2 (by rw [hml]; rfl) (lenOf own_pd23903 rfl) rfl (hb hby d29_24) (W := 4) (Nat.le_of_eq rfl) (by decide) ?_
  intro v3 T3 L3 X3 q3
  obtain ⟨rfl, N3q, e3⟩ := q3
  have N3 := Fr.app N1 N3q
  show own_Go p e below _ T3 (mkF m 27 #[rv b, iv 3, iv 4, iv 1, rv b2] [(.int 1), (.int 0), (.ref b2), (.int 3), (.ref b)])
  obtain ⟨T4, h4, L4, X4, e4, N4, K4q, A4, st4⟩ := cpA X3 hx hZ hown (own_hw hw 133 rfl) (own_hw hw 136 rfl) (own_hw hw 134 rfl) (own_hw hw 135 rfl) e3 A_b_2 A_b2_2 (us := [v3]) (Or.inl ⟨rfl, rfl⟩) (by decide) (by decide) (by decide) (by decide) (by decide) rfl (by decide) N3 ge_b2 (g := (mkF m 27 #[rv b, iv 3, iv 4, iv 1, rv b2] [(.int 1), (.int 0), (.ref b2), (.int 3), (.ref b)])) rfl (by rw [hml]; rfl) rfl (hb hby d29_27) (by decide) (W := 0) (by show 2 * 0 + _ ≤ _; exact Nat.le_of_eq rfl) (by decide)
  refine own_go st4 ?_
  have A_b_4 := A_b_2.keep K4q (ninS ne_b_b2 nin0)
  have O4 := O2.keep K4q (allS ge_b2 all0)
  have K4 := K2.trans K4q (allS (Or.inr sz_b2) all0)
  have A_b2_4 : Arv Z h4 b2 k2 .byte 1 [v3] (.int (0 : Int32)) := A4
  show own_Go p e below _ T4 (mkF m 30 #[rv b, iv 3, iv 4, iv 1, rv b2] [])
  refine og_aload X4 hx (hb hby d29_30) rfl rfl ?_
  exact own_retA X4 hx hret hlk (hb hby d29_32) rfl rfl (by decide) (by decide) (by rw [e4]; exact ⟨b2, _, rfl, N4, K4, sz_b2, ge_b2, A_b2_4⟩)
def own_r_own_cr_3_4_4 : Room := { frames := 2, cells := 1, slots := 1, locals := 34 }
theorem own_cr_3_4_4 (l : Launch) (Z : State) (a0 : Array Value) (hw : own_W a0 Z) (b : Addr) (kb : ClassId) (dv : Value) (v0 v1 v2 v3 : Value) (h0 : Heap) (n0 : Nat) (hO : Old Z n0 h0) (Ab : Arv Z h0 b kb .byte 4 [v0, v1, v2, v3] dv) :
    own_Met l Z (⟨"java/util/Arrays", "copyOfRange", "([BII)[B"⟩ : MethodName) jdk_65_method_132_code 3 (some (.array .byte)) own_r_own_cr_3_4_4 #[(.ref b), (.int 3), (.int 4)] h0 (own_Qr_3_4_4 Z h0 n0 v0 v1 v2 v3) := by
  refine own_body (by decide +kernel) ?_
  intro p e s m below meth c T0 X0 hx hZ hby hml hown hnm hret hlk e0
  have N0 := Fr.nil n0
  refine own_cast (own_frame (L := [rv b, iv 3, iv 4]) (ls := #[rv b, iv 3, iv 4]) rfl rfl) ?_
  refine og_iloadN X0 hx (hb hby d28_0) rfl ?_
  refine og_ifY X0 hx 10 (hb hby d28_1) (feq (by decide)).2 (by decide) (by decide) ?_
  refine og_aloadN X0 hx (hb hby d28_10) rfl rfl ?_
  refine og_iloadN X0 hx (hb hby d28_11) rfl ?_
  refine og_iloadN X0 hx (hb hby d28_12) rfl ?_
  refine own_callS X0 hx hZ hown (own_hw hw 126 rfl) (own_hw hw 127 rfl) (own_hw hw 124 rfl) (own_hw hw 128 rfl) (by decide) (argsL := [(.ref b), (.int 3), (.int 4)]) (rest := []) (own_crb_3_4_4 l Z a0 hw b _ _ v0 v1 v2 v3 h0 n0 hO Ab) e0 (by rw [hml]; rfl) (lenOf own_pd77155 rfl) rfl (hb hby d28_13) (W := 0) (Nat.le_of_eq rfl) (by decide) ?_
  intro v1 T1 L1 X1 q1
  obtain ⟨b1, k1, rfl, N1q, K1q, z1q, g1q, A1q⟩ := q1
  have N1 := Fr.app N0 N1q
  have ne_b_b1 : b ≠ b1 := Nat.ne_of_lt (Nat.lt_of_lt_of_le Ab.lt z1q)
  have sz_b1 : h0.size ≤ b1 := Nat.le_trans (Keep.refl h0 []).1 z1q
  have A_b_1 := Ab.keep K1q nin0
  have O1 := hO.keep K1q all0
  have K1 := (Keep.refl h0 []).trans K1q all0
  show own_Go p e below _ T1 (mkF m 16 #[rv b, iv 3, iv 4] [(.ref b1)])
  exact own_retA X1 hx hret hlk (hb hby d28_16) rfl rfl (by decide) (by decide) (⟨b1, _, rfl, N1, K1, sz_b1, g1q, A1q⟩)
def own_r_own_ns_3_1_4 : Room := { frames := 3, cells := 2, slots := 5, locals := 50 }
theorem own_ns_3_1_4 (l : Launch) (Z : State) (a0 : Array Value) (hw : own_W a0 Z) (b : Addr) (kb : ClassId) (dv : Value) (v0 v1 v2 v3 : Value) (h0 : Heap) (n0 : Nat) (hO : Old Z n0 h0) (Ab : Arv Z h0 b kb .byte 4 [v0, v1, v2, v3] dv) :
    own_Met l Z (⟨"java/lang/StringLatin1", "newString", "([BII)Ljava/lang/String;"⟩ : MethodName) jdk_43_method_47_code 3 (some (.object "java/lang/String")) own_r_own_ns_3_1_4 #[(.ref b), (.int 3), (.int 1)] h0 (own_Qs1 Z h0 n0 v3) := by
  refine own_body (by decide +kernel) ?_
  intro p e s m below meth c T0 X0 hx hZ hby hml hown hnm hret hlk e0
  have N0 := Fr.nil n0
  refine own_cast (own_frame (L := [rv b, iv 3, iv 1]) (ls := #[rv b, iv 3, iv 1]) rfl rfl) ?_
  refine og_iloadN X0 hx (hb hby d23_0) rfl ?_
  refine og_ifY X0 hx 7 (hb hby d23_1) (feq (by decide)).2 (by decide) (by decide) ?_
  refine own_newO X0 hx hZ hown (own_hw hw 121 rfl) (own_hw hw 10 rfl) (own_hw hw 11 rfl) e0 (hb hby d23_7) (by decide) (by decide) ?_
  intro T1 h1 b1 g1 X1 e1 E1 A1 D1
  have ne_b_b1 : b ≠ b1 := Nat.ne_of_lt (Nat.lt_of_lt_of_eq Ab.lt g1.symm)
  have ge_b1 : n0 ≤ b1 := Nat.le_trans (own_oldle hO) (Nat.le_of_eq g1.symm)
  have sz_b1 : h0.size ≤ b1 := Nat.le_trans (Keep.refl h0 []).1 (Nat.le_of_eq g1.symm)
  have A_b_1 := Ab.ext E1
  have O1 := hO.ext E1
  have K1 := (Keep.refl h0 []).ext E1
  have F_b1_value_1 : Fld Z h1 b1 "java/lang/String" "value" "[B" .null := D1 (Or.inr (own_hw hw 24 rfl)) (ty := (.array .byte)) (by decide)
  have F_b1_coder_1 : Fld Z h1 b1 "java/lang/String" "coder" "B" (.int 0) := D1 (Or.inr (own_hw hw 25 rfl)) (ty := .byte) (by decide)
  show own_Go p e below _ T1 (mkF m 10 #[rv b, iv 3, iv 1] [(.ref b1)])
  refine og_dup X1 hx (hb hby d23_10) rfl ?_
  refine og_aloadN X1 hx (hb hby d23_11) rfl rfl ?_
  refine og_iloadN X1 hx (hb hby d23_12) rfl ?_
  refine og_iloadN X1 hx (hb hby d23_13) rfl ?_
  refine og_iloadN X1 hx (hb hby d23_14) rfl ?_
  refine og_iadd X1 hx (hb hby d23_15) ?_
  show own_Go p e below _ T1 (mkF m 16 #[rv b, iv 3, iv 1] [(.int 4), (.int 3), (.ref b), (.ref b1), (.ref b1)])
  refine own_callS X1 hx hZ hown (own_hw hw 122 rfl) (own_hw hw 123 rfl) (own_hw hw 124 rfl) (own_hw hw 125 rfl) (by decide) (argsL := [(.ref b), (.int 3), (.int 4)]) (rest := [(.ref b1), (.ref b1)]) (own_cr_3_4_4 l Z a0 hw b _ _ v0 v1 v2 v3 h1 n0 O1 A_b_1) e1 (by rw [hml]; rfl) (lenOf own_pd77155 rfl) rfl (hb hby d23_16) (W := 2) (Nat.le_of_eq rfl) (by decide) ?_
  intro v2 T2 L2 X2 q2
  obtain ⟨b2, k2, rfl, N2q, K2q, z2q, g2q, A2q⟩ := q2
  have N2 := Fr.app N0 N2q
  have ne_b_b2 : b ≠ b2 := Nat.ne_of_lt (Nat.lt_of_lt_of_le A_b_1.lt z2q)
  have ne_b1_b2 : b1 ≠ b2 := Nat.ne_of_lt (Nat.lt_of_lt_of_le A1.lt z2q)
  have sz_b2 : h0.size ≤ b2 := Nat.le_trans K1.1 z2q
  have A_b_2 := A_b_1.keep K2q nin0
  have E_b1_2 := A1.keep K2q
  have F_b1_value_2 := F_b1_value_1.keep K2q nin0
  have F_b1_coder_2 := F_b1_coder_1.keep K2q nin0
  have O2 := O1.keep K2q all0
  have K2 := K1.trans K2q all0
  show own_Go p e below _ T2 (mkF m 19 #[rv b, iv 3, iv 1] [(.ref b2), (.ref b1), (.ref b1)])
  refine og_iconst X2 hx (hb hby d23_19) ?_
  refine own_callN X2 hx hZ hown (own_hw hw 137 rfl) (own_hw hw 138 rfl) (own_hw hw 139 rfl) (own_hw hw 11 rfl) (by decide) rfl (b := b1) (argsL := [(.ref b2), (.int 0)]) (rest := [(.ref b1)]) (own_si l Z a0 hw b1 b2 _ _ T2.heap n0 O2 ge_b1 E_b1_2 F_b1_value_2 F_b1_coder_2) rfl (by rw [hml]; rfl) (lenOf own_pd58512 rfl) rfl (hb hby d23_20) (W := 1) (Nat.le_of_eq rfl) (by decide) ?_
  intro v3 T3 L3 X3 q3
  obtain ⟨rfl, N3q, K3q, Fv3, Fc3⟩ := q3
  have N3 := Fr.app N2 N3q
  have A_b_3 := A_b_2.keep K3q (ninS ne_b_b1 nin0)
  have E_b1_3 := E_b1_2.keep K3q
  have A_b2_3 := A2q.keep K3q (ninS (Ne.symm ne_b1_b2) nin0)
  have O3 := O2.keep K3q (allS ge_b1 all0)
  have K3 := K2.trans K3q (allS (Or.inr sz_b1) all0)
  show own_Go p e below _ T3 (mkF m 23 #[rv b, iv 3, iv 1] [(.ref b1)])
  exact own_retA X3 hx hret hlk (hb hby d23_23) rfl rfl (by decide) (by decide) (⟨b1, b2, _, rfl, N3, K3, sz_b1, ge_b1, sz_b2, g2q, ne_b1_b2, E_b1_3, Fv3, Fc3, A_b2_3⟩)
theorem own_lia_4_2 (l : Launch) (Z : State) (a0 : Array Value) (hw : own_W a0 Z) (b : Addr) (kb : ClassId) (dv : Value) (c0 c1 c2 c3 : Int32) (h0 : Heap) (n0 : Nat) (hc3 : ¬ c3 < 0 ∧ ¬ (255 : Int32) < c3) (m3 : ¬ c3 = 47) (hsl : c2 = 47) (Ab : Arv Z h0 b kb .byte 4 [(.int c0.toInt8.toInt32), (.int c1.toInt8.toInt32), (.int c2.toInt8.toInt32), (.int c3.toInt8.toInt32)] dv) :
    own_Met l Z (⟨"java/lang/StringLatin1", "lastIndexOf", "([BII)I"⟩ : MethodName) jdk_43_method_27_code 4 (some .int) own_r_lia #[(.ref b), (.int 47), (.int 3)] h0 (own_Qv (some (.int (2))) h0 n0) := by
  refine own_body (by decide +kernel) ?_
  intro p e s m below meth c T0 X0 hx hZ hby hml hown hnm hret hlk e0
  have N0 := Fr.nil n0
  refine own_cast (own_frame (L := [rv b, iv 47, iv 3]) (ls := #[rv b, iv 47, iv 3, .unset]) rfl rfl) ?_
  refine og_iloadN X0 hx (hb hby d12_0) rfl ?_
  refine own_callS X0 hx hZ hown (own_hw hw 64 rfl) (own_hw hw 65 rfl) (own_hw hw 62 rfl) (own_hw hw 66 rfl) (by decide) (argsL := [(.int 47)]) (rest := []) (own_ce47 l Z a0 hw h0 n0) e0 (by rw [hml]; rfl) (lenOf own_pd97859 rfl) rfl (hb hby d12_1) (W := 0) (Nat.le_of_eq rfl) (by decide) ?_
  intro v1 T1 L1 X1 q1
  obtain ⟨rfl, N1q, e1⟩ := q1
  have N1 := Fr.app N0 N1q
  show own_Go p e below _ T1 (mkF m 4 #[rv b, iv 47, iv 3, .unset] [(.int 1)])
  refine og_ifY X1 hx 9 (hb hby d12_4) (feq (by decide)).2 (by decide) (by decide) ?_
  refine og_iloadN X1 hx (hb hby d12_9) rfl ?_
  refine og_aloadN X1 hx (hb hby d12_10) rfl rfl ?_
  refine own_len X1 hx hZ e1 Ab (hb hby d12_11) ?_
  show own_Go p e below _ T1 (mkF m 12 #[rv b, iv 47, iv 3, .unset] [(.int 4), (.int 3)])
  refine og_iconst X1 hx (hb hby d12_12) ?_
  refine og_isub X1 hx (hb hby d12_13) ?_
  show own_Go p e below _ T1 (mkF m 14 #[rv b, iv 47, iv 3, .unset] [(.int 3), (.int 3)])
  refine own_callS X1 hx hZ hown (own_hw hw 67 rfl) (own_hw hw 68 rfl) (own_hw hw 69 rfl) (own_hw hw 70 rfl) (by decide) (argsL := [(.int 3), (.int 3)]) (rest := []) (own_min_3_3 l Z a0 hw h0 n0) e1 (by rw [hml]; rfl) (lenOf own_pd23903 rfl) rfl (hb hby d12_14) (W := 0) (Nat.le_of_eq rfl) (by decide) ?_
  intro v2 T2 L2 X2 q2
  obtain ⟨rfl, N2q, e2⟩ := q2
  have N2 := Fr.app N1 N2q
  show own_Go p e below _ T2 (mkF m 17 #[rv b, iv 47, iv 3, .unset] [(.int 3)])
  refine og_istoreN X2 hx #[rv b, iv 47, iv 3, iv 3] (hb hby d12_17) rfl ?_
  refine og_iloadN X2 hx (hb hby d12_18) rfl ?_
  refine og_ifN X2 hx (hb hby d12_19) (flt (by decide)).1 ?_
  refine og_aloadN X2 hx (hb hby d12_22) rfl rfl ?_
  refine og_iloadN X2 hx (hb hby d12_23) rfl ?_
  refine own_ldB X2 hx hZ e2 Ab ⟨by decide, by decide⟩ rfl (hb hby d12_24) ?_
  show own_Go p e below _ T2 (mkF m 25 #[rv b, iv 47, iv 3, iv 3] [(.int c3.toInt8.toInt32)])
  refine og_iloadN X2 hx (hb hby d12_25) rfl ?_
  refine own_go (fun t k => XS.i2b X2.here hx rfl (hb hby d12_26) rfl k) ?_
  show own_Go p e below _ T2 (mkF m 27 #[rv b, iv 47, iv 3, iv 3] [(.int 47), (.int c3.toInt8.toInt32)])
  refine og_icY X2 hx 32 (hb hby d12_27) (feq (fun q => m3 (own_b47 _ hc3 q))).2 (by decide) (by decide) ?_
  refine own_go (fun t k => XS.iinc X2.here hx rfl (hb hby d12_32) rfl (l' := #[rv b, iv 47, iv 3, iv 2]) rfl k) ?_
  show own_Go p e below _ T2 (mkF m 35 #[rv b, iv 47, iv 3, iv 2] [])
  refine og_goto X2 hx 18 (hb hby d12_35) (by decide) (by decide) ?_
  refine og_iloadN X2 hx (hb hby d12_18) rfl ?_
  refine og_ifN X2 hx (hb hby d12_19) (flt (by decide)).1 ?_
  refine og_aloadN X2 hx (hb hby d12_22) rfl rfl ?_
  refine og_iloadN X2 hx (hb hby d12_23) rfl ?_
  refine own_ldB X2 hx hZ e2 Ab ⟨by decide, by decide⟩ rfl (hb hby d12_24) ?_
  show own_Go p e below _ T2 (mkF m 25 #[rv b, iv 47, iv 3, iv 2] [(.int c2.toInt8.toInt32)])
  refine og_iloadN X2 hx (hb hby d12_25) rfl ?_
  refine own_go (fun t k => XS.i2b X2.here hx rfl (hb hby d12_26) rfl k) ?_
  show own_Go p e below _ T2 (mkF m 27 #[rv b, iv 47, iv 3, iv 2] [(.int 47), (.int c2.toInt8.toInt32)])
  refine og_icN X2 hx (hb hby d12_27) (teq (by rw [hsl]; rfl)).2 ?_
  refine og_iloadN X2 hx (hb hby d12_30) rfl ?_
  exact own_retI X2 hx hret hlk (hb hby d12_31) rfl (by simp) (by decide) (by decide) (⟨rfl, N2, e2⟩)
def own_r_own_po_4_2 : Room := { frames := 6, cells := 2, slots := 5, locals := 93 }
theorem own_po_4_2 (l : Launch) (Z : State) (a0 : Array Value) (hw : own_W a0 Z) (z : Int32) (sf : Value) (t b : Addr) (kb : ClassId) (dv : Value) (c0 c1 c2 c3 : Int32) (h0 : Heap) (n0 : Nat) (hO : Old Z n0 h0) (hG : own_Gs Z z sf) (hc3 : ¬ c3 < 0 ∧ ¬ (255 : Int32) < c3) (m3 : ¬ c3 = 47) (hsl : c2 = 47) (Et : own_E Z h0 t) (Fv : own_V Z h0 t b) (Fc : own_C Z h0 t) (Ab : Arv Z h0 b kb .byte 4 [(.int c0.toInt8.toInt32), (.int c1.toInt8.toInt32), (.int c2.toInt8.toInt32), (.int c3.toInt8.toInt32)] dv) :
    own_Met l Z (⟨"com/example/svazek/svazek/PackageFolder", "nameOf", "(Ljava/lang/String;)Ljava/lang/String;"⟩ : MethodName) prog_41_method_8_code 1 (some (.object "java/lang/String")) own_r_own_po_4_2 #[(.ref t)] h0 (own_Qs1 Z h0 n0 (.int c3.toInt8.toInt32)) := by
  refine own_body (by decide +kernel) ?_
  intro p e s m below meth c T0 X0 hx hZ hby hml hown hnm hret hlk e0
  have N0 := Fr.nil n0
  refine own_cast (own_frame (L := [rv t]) (ls := #[rv t]) rfl rfl) ?_
  obtain ⟨SC, hz, SF, rf⟩ := id hG
  refine og_aloadN X0 hx (hb hby d6_0) rfl rfl ?_
  refine og_aloadN X0 hx (hb hby d6_1) rfl rfl ?_
  refine og_bipush X0 hx (hb hby d6_2) ?_
  refine own_callV X0 hx hZ hown (own_hw hw 34 rfl) (own_hw hw 35 rfl) (notFace_of_selects (args := #[]) (mvT hZ (own_hw hw 37 rfl))) (own_hw hw 37 rfl) (own_hw hw 36 rfl) (own_hw hw 38 rfl) (own_hw hw 11 rfl) (by decide) (b := t) (argsL := [(.int 47)]) (rest := [(.ref t)]) (own_lic_4 l Z a0 hw z sf t b _ _ c0 c1 c2 c3 (2) h0 n0 hO hG (own_lia_4_2 l Z a0 hw b _ _ c0 c1 c2 c3 h0 n0 hc3 m3 hsl Ab) Et Fv Fc Ab) e0 Et (by rw [hml]; rfl) (lenOf own_pd49053 rfl) rfl (hb hby d6_4) (W := 1) (Nat.le_of_eq rfl) (by decide) ?_
  intro v1 T1 L1 X1 q1
  obtain ⟨rfl, N1q, e1⟩ := q1
  have N1 := Fr.app N0 N1q
  show own_Go p e below _ T1 (mkF m 7 #[rv t] [(.int 2), (.ref t)])
  refine og_iconst X1 hx (hb hby d6_7) ?_
  refine og_iadd X1 hx (hb hby d6_8) ?_
  show own_Go p e below _ T1 (mkF m 9 #[rv t] [(.int 3), (.ref t)])
  refine own_callV X1 hx hZ hown (own_hw hw 71 rfl) (own_hw hw 72 rfl) (notFace_of_selects (args := #[]) (mvT hZ (own_hw hw 74 rfl))) (own_hw hw 74 rfl) (own_hw hw 73 rfl) (own_hw hw 75 rfl) (own_hw hw 11 rfl) (by decide) (b := t) (argsL := [(.int 3)]) (rest := []) (own_sub1N1 l Z a0 hw z sf t b _ _ 4 _ 3 (.int c3.toInt8.toInt32) h0 n0 hO hG (by decide) (by decide) (by decide) (own_ns_3_1_4 l Z a0 hw b _ _ (.int c0.toInt8.toInt32) (.int c1.toInt8.toInt32) (.int c2.toInt8.toInt32) (.int c3.toInt8.toInt32) h0 n0 hO Ab) Et Fv Fc Ab) e1 Et (by rw [hml]; rfl) (lenOf own_pd44404 rfl) rfl (hb hby d6_9) (W := 0) (Nat.le_of_eq rfl) (by decide) ?_
  intro v2 T2 L2 X2 q2
  obtain ⟨t2, vb2, k2, rfl, N2q, K2q, zt2, gt2, zb2, gb2, ne_t2_vb2, Et2, Ft2, Ct2, At2⟩ := q2
  have N2 := Fr.app N1 N2q
  have ne_b_t2 : b ≠ t2 := Nat.ne_of_lt (Nat.lt_of_lt_of_le Ab.lt zt2)
  have ne_t_t2 : t ≠ t2 := Nat.ne_of_lt (Nat.lt_of_lt_of_le Et.lt zt2)
  have sz_t2 : h0.size ≤ t2 := Nat.le_trans (Keep.refl h0 []).1 zt2
  have ne_b_vb2 : b ≠ vb2 := Nat.ne_of_lt (Nat.lt_of_lt_of_le Ab.lt zb2)
  have ne_t_vb2 : t ≠ vb2 := Nat.ne_of_lt (Nat.lt_of_lt_of_le Et.lt zb2)
  have sz_vb2 : h0.size ≤ vb2 := Nat.le_trans (Keep.refl h0 []).1 zb2
  have E_t_2 := Et.keep K2q
  have F_t_value_2 := Fv.keep K2q nin0
  have F_t_coder_2 := Fc.keep K2q nin0
  have A_b_2 := Ab.keep K2q nin0
  have O2 := hO.keep K2q all0
  have K2 := (Keep.refl h0 []).trans K2q all0
  show own_Go p e below _ T2 (mkF m 12 #[rv t] [(.ref t2)])
  exact own_retA X2 hx hret hlk (hb hby d6_12) rfl rfl (by decide) (by decide) (⟨t2, vb2, _, rfl, N2, K2, sz_t2, gt2, sz_vb2, gb2, ne_t2_vb2, Et2, Ft2, Ct2, At2⟩)
theorem own_lia_4_3 (l : Launch) (Z : State) (a0 : Array Value) (hw : own_W a0 Z) (b : Addr) (kb : ClassId) (dv : Value) (c0 c1 c2 c3 : Int32) (h0 : Heap) (n0 : Nat)  (hsl : c3 = 47) (Ab : Arv Z h0 b kb .byte 4 [(.int c0.toInt8.toInt32), (.int c1.toInt8.toInt32), (.int c2.toInt8.toInt32), (.int c3.toInt8.toInt32)] dv) :
    own_Met l Z (⟨"java/lang/StringLatin1", "lastIndexOf", "([BII)I"⟩ : MethodName) jdk_43_method_27_code 4 (some .int) own_r_lia #[(.ref b), (.int 47), (.int 3)] h0 (own_Qv (some (.int (3))) h0 n0) := by
  refine own_body (by decide +kernel) ?_
  intro p e s m below meth c T0 X0 hx hZ hby hml hown hnm hret hlk e0
  have N0 := Fr.nil n0
  refine own_cast (own_frame (L := [rv b, iv 47, iv 3]) (ls := #[rv b, iv 47, iv 3, .unset]) rfl rfl) ?_
  refine og_iloadN X0 hx (hb hby d12_0) rfl ?_
  refine own_callS X0 hx hZ hown (own_hw hw 64 rfl) (own_hw hw 65 rfl) (own_hw hw 62 rfl) (own_hw hw 66 rfl) (by decide) (argsL := [(.int 47)]) (rest := []) (own_ce47 l Z a0 hw h0 n0) e0 (by rw [hml]; rfl) (lenOf own_pd97859 rfl) rfl (hb hby d12_1) (W := 0) (Nat.le_of_eq rfl) (by decide) ?_
  intro v1 T1 L1 X1 q1
  obtain ⟨rfl, N1q, e1⟩ := q1
  have N1 := Fr.app N0 N1q
  show own_Go p e below _ T1 (mkF m 4 #[rv b, iv 47, iv 3, .unset] [(.int 1)])
  refine og_ifY X1 hx 9 (hb hby d12_4) (feq (by decide)).2 (by decide) (by decide) ?_
  refine og_iloadN X1 hx (hb hby d12_9) rfl ?_
  refine og_aloadN X1 hx (hb hby d12_10) rfl rfl ?_
  refine own_len X1 hx hZ e1 Ab (hb hby d12_11) ?_
  show own_Go p e below _ T1 (mkF m 12 #[rv b, iv 47, iv 3, .unset] [(.int 4), (.int 3)])
  refine og_iconst X1 hx (hb hby d12_12) ?_
  refine og_isub X1 hx (hb hby d12_13) ?_
  show own_Go p e below _ T1 (mkF m 14 #[rv b, iv 47, iv 3, .unset] [(.int 3), (.int 3)])
  refine own_callS X1 hx hZ hown (own_hw hw 67 rfl) (own_hw hw 68 rfl) (own_hw hw 69 rfl) (own_hw hw 70 rfl) (by decide) (argsL := [(.int 3), (.int 3)]) (rest := []) (own_min_3_3 l Z a0 hw h0 n0) e1 (by rw [hml]; rfl) (lenOf own_pd23903 rfl) rfl (hb hby d12_14) (W := 0) (Nat.le_of_eq rfl) (by decide) ?_
  intro v2 T2 L2 X2 q2
  obtain ⟨rfl, N2q, e2⟩ := q2
  have N2 := Fr.app N1 N2q
  show own_Go p e below _ T2 (mkF m 17 #[rv b, iv 47, iv 3, .unset] [(.int 3)])
  refine og_istoreN X2 hx #[rv b, iv 47, iv 3, iv 3] (hb hby d12_17) rfl ?_
  refine og_iloadN X2 hx (hb hby d12_18) rfl ?_
  refine og_ifN X2 hx (hb hby d12_19) (flt (by decide)).1 ?_
  refine og_aloadN X2 hx (hb hby d12_22) rfl rfl ?_
  refine og_iloadN X2 hx (hb hby d12_23) rfl ?_
  refine own_ldB X2 hx hZ e2 Ab ⟨by decide, by decide⟩ rfl (hb hby d12_24) ?_
  show own_Go p e below _ T2 (mkF m 25 #[rv b, iv 47, iv 3, iv 3] [(.int c3.toInt8.toInt32)])
  refine og_iloadN X2 hx (hb hby d12_25) rfl ?_
  refine own_go (fun t k => XS.i2b X2.here hx rfl (hb hby d12_26) rfl k) ?_
  show own_Go p e below _ T2 (mkF m 27 #[rv b, iv 47, iv 3, iv 3] [(.int 47), (.int c3.toInt8.toInt32)])
  refine og_icN X2 hx (hb hby d12_27) (teq (by rw [hsl]; rfl)).2 ?_
  refine og_iloadN X2 hx (hb hby d12_30) rfl ?_
  exact own_retI X2 hx hret hlk (hb hby d12_31) rfl (by simp) (by decide) (by decide) (⟨rfl, N2, e2⟩)
def own_r_own_po_4_3 : Room := { frames := 4, cells := 2, slots := 4, locals := 58 }
theorem own_po_4_3 (l : Launch) (Z : State) (a0 : Array Value) (hw : own_W a0 Z) (z : Int32) (sf : Value) (t b : Addr) (kb : ClassId) (dv : Value) (c0 c1 c2 c3 : Int32) (h0 : Heap) (n0 : Nat) (hO : Old Z n0 h0) (hG : own_Gs Z z sf)  (hsl : c3 = 47) (Et : own_E Z h0 t) (Fv : own_V Z h0 t b) (Fc : own_C Z h0 t) (Ab : Arv Z h0 b kb .byte 4 [(.int c0.toInt8.toInt32), (.int c1.toInt8.toInt32), (.int c2.toInt8.toInt32), (.int c3.toInt8.toInt32)] dv) :
    own_MetH l Z own_EL (⟨"com/example/svazek/svazek/PackageFolder", "nameOf", "(Ljava/lang/String;)Ljava/lang/String;"⟩ : MethodName) prog_41_method_8_code 1 (some (.object "java/lang/String")) own_r_own_po_4_3 #[(.ref t)] h0 (own_Qe Z h0 n0) := by
  refine own_bodyH (by decide +kernel) ?_
  intro p e s m below meth c T0 X0 hx hZ hby hml hown hnm hret hlk e0 hS hk C0
  have hwS : ∀ a ∈ Bundle.stringAtoms, a.before a0 Z = true := fun d hd => hw d ((by decide +kernel : ∀ d ∈ Bundle.stringAtoms, d ∈ tables_1) d hd)
  have N0 := Fr.nil n0
  refine own_cast (own_frame (L := [rv t]) (ls := #[rv t]) rfl rfl) ?_
  obtain ⟨SC, hz, SF, rf⟩ := id hG
  refine og_aloadN X0 hx (hb hby d6_0) rfl rfl ?_
  refine og_aloadN X0 hx (hb hby d6_1) rfl rfl ?_
  refine og_bipush X0 hx (hb hby d6_2) ?_
  refine own_callV X0 hx hZ hown (own_hw hw 34 rfl) (own_hw hw 35 rfl) (notFace_of_selects (args := #[]) (mvT hZ (own_hw hw 37 rfl))) (own_hw hw 37 rfl) (own_hw hw 36 rfl) (own_hw hw 38 rfl) (own_hw hw 11 rfl) (by decide) (b := t) (argsL := [(.int 47)]) (rest := [(.ref t)]) (own_lic_4 l Z a0 hw z sf t b _ _ c0 c1 c2 c3 (3) h0 n0 hO hG (own_lia_4_3 l Z a0 hw b _ _ c0 c1 c2 c3 h0 n0 hsl Ab) Et Fv Fc Ab) e0 Et (by rw [hml]; rfl) (lenOf own_pd49053 rfl) rfl (hb hby d6_4) (W := 1) (Nat.le_of_eq rfl) (by decide) ?_
  intro v1 T1 L1 X1 q1
  obtain ⟨rfl, N1q, e1⟩ := q1
  have N1 := Fr.app N0 N1q
  show own_Go p e below _ T1 (mkF m 7 #[rv t] [(.int 3), (.ref t)])
  refine og_iconst X1 hx (hb hby d6_7) ?_
  refine og_iadd X1 hx (hb hby d6_8) ?_
  show own_Go p e below _ T1 (mkF m 9 #[rv t] [(.int 4), (.ref t)])
  refine own_callVH X1 hx hZ hown (own_hw hw 71 rfl) (own_hw hw 72 rfl) (notFace_of_selects (args := #[]) (mvT hZ (own_hw hw 74 rfl))) (own_hw hw 74 rfl) (own_hw hw 73 rfl) (own_hw hw 75 rfl) (own_hw hw 11 rfl) (by decide) (b := t) (argsL := [(.int 4)]) (rest := []) (own_sub1E l Z a0 hw z sf t b _ _ 4 _ h0 n0 hO hG (by decide) (by decide) Et Fv Fc Ab) (own_EW hw) C0.1 hS hk e1 Et (by rw [hml]; rfl) (lenOf own_pd44404 rfl) rfl (hb hby d6_9) (W := 0) (Nat.le_of_eq rfl) (by decide) ?_
  intro v2 T2 L2 X2 hS2 hZ2 hown2 C2q q2
  obtain ⟨t2, vb2, k2, rfl, N2q, K2q, Et2, Ft2, Ct2, At2⟩ := q2
  have N2 := Fr.app N1 N2q
  have C2 := C0.trans C2q
  have E_t_2 := Et.keep K2q
  have F_t_value_2 := Fv.keep K2q nin0
  have F_t_coder_2 := Fc.keep K2q nin0
  have A_b_2 := Ab.keep K2q nin0
  have O2 := hO.keep K2q all0
  have K2 := (Keep.refl h0 []).trans K2q all0
  show own_Go p e below _ T2 (mkF m 12 #[rv t] [(.ref t2)])
  exact own_retAH X2 hx hret hlk (hb hby d6_12) rfl rfl hZ2 (own_EW hw) C2 rfl hS2 (Nat.le_refl _) (by decide) (by decide) (⟨t2, vb2, _, rfl, N2, K2, Et2, Ft2, Ct2, At2⟩)
theorem d19_0 : decode method_3_code 0 = .ok (.iload_n 2, 1) := by decide +kernel
theorem d19_1 : decode method_3_code 1 = .ok (.iload_n 1, 1) := by decide +kernel
theorem d19_2 : decode method_3_code 2 = .ok (.if_icmp .lt 5, 3) := by decide +kernel
theorem d19_5 : decode method_3_code 5 = .ok (.iconst 1, 1) := by decide +kernel
theorem d19_6 : decode method_3_code 6 = .ok (.ireturn, 1) := by decide +kernel
def own_r_own_sm_0_0 : Room := { frames := 0, cells := 0, slots := 0, locals := 0 }
theorem own_sm_0_0 (l : Launch) (Z : State) (a0 : Array Value) (hw : own_W a0 Z) (t ca : Addr) (kk : Int32) (h0 : Heap) (n0 : Nat)  :
    own_Met l Z (⟨"com/example/svazek/svazek/PackageFolderNameOfPinLaw", "same", "(Ljava/lang/String;II[CI)Z"⟩ : MethodName) method_3_code 5 (some .boolean) own_r_own_sm_0_0 #[(.ref t), (.int 0), (.int 0), (.ref ca), (.int kk)] h0 (own_Qv (some (.int 1)) h0 n0) := by
  refine own_body (by decide +kernel) ?_
  intro p e s m below meth c T0 X0 hx hZ hby hml hown hnm hret hlk e0
  have N0 := Fr.nil n0
  refine own_cast (own_frame (L := [rv t, iv 0, iv 0, rv ca, iv kk]) (ls := #[rv t, iv 0, iv 0, rv ca, iv kk]) rfl rfl) ?_
  refine og_iloadN X0 hx (hb hby d19_0) rfl ?_
  refine og_iloadN X0 hx (hb hby d19_1) rfl ?_
  refine og_icN X0 hx (hb hby d19_2) (flt (by decide)).1 ?_
  refine og_iconst X0 hx (hb hby d19_5) ?_
  exact own_retI X0 hx hret hlk (hb hby d19_6) rfl (by simp) (by decide) (by decide) (⟨rfl, N0, e0⟩)
def own_r_own_sm_0_1 : Room := { frames := 0, cells := 0, slots := 0, locals := 0 }
theorem own_sm_0_1 (l : Launch) (Z : State) (a0 : Array Value) (hw : own_W a0 Z) (t ca : Addr) (kk : Int32) (h0 : Heap) (n0 : Nat)  :
    own_Met l Z (⟨"com/example/svazek/svazek/PackageFolderNameOfPinLaw", "same", "(Ljava/lang/String;II[CI)Z"⟩ : MethodName) method_3_code 5 (some .boolean) own_r_own_sm_0_1 #[(.ref t), (.int 0), (.int 1), (.ref ca), (.int kk)] h0 (own_Qv (some (.int 1)) h0 n0) := by
  refine own_body (by decide +kernel) ?_
  intro p e s m below meth c T0 X0 hx hZ hby hml hown hnm hret hlk e0
  have N0 := Fr.nil n0
  refine own_cast (own_frame (L := [rv t, iv 0, iv 1, rv ca, iv kk]) (ls := #[rv t, iv 0, iv 1, rv ca, iv kk]) rfl rfl) ?_
  refine og_iloadN X0 hx (hb hby d19_0) rfl ?_
  refine og_iloadN X0 hx (hb hby d19_1) rfl ?_
  refine og_icN X0 hx (hb hby d19_2) (flt (by decide)).1 ?_
  refine og_iconst X0 hx (hb hby d19_5) ?_
  exact own_retI X0 hx hret hlk (hb hby d19_6) rfl (by simp) (by decide) (by decide) (⟨rfl, N0, e0⟩)
def own_r_own_sm_0_2 : Room := { frames := 0, cells := 0, slots := 0, locals := 0 }
theorem own_sm_0_2 (l : Launch) (Z : State) (a0 : Array Value) (hw : own_W a0 Z) (t ca : Addr) (kk : Int32) (h0 : Heap) (n0 : Nat)  :
    own_Met l Z (⟨"com/example/svazek/svazek/PackageFolderNameOfPinLaw", "same", "(Ljava/lang/String;II[CI)Z"⟩ : MethodName) method_3_code 5 (some .boolean) own_r_own_sm_0_2 #[(.ref t), (.int 0), (.int 2), (.ref ca), (.int kk)] h0 (own_Qv (some (.int 1)) h0 n0) := by
  refine own_body (by decide +kernel) ?_
  intro p e s m below meth c T0 X0 hx hZ hby hml hown hnm hret hlk e0
  have N0 := Fr.nil n0
  refine own_cast (own_frame (L := [rv t, iv 0, iv 2, rv ca, iv kk]) (ls := #[rv t, iv 0, iv 2, rv ca, iv kk]) rfl rfl) ?_
  refine og_iloadN X0 hx (hb hby d19_0) rfl ?_
  refine og_iloadN X0 hx (hb hby d19_1) rfl ?_
  refine og_icN X0 hx (hb hby d19_2) (flt (by decide)).1 ?_
  refine og_iconst X0 hx (hb hby d19_5) ?_
  exact own_retI X0 hx hret hlk (hb hby d19_6) rfl (by simp) (by decide) (by decide) (⟨rfl, N0, e0⟩)
def own_r_own_sm_0_3 : Room := { frames := 0, cells := 0, slots := 0, locals := 0 }
theorem own_sm_0_3 (l : Launch) (Z : State) (a0 : Array Value) (hw : own_W a0 Z) (t ca : Addr) (kk : Int32) (h0 : Heap) (n0 : Nat)  :
    own_Met l Z (⟨"com/example/svazek/svazek/PackageFolderNameOfPinLaw", "same", "(Ljava/lang/String;II[CI)Z"⟩ : MethodName) method_3_code 5 (some .boolean) own_r_own_sm_0_3 #[(.ref t), (.int 0), (.int 3), (.ref ca), (.int kk)] h0 (own_Qv (some (.int 1)) h0 n0) := by
  refine own_body (by decide +kernel) ?_
  intro p e s m below meth c T0 X0 hx hZ hby hml hown hnm hret hlk e0
  have N0 := Fr.nil n0
  refine own_cast (own_frame (L := [rv t, iv 0, iv 3, rv ca, iv kk]) (ls := #[rv t, iv 0, iv 3, rv ca, iv kk]) rfl rfl) ?_
  refine og_iloadN X0 hx (hb hby d19_0) rfl ?_
  refine og_iloadN X0 hx (hb hby d19_1) rfl ?_
  refine og_icN X0 hx (hb hby d19_2) (flt (by decide)).1 ?_
  refine og_iconst X0 hx (hb hby d19_5) ?_
  exact own_retI X0 hx hret hlk (hb hby d19_6) rfl (by simp) (by decide) (by decide) (⟨rfl, N0, e0⟩)
def own_r_own_sm_1_1 : Room := { frames := 0, cells := 0, slots := 0, locals := 0 }
theorem own_sm_1_1 (l : Launch) (Z : State) (a0 : Array Value) (hw : own_W a0 Z) (t ca : Addr) (kk : Int32) (h0 : Heap) (n0 : Nat)  :
    own_Met l Z (⟨"com/example/svazek/svazek/PackageFolderNameOfPinLaw", "same", "(Ljava/lang/String;II[CI)Z"⟩ : MethodName) method_3_code 5 (some .boolean) own_r_own_sm_1_1 #[(.ref t), (.int 1), (.int 1), (.ref ca), (.int kk)] h0 (own_Qv (some (.int 1)) h0 n0) := by
  refine own_body (by decide +kernel) ?_
  intro p e s m below meth c T0 X0 hx hZ hby hml hown hnm hret hlk e0
  have N0 := Fr.nil n0
  refine own_cast (own_frame (L := [rv t, iv 1, iv 1, rv ca, iv kk]) (ls := #[rv t, iv 1, iv 1, rv ca, iv kk]) rfl rfl) ?_
  refine og_iloadN X0 hx (hb hby d19_0) rfl ?_
  refine og_iloadN X0 hx (hb hby d19_1) rfl ?_
  refine og_icN X0 hx (hb hby d19_2) (flt (by decide)).1 ?_
  refine og_iconst X0 hx (hb hby d19_5) ?_
  exact own_retI X0 hx hret hlk (hb hby d19_6) rfl (by simp) (by decide) (by decide) (⟨rfl, N0, e0⟩)
def own_r_own_sm_1_2 : Room := { frames := 0, cells := 0, slots := 0, locals := 0 }
theorem own_sm_1_2 (l : Launch) (Z : State) (a0 : Array Value) (hw : own_W a0 Z) (t ca : Addr) (kk : Int32) (h0 : Heap) (n0 : Nat)  :
    own_Met l Z (⟨"com/example/svazek/svazek/PackageFolderNameOfPinLaw", "same", "(Ljava/lang/String;II[CI)Z"⟩ : MethodName) method_3_code 5 (some .boolean) own_r_own_sm_1_2 #[(.ref t), (.int 1), (.int 2), (.ref ca), (.int kk)] h0 (own_Qv (some (.int 1)) h0 n0) := by
  refine own_body (by decide +kernel) ?_
  intro p e s m below meth c T0 X0 hx hZ hby hml hown hnm hret hlk e0
  have N0 := Fr.nil n0
  refine own_cast (own_frame (L := [rv t, iv 1, iv 2, rv ca, iv kk]) (ls := #[rv t, iv 1, iv 2, rv ca, iv kk]) rfl rfl) ?_
  refine og_iloadN X0 hx (hb hby d19_0) rfl ?_
  refine og_iloadN X0 hx (hb hby d19_1) rfl ?_
  refine og_icN X0 hx (hb hby d19_2) (flt (by decide)).1 ?_
  refine og_iconst X0 hx (hb hby d19_5) ?_
  exact own_retI X0 hx hret hlk (hb hby d19_6) rfl (by simp) (by decide) (by decide) (⟨rfl, N0, e0⟩)
def own_r_own_sm_1_3 : Room := { frames := 0, cells := 0, slots := 0, locals := 0 }
theorem own_sm_1_3 (l : Launch) (Z : State) (a0 : Array Value) (hw : own_W a0 Z) (t ca : Addr) (kk : Int32) (h0 : Heap) (n0 : Nat)  :
    own_Met l Z (⟨"com/example/svazek/svazek/PackageFolderNameOfPinLaw", "same", "(Ljava/lang/String;II[CI)Z"⟩ : MethodName) method_3_code 5 (some .boolean) own_r_own_sm_1_3 #[(.ref t), (.int 1), (.int 3), (.ref ca), (.int kk)] h0 (own_Qv (some (.int 1)) h0 n0) := by
  refine own_body (by decide +kernel) ?_
  intro p e s m below meth c T0 X0 hx hZ hby hml hown hnm hret hlk e0
  have N0 := Fr.nil n0
  refine own_cast (own_frame (L := [rv t, iv 1, iv 3, rv ca, iv kk]) (ls := #[rv t, iv 1, iv 3, rv ca, iv kk]) rfl rfl) ?_
  refine og_iloadN X0 hx (hb hby d19_0) rfl ?_
  refine og_iloadN X0 hx (hb hby d19_1) rfl ?_
  refine og_icN X0 hx (hb hby d19_2) (flt (by decide)).1 ?_
  refine og_iconst X0 hx (hb hby d19_5) ?_
  exact own_retI X0 hx hret hlk (hb hby d19_6) rfl (by simp) (by decide) (by decide) (⟨rfl, N0, e0⟩)
def own_r_own_sm_2_2 : Room := { frames := 0, cells := 0, slots := 0, locals := 0 }
theorem own_sm_2_2 (l : Launch) (Z : State) (a0 : Array Value) (hw : own_W a0 Z) (t ca : Addr) (kk : Int32) (h0 : Heap) (n0 : Nat)  :
    own_Met l Z (⟨"com/example/svazek/svazek/PackageFolderNameOfPinLaw", "same", "(Ljava/lang/String;II[CI)Z"⟩ : MethodName) method_3_code 5 (some .boolean) own_r_own_sm_2_2 #[(.ref t), (.int 2), (.int 2), (.ref ca), (.int kk)] h0 (own_Qv (some (.int 1)) h0 n0) := by
  refine own_body (by decide +kernel) ?_
  intro p e s m below meth c T0 X0 hx hZ hby hml hown hnm hret hlk e0
  have N0 := Fr.nil n0
  refine own_cast (own_frame (L := [rv t, iv 2, iv 2, rv ca, iv kk]) (ls := #[rv t, iv 2, iv 2, rv ca, iv kk]) rfl rfl) ?_
  refine og_iloadN X0 hx (hb hby d19_0) rfl ?_
  refine og_iloadN X0 hx (hb hby d19_1) rfl ?_
  refine og_icN X0 hx (hb hby d19_2) (flt (by decide)).1 ?_
  refine og_iconst X0 hx (hb hby d19_5) ?_
  exact own_retI X0 hx hret hlk (hb hby d19_6) rfl (by simp) (by decide) (by decide) (⟨rfl, N0, e0⟩)
def own_r_own_sm_2_3 : Room := { frames := 0, cells := 0, slots := 0, locals := 0 }
theorem own_sm_2_3 (l : Launch) (Z : State) (a0 : Array Value) (hw : own_W a0 Z) (t ca : Addr) (kk : Int32) (h0 : Heap) (n0 : Nat)  :
    own_Met l Z (⟨"com/example/svazek/svazek/PackageFolderNameOfPinLaw", "same", "(Ljava/lang/String;II[CI)Z"⟩ : MethodName) method_3_code 5 (some .boolean) own_r_own_sm_2_3 #[(.ref t), (.int 2), (.int 3), (.ref ca), (.int kk)] h0 (own_Qv (some (.int 1)) h0 n0) := by
  refine own_body (by decide +kernel) ?_
  intro p e s m below meth c T0 X0 hx hZ hby hml hown hnm hret hlk e0
  have N0 := Fr.nil n0
  refine own_cast (own_frame (L := [rv t, iv 2, iv 3, rv ca, iv kk]) (ls := #[rv t, iv 2, iv 3, rv ca, iv kk]) rfl rfl) ?_
  refine og_iloadN X0 hx (hb hby d19_0) rfl ?_
  refine og_iloadN X0 hx (hb hby d19_1) rfl ?_
  refine og_icN X0 hx (hb hby d19_2) (flt (by decide)).1 ?_
  refine og_iconst X0 hx (hb hby d19_5) ?_
  exact own_retI X0 hx hret hlk (hb hby d19_6) rfl (by simp) (by decide) (by decide) (⟨rfl, N0, e0⟩)
def own_r_own_sm_3_3 : Room := { frames := 0, cells := 0, slots := 0, locals := 0 }
theorem own_sm_3_3 (l : Launch) (Z : State) (a0 : Array Value) (hw : own_W a0 Z) (t ca : Addr) (kk : Int32) (h0 : Heap) (n0 : Nat)  :
    own_Met l Z (⟨"com/example/svazek/svazek/PackageFolderNameOfPinLaw", "same", "(Ljava/lang/String;II[CI)Z"⟩ : MethodName) method_3_code 5 (some .boolean) own_r_own_sm_3_3 #[(.ref t), (.int 3), (.int 3), (.ref ca), (.int kk)] h0 (own_Qv (some (.int 1)) h0 n0) := by
  refine own_body (by decide +kernel) ?_
  intro p e s m below meth c T0 X0 hx hZ hby hml hown hnm hret hlk e0
  have N0 := Fr.nil n0
  refine own_cast (own_frame (L := [rv t, iv 3, iv 3, rv ca, iv kk]) (ls := #[rv t, iv 3, iv 3, rv ca, iv kk]) rfl rfl) ?_
  refine og_iloadN X0 hx (hb hby d19_0) rfl ?_
  refine og_iloadN X0 hx (hb hby d19_1) rfl ?_
  refine og_icN X0 hx (hb hby d19_2) (flt (by decide)).1 ?_
  refine og_iconst X0 hx (hb hby d19_5) ?_
  exact own_retI X0 hx hret hlk (hb hby d19_6) rfl (by simp) (by decide) (by decide) (⟨rfl, N0, e0⟩)
theorem d27_0 : decode jdk_41_method_11_code 0 = .ok (.iload_n 0, 1) := by decide +kernel
theorem d27_1 : decode jdk_41_method_11_code 1 = .ok (.ifCond .lt 8, 3) := by decide +kernel
theorem d27_4 : decode jdk_41_method_11_code 4 = .ok (.iload_n 0, 1) := by decide +kernel
theorem d27_5 : decode jdk_41_method_11_code 5 = .ok (.iload_n 1, 1) := by decide +kernel
theorem d27_6 : decode jdk_41_method_11_code 6 = .ok (.if_icmp .lt 10, 3) := by decide +kernel
theorem d27_16 : decode jdk_41_method_11_code 16 = .ok (.iload_n 0, 1) := by decide +kernel
theorem d27_17 : decode jdk_41_method_11_code 17 = .ok (.ireturn, 1) := by decide +kernel
def own_r_own_pck : Room := { frames := 0, cells := 0, slots := 0, locals := 0 }
theorem own_pck (l : Launch) (Z : State) (a0 : Array Value) (hw : own_W a0 Z) (i n : Int32) (sf : Value) (h0 : Heap) (n0 : Nat) (rf : sf.isRef = true) (h1 : ¬ i < 0) (h2 : i < n) :
    own_Met l Z (⟨"jdk/internal/util/Preconditions", "checkIndex", "(IILjava/util/function/BiFunction;)I"⟩ : MethodName) jdk_41_method_11_code 3 (some .int) own_r_own_pck #[(.int i), (.int n), sf] h0 (own_Qv (some (.int i)) h0 n0) := by
  refine own_body (by decide +kernel) ?_
  intro p e s m below meth c T0 X0 hx hZ hby hml hown hnm hret hlk e0
  have N0 := Fr.nil n0
  refine own_cast (own_frame (L := [iv i, iv n, .val sf]) (ls := #[iv i, iv n, .val sf]) (congrArg (fun q => iv i :: iv n :: q) (own_laid1 rf)) rfl) ?_
  refine og_iloadN X0 hx (hb hby d27_0) rfl ?_
  refine og_ifN X0 hx (hb hby d27_1) (flt h1).1 ?_
  refine og_iloadN X0 hx (hb hby d27_4) rfl ?_
  refine og_iloadN X0 hx (hb hby d27_5) rfl ?_
  refine og_icY X0 hx 16 (hb hby d27_6) (tlt h2).1 (by decide) (by decide) ?_
  refine og_iloadN X0 hx (hb hby d27_16) rfl ?_
  exact own_retI X0 hx hret hlk (hb hby d27_17) rfl (by simp) (by decide) (by decide) (⟨rfl, N0, e0⟩)
theorem d26_0 : decode jdk_42_method_155_code 0 = .ok (.iload_n 0, 1) := by decide +kernel
theorem d26_1 : decode jdk_42_method_155_code 1 = .ok (.iload_n 1, 1) := by decide +kernel
theorem d26_2 : decode jdk_42_method_155_code 2 = .ok (.getstatic 1053, 3) := by decide +kernel
theorem d26_5 : decode jdk_42_method_155_code 5 = .ok (.invokestatic 1059, 3) := by decide +kernel
theorem d26_8 : decode jdk_42_method_155_code 8 = .ok (.pop, 1) := by decide +kernel
theorem d26_9 : decode jdk_42_method_155_code 9 = .ok (.return_, 1) := by decide +kernel
theorem own_pd6315 : parseMethodDescriptor "(IILjava/util/function/BiFunction;)I" = some ⟨[.int, .int, (.object "java/util/function/BiFunction")], some .int⟩ := by decide +kernel
def own_r_own_sck : Room := { frames := 1, cells := 0, slots := 0, locals := 14 }
theorem own_sck (l : Launch) (Z : State) (a0 : Array Value) (hw : own_W a0 Z) (z : Int32) (sf : Value) (i n : Int32) (h0 : Heap) (n0 : Nat) (hO : Old Z n0 h0) (hG : own_Gs Z z sf) (h1 : ¬ i < 0) (h2 : i < n) :
    own_Met l Z (⟨"java/lang/String", "checkIndex", "(II)V"⟩ : MethodName) jdk_42_method_155_code 2 none own_r_own_sck #[(.int i), (.int n)] h0 (own_Qv none h0 n0) := by
  refine own_body (by decide +kernel) ?_
  intro p e s m below meth c T0 X0 hx hZ hby hml hown hnm hret hlk e0
  have N0 := Fr.nil n0
  refine own_cast (own_frame (L := [iv i, iv n]) (ls := #[iv i, iv n]) rfl rfl) ?_
  obtain ⟨SC, hz, SF, rf⟩ := id hG
  refine og_iloadN X0 hx (hb hby d26_0) rfl ?_
  refine og_iloadN X0 hx (hb hby d26_1) rfl ?_
  refine og_getS X0 hx hZ hown (own_hw hw 84 rfl) Via.refl e0 (SF.ext hO.2) (hb hby d26_2) ?_
  intro T1 X1 e1
  show own_Go p e below _ T1 (mkF m 5 #[iv i, iv n] [sf, (.int n), (.int i)])
  refine own_callS X1 hx hZ hown (own_hw hw 118 rfl) (own_hw hw 119 rfl) (own_hw hw 85 rfl) (own_hw hw 120 rfl) (by decide) (argsL := [(.int i), (.int n), sf]) (rest := []) (own_pck l Z a0 hw i n sf h0 n0 rf h1 h2) e1 (by rw [hml]; rfl) (lenOf own_pd6315 rfl) rfl (hb hby d26_5) (W := 0) (Nat.le_of_eq rfl) (by decide) ?_
  intro v2 T2 L2 X2 q2
  obtain ⟨rfl, N2q, e2⟩ := q2
  have N2 := Fr.app N0 N2q
  show own_Go p e below _ T2 (mkF m 8 #[iv i, iv n] [(.int i)])
  refine og_pop X2 hx (hb hby d26_8) rfl ?_
  exact own_retV X2 hx hret hlk (hb hby d26_9) (by decide) (by decide) (⟨rfl, N2, e2⟩)
theorem d25_0 : decode jdk_43_method_2_code 0 = .ok (.iload_n 1, 1) := by decide +kernel
theorem d25_1 : decode jdk_43_method_2_code 1 = .ok (.aload_n 0, 1) := by decide +kernel
theorem d25_2 : decode jdk_43_method_2_code 2 = .ok (.arraylength, 1) := by decide +kernel
theorem d25_3 : decode jdk_43_method_2_code 3 = .ok (.invokestatic 9, 3) := by decide +kernel
theorem d25_6 : decode jdk_43_method_2_code 6 = .ok (.aload_n 0, 1) := by decide +kernel
theorem d25_7 : decode jdk_43_method_2_code 7 = .ok (.iload_n 1, 1) := by decide +kernel
theorem d25_8 : decode jdk_43_method_2_code 8 = .ok (.baload, 1) := by decide +kernel
theorem d25_9 : decode jdk_43_method_2_code 9 = .ok (.sipush 255, 3) := by decide +kernel
theorem d25_12 : decode jdk_43_method_2_code 12 = .ok (.iand, 1) := by decide +kernel
theorem d25_13 : decode jdk_43_method_2_code 13 = .ok (.i2c, 1) := by decide +kernel
theorem d25_14 : decode jdk_43_method_2_code 14 = .ok (.ireturn, 1) := by decide +kernel
def own_r_own_lca_0_1 : Room := { frames := 2, cells := 0, slots := 0, locals := 27 }
theorem own_lca_0_1 (l : Launch) (Z : State) (a0 : Array Value) (hw : own_W a0 Z) (z : Int32) (sf : Value) (b : Addr) (kb : ClassId) (dv : Value) (ch : Int32) (h0 : Heap) (n0 : Nat) (hO : Old Z n0 h0) (hG : own_Gs Z z sf) (hc : ¬ ch < 0 ∧ ¬ (255 : Int32) < ch) (Ab : Arv Z h0 b kb .byte 1 [(.int ch.toInt8.toInt32)] dv) :
    own_Met l Z (⟨"java/lang/StringLatin1", "charAt", "([BI)C"⟩ : MethodName) jdk_43_method_2_code 2 (some .char) own_r_own_lca_0_1 #[(.ref b), (.int 0)] h0 (own_Qv (some (.int ch)) h0 n0) := by
  refine own_body (by decide +kernel) ?_
  intro p e s m below meth c T0 X0 hx hZ hby hml hown hnm hret hlk e0
  have N0 := Fr.nil n0
  refine own_cast (own_frame (L := [rv b, iv 0]) (ls := #[rv b, iv 0]) rfl rfl) ?_
  obtain ⟨SC, hz, SF, rf⟩ := id hG
  refine og_iloadN X0 hx (hb hby d25_0) rfl ?_
  refine og_aloadN X0 hx (hb hby d25_1) rfl rfl ?_
  refine own_len X0 hx hZ e0 Ab (hb hby d25_2) ?_
  show own_Go p e below _ T0 (mkF m 3 #[rv b, iv 0] [(.int 1), (.int 0)])
  refine own_callS X0 hx hZ hown (own_hw hw 115 rfl) (own_hw hw 116 rfl) (own_hw hw 11 rfl) (own_hw hw 117 rfl) (by decide) (argsL := [(.int 0), (.int 1)]) (rest := []) (own_sck l Z a0 hw z sf 0 1 h0 n0 hO hG (by decide) (by decide)) e0 (by rw [hml]; rfl) (lenOf own_pd97226 rfl) rfl (hb hby d25_3) (W := 0) (Nat.le_of_eq rfl) (by decide) ?_
  intro v1 T1 L1 X1 q1
  obtain ⟨rfl, N1q, e1⟩ := q1
  have N1 := Fr.app N0 N1q
  show own_Go p e below _ T1 (mkF m 6 #[rv b, iv 0] [])
  refine og_aloadN X1 hx (hb hby d25_6) rfl rfl ?_
  refine og_iloadN X1 hx (hb hby d25_7) rfl ?_
  refine own_ldB X1 hx hZ e1 Ab ⟨by decide, by decide⟩ rfl (hb hby d25_8) ?_
  show own_Go p e below _ T1 (mkF m 9 #[rv b, iv 0] [(.int ch.toInt8.toInt32)])
  refine og_sipush X1 hx (hb hby d25_9) ?_
  refine og_iand X1 hx (hb hby d25_12) ?_
  show own_Go p e below _ T1 (mkF m 13 #[rv b, iv 0] [(.int (ch.toInt8.toInt32 &&& 255))])
  rw [own_rt ch hc]
  show own_Go p e below _ T1 (mkF m 13 #[rv b, iv 0] [(.int ch)])
  refine own_go (fun t k => XS.i2c X1.here hx rfl (hb hby d25_13) rfl k) ?_
  show own_Go p e below _ T1 (mkF m 14 #[rv b, iv 0] [(.int (ch.toUInt32.toUInt16.toUInt32.toInt32))])
  rw [own_ic ch hc]
  show own_Go p e below _ T1 (mkF m 14 #[rv b, iv 0] [(.int ch)])
  exact own_retI X1 hx hret hlk (hb hby d25_14) (own_nc ch hc) (by simp) (by decide) (by decide) (⟨rfl, N1, e1⟩)
theorem d24_0 : decode jdk_42_method_56_code 0 = .ok (.aload_n 0, 1) := by decide +kernel
theorem d24_1 : decode jdk_42_method_56_code 1 = .ok (.invokevirtual 492, 3) := by decide +kernel
theorem d24_4 : decode jdk_42_method_56_code 4 = .ok (.ifCond .eq 12, 3) := by decide +kernel
theorem d24_7 : decode jdk_42_method_56_code 7 = .ok (.aload_n 0, 1) := by decide +kernel
theorem d24_8 : decode jdk_42_method_56_code 8 = .ok (.getfield 9, 3) := by decide +kernel
theorem d24_11 : decode jdk_42_method_56_code 11 = .ok (.iload_n 1, 1) := by decide +kernel
theorem d24_12 : decode jdk_42_method_56_code 12 = .ok (.invokestatic 495, 3) := by decide +kernel
theorem d24_15 : decode jdk_42_method_56_code 15 = .ok (.ireturn, 1) := by decide +kernel
theorem own_pd27418 : parseMethodDescriptor "([BI)C" = some ⟨[(.array .byte), .int], some .char⟩ := by decide +kernel
def own_r_own_ca_0_1 : Room := { frames := 3, cells := 0, slots := 0, locals := 40 }
theorem own_ca_0_1 (l : Launch) (Z : State) (a0 : Array Value) (hw : own_W a0 Z) (z : Int32) (sf : Value) (t b : Addr) (kb : ClassId) (dv : Value) (ch : Int32) (h0 : Heap) (n0 : Nat) (hO : Old Z n0 h0) (hG : own_Gs Z z sf) (hc : ¬ ch < 0 ∧ ¬ (255 : Int32) < ch) (Et : own_E Z h0 t) (Fv : own_V Z h0 t b) (Fc : own_C Z h0 t) (Ab : Arv Z h0 b kb .byte 1 [(.int ch.toInt8.toInt32)] dv) :
    own_Met l Z (⟨"java/lang/String", "charAt", "(I)C"⟩ : MethodName) jdk_42_method_56_code 2 (some .char) own_r_own_ca_0_1 #[(.ref t), (.int 0)] h0 (own_Qv (some (.int ch)) h0 n0) := by
  refine own_body (by decide +kernel) ?_
  intro p e s m below meth c T0 X0 hx hZ hby hml hown hnm hret hlk e0
  have N0 := Fr.nil n0
  refine own_cast (own_frame (L := [rv t, iv 0]) (ls := #[rv t, iv 0]) rfl rfl) ?_
  obtain ⟨SC, hz, SF, rf⟩ := id hG
  refine og_aloadN X0 hx (hb hby d24_0) rfl rfl ?_
  refine own_callV X0 hx hZ hown (own_hw hw 55 rfl) (own_hw hw 56 rfl) (notFace_of_selects (args := #[]) (mvT hZ (own_hw hw 58 rfl))) (own_hw hw 58 rfl) (own_hw hw 57 rfl) (own_hw hw 59 rfl) (own_hw hw 11 rfl) (by decide) (b := t) (argsL := []) (rest := []) (own_isl1 l Z a0 hw z sf t h0 n0 hO hG Fc) e0 Et (by rw [hml]; rfl) (lenOf own_pd61835 rfl) rfl (hb hby d24_1) (W := 0) (Nat.le_of_eq rfl) (by decide) ?_
  intro v1 T1 L1 X1 q1
  obtain ⟨rfl, N1q, e1⟩ := q1
  have N1 := Fr.app N0 N1q
  show own_Go p e below _ T1 (mkF m 4 #[rv t, iv 0] [(.int (1 : Int32))])
  refine og_ifN X1 hx (hb hby d24_4) (feq (by decide)).1 ?_
  refine og_aloadN X1 hx (hb hby d24_7) rfl rfl ?_
  refine og_getF X1 hx hZ hown (own_hw hw 28 rfl) Via.refl e1 Fv (hb hby d24_8) ?_
  intro T2 X2 e2
  refine og_iloadN X2 hx (hb hby d24_11) rfl ?_
  refine own_callS X2 hx hZ hown (own_hw hw 112 rfl) (own_hw hw 113 rfl) (own_hw hw 62 rfl) (own_hw hw 114 rfl) (by decide) (argsL := [(.ref b), (.int 0)]) (rest := []) (own_lca_0_1 l Z a0 hw z sf b _ _ ch h0 n0 hO hG hc Ab) e2 (by rw [hml]; rfl) (lenOf own_pd27418 rfl) rfl (hb hby d24_12) (W := 0) (Nat.le_of_eq rfl) (by decide) ?_
  intro v3 T3 L3 X3 q3
  obtain ⟨rfl, N3q, e3⟩ := q3
  have N3 := Fr.app N1 N3q
  show own_Go p e below _ T3 (mkF m 15 #[rv t, iv 0] [(.int ch)])
  exact own_retI X3 hx hret hlk (hb hby d24_15) (own_nc ch hc) (by simp) (by decide) (by decide) (⟨rfl, N3, e3⟩)
theorem d19_7 : decode method_3_code 7 = .ok (.aload_n 0, 1) := by decide +kernel
theorem d19_8 : decode method_3_code 8 = .ok (.iload_n 2, 1) := by decide +kernel
theorem d19_9 : decode method_3_code 9 = .ok (.invokevirtual 37, 3) := by decide +kernel
theorem d19_12 : decode method_3_code 12 = .ok (.aload_n 3, 1) := by decide +kernel
theorem d19_13 : decode method_3_code 13 = .ok (.iload 4, 2) := by decide +kernel
theorem d19_15 : decode method_3_code 15 = .ok (.iconst 1, 1) := by decide +kernel
theorem d19_16 : decode method_3_code 16 = .ok (.iadd, 1) := by decide +kernel
theorem d19_17 : decode method_3_code 17 = .ok (.iload_n 2, 1) := by decide +kernel
theorem d19_18 : decode method_3_code 18 = .ok (.iadd, 1) := by decide +kernel
theorem d19_19 : decode method_3_code 19 = .ok (.caload, 1) := by decide +kernel
theorem d19_20 : decode method_3_code 20 = .ok (.if_icmp .ne 7, 3) := by decide +kernel
theorem d19_23 : decode method_3_code 23 = .ok (.iconst 1, 1) := by decide +kernel
theorem d19_24 : decode method_3_code 24 = .ok (.goto 4, 3) := by decide +kernel
theorem d19_28 : decode method_3_code 28 = .ok (.ireturn, 1) := by decide +kernel
theorem own_pd47939 : parseMethodDescriptor "(I)C" = some ⟨[.int], some .char⟩ := by decide +kernel
def own_r_own_sm_1_0_m1 : Room := { frames := 4, cells := 0, slots := 0, locals := 53 }
theorem own_sm_1_0_m1 (l : Launch) (Z : State) (a0 : Array Value) (hw : own_W a0 Z) (z : Int32) (sf : Value) (t b : Addr) (kb : ClassId) (dv : Value) (ca : Addr) (kc : ClassId) (dc : Value) (c0 c1 c2 c3 : Int32) (h0 : Heap) (n0 : Nat) (hO : Old Z n0 h0) (hG : own_Gs Z z sf) (hc : ¬ c0 < 0 ∧ ¬ (255 : Int32) < c0) (Et : own_E Z h0 t) (Fv : own_V Z h0 t b) (Fc : own_C Z h0 t) (Ab : Arv Z h0 b kb .byte 1 [(.int c0.toInt8.toInt32)] dv) (Ac : Arv Z h0 ca kc .char (4 : Int32) [.int c0, .int c1, .int c2, .int c3] dc) :
    own_Met l Z (⟨"com/example/svazek/svazek/PackageFolderNameOfPinLaw", "same", "(Ljava/lang/String;II[CI)Z"⟩ : MethodName) method_3_code 5 (some .boolean) own_r_own_sm_1_0_m1 #[(.ref t), (.int 1), (.int 0), (.ref ca), (.int (-1))] h0 (own_Qv (some (.int 1)) h0 n0) := by
  refine own_body (by decide +kernel) ?_
  intro p e s m below meth c T0 X0 hx hZ hby hml hown hnm hret hlk e0
  have N0 := Fr.nil n0
  refine own_cast (own_frame (L := [rv t, iv 1, iv 0, rv ca, iv (-1)]) (ls := #[rv t, iv 1, iv 0, rv ca, iv (-1)]) rfl rfl) ?_
  obtain ⟨SC, hz, SF, rf⟩ := id hG
  refine og_iloadN X0 hx (hb hby d19_0) rfl ?_
  refine og_iloadN X0 hx (hb hby d19_1) rfl ?_
  refine og_icY X0 hx 7 (hb hby d19_2) (tlt (by decide)).1 (by decide) (by decide) ?_
  refine og_aloadN X0 hx (hb hby d19_7) rfl rfl ?_
  refine og_iloadN X0 hx (hb hby d19_8) rfl ?_
  refine own_callV X0 hx hZ hown (own_hw hw 107 rfl) (own_hw hw 108 rfl) (notFace_of_selects (args := #[]) (mvT hZ (own_hw hw 110 rfl))) (own_hw hw 110 rfl) (own_hw hw 109 rfl) (own_hw hw 111 rfl) (own_hw hw 11 rfl) (by decide) (b := t) (argsL := [(.int 0)]) (rest := []) (own_ca_0_1 l Z a0 hw z sf t b _ _ c0 h0 n0 hO hG hc Et Fv Fc Ab) e0 Et (by rw [hml]; rfl) (lenOf own_pd47939 rfl) rfl (hb hby d19_9) (W := 0) (Nat.le_of_eq rfl) (by decide) ?_
  intro v1 T1 L1 X1 q1
  obtain ⟨rfl, N1q, e1⟩ := q1
  have N1 := Fr.app N0 N1q
  show own_Go p e below _ T1 (mkF m 12 #[rv t, iv 1, iv 0, rv ca, iv (-1)] [(.int c0)])
  refine og_aloadN X1 hx (hb hby d19_12) rfl rfl ?_
  refine og_iload X1 hx (hb hby d19_13) rfl ?_
  refine og_iconst X1 hx (hb hby d19_15) ?_
  refine og_iadd X1 hx (hb hby d19_16) ?_
  refine og_iloadN X1 hx (hb hby d19_17) rfl ?_
  refine og_iadd X1 hx (hb hby d19_18) ?_
  show own_Go p e below _ T1 (mkF m 19 #[rv t, iv 1, iv 0, rv ca, iv (-1)] [(.int 0), (.ref ca), (.int c0)])
  refine own_ldC X1 hx hZ e1 Ac ⟨by decide, by decide⟩ rfl (hb hby d19_19) ?_
  show own_Go p e below _ T1 (mkF m 20 #[rv t, iv 1, iv 0, rv ca, iv (-1)] [(.int c0), (.int c0)])
  refine og_icN X1 hx (hb hby d19_20) (teq rfl).2 ?_
  refine og_iconst X1 hx (hb hby d19_23) ?_
  refine og_goto X1 hx 28 (hb hby d19_24) (by decide) (by decide) ?_
  exact own_retI X1 hx hret hlk (hb hby d19_28) rfl (by simp) (by decide) (by decide) (⟨rfl, N1, e1⟩)
def own_r_own_lca_0_2 : Room := { frames := 2, cells := 0, slots := 0, locals := 27 }
theorem own_lca_0_2 (l : Launch) (Z : State) (a0 : Array Value) (hw : own_W a0 Z) (z : Int32) (sf : Value) (b : Addr) (kb : ClassId) (dv : Value) (ch : Int32) (v1 : Value) (h0 : Heap) (n0 : Nat) (hO : Old Z n0 h0) (hG : own_Gs Z z sf) (hc : ¬ ch < 0 ∧ ¬ (255 : Int32) < ch) (Ab : Arv Z h0 b kb .byte 2 [(.int ch.toInt8.toInt32), v1] dv) :
    own_Met l Z (⟨"java/lang/StringLatin1", "charAt", "([BI)C"⟩ : MethodName) jdk_43_method_2_code 2 (some .char) own_r_own_lca_0_2 #[(.ref b), (.int 0)] h0 (own_Qv (some (.int ch)) h0 n0) := by
  refine own_body (by decide +kernel) ?_
  intro p e s m below meth c T0 X0 hx hZ hby hml hown hnm hret hlk e0
  have N0 := Fr.nil n0
  refine own_cast (own_frame (L := [rv b, iv 0]) (ls := #[rv b, iv 0]) rfl rfl) ?_
  obtain ⟨SC, hz, SF, rf⟩ := id hG
  refine og_iloadN X0 hx (hb hby d25_0) rfl ?_
  refine og_aloadN X0 hx (hb hby d25_1) rfl rfl ?_
  refine own_len X0 hx hZ e0 Ab (hb hby d25_2) ?_
  show own_Go p e below _ T0 (mkF m 3 #[rv b, iv 0] [(.int 2), (.int 0)])
  refine own_callS X0 hx hZ hown (own_hw hw 115 rfl) (own_hw hw 116 rfl) (own_hw hw 11 rfl) (own_hw hw 117 rfl) (by decide) (argsL := [(.int 0), (.int 2)]) (rest := []) (own_sck l Z a0 hw z sf 0 2 h0 n0 hO hG (by decide) (by decide)) e0 (by rw [hml]; rfl) (lenOf own_pd97226 rfl) rfl (hb hby d25_3) (W := 0) (Nat.le_of_eq rfl) (by decide) ?_
  intro v1 T1 L1 X1 q1
  obtain ⟨rfl, N1q, e1⟩ := q1
  have N1 := Fr.app N0 N1q
  show own_Go p e below _ T1 (mkF m 6 #[rv b, iv 0] [])
  refine og_aloadN X1 hx (hb hby d25_6) rfl rfl ?_
  refine og_iloadN X1 hx (hb hby d25_7) rfl ?_
  refine own_ldB X1 hx hZ e1 Ab ⟨by decide, by decide⟩ rfl (hb hby d25_8) ?_
  show own_Go p e below _ T1 (mkF m 9 #[rv b, iv 0] [(.int ch.toInt8.toInt32)])
  refine og_sipush X1 hx (hb hby d25_9) ?_
  refine og_iand X1 hx (hb hby d25_12) ?_
  show own_Go p e below _ T1 (mkF m 13 #[rv b, iv 0] [(.int (ch.toInt8.toInt32 &&& 255))])
  rw [own_rt ch hc]
  show own_Go p e below _ T1 (mkF m 13 #[rv b, iv 0] [(.int ch)])
  refine own_go (fun t k => XS.i2c X1.here hx rfl (hb hby d25_13) rfl k) ?_
  show own_Go p e below _ T1 (mkF m 14 #[rv b, iv 0] [(.int (ch.toUInt32.toUInt16.toUInt32.toInt32))])
  rw [own_ic ch hc]
  show own_Go p e below _ T1 (mkF m 14 #[rv b, iv 0] [(.int ch)])
  exact own_retI X1 hx hret hlk (hb hby d25_14) (own_nc ch hc) (by simp) (by decide) (by decide) (⟨rfl, N1, e1⟩)
def own_r_own_ca_0_2 : Room := { frames := 3, cells := 0, slots := 0, locals := 40 }
theorem own_ca_0_2 (l : Launch) (Z : State) (a0 : Array Value) (hw : own_W a0 Z) (z : Int32) (sf : Value) (t b : Addr) (kb : ClassId) (dv : Value) (ch : Int32) (v1 : Value) (h0 : Heap) (n0 : Nat) (hO : Old Z n0 h0) (hG : own_Gs Z z sf) (hc : ¬ ch < 0 ∧ ¬ (255 : Int32) < ch) (Et : own_E Z h0 t) (Fv : own_V Z h0 t b) (Fc : own_C Z h0 t) (Ab : Arv Z h0 b kb .byte 2 [(.int ch.toInt8.toInt32), v1] dv) :
    own_Met l Z (⟨"java/lang/String", "charAt", "(I)C"⟩ : MethodName) jdk_42_method_56_code 2 (some .char) own_r_own_ca_0_2 #[(.ref t), (.int 0)] h0 (own_Qv (some (.int ch)) h0 n0) := by
  refine own_body (by decide +kernel) ?_
  intro p e s m below meth c T0 X0 hx hZ hby hml hown hnm hret hlk e0
  have N0 := Fr.nil n0
  refine own_cast (own_frame (L := [rv t, iv 0]) (ls := #[rv t, iv 0]) rfl rfl) ?_
  obtain ⟨SC, hz, SF, rf⟩ := id hG
  refine og_aloadN X0 hx (hb hby d24_0) rfl rfl ?_
  refine own_callV X0 hx hZ hown (own_hw hw 55 rfl) (own_hw hw 56 rfl) (notFace_of_selects (args := #[]) (mvT hZ (own_hw hw 58 rfl))) (own_hw hw 58 rfl) (own_hw hw 57 rfl) (own_hw hw 59 rfl) (own_hw hw 11 rfl) (by decide) (b := t) (argsL := []) (rest := []) (own_isl1 l Z a0 hw z sf t h0 n0 hO hG Fc) e0 Et (by rw [hml]; rfl) (lenOf own_pd61835 rfl) rfl (hb hby d24_1) (W := 0) (Nat.le_of_eq rfl) (by decide) ?_
  intro v1 T1 L1 X1 q1
  obtain ⟨rfl, N1q, e1⟩ := q1
  have N1 := Fr.app N0 N1q
  show own_Go p e below _ T1 (mkF m 4 #[rv t, iv 0] [(.int (1 : Int32))])
  refine og_ifN X1 hx (hb hby d24_4) (feq (by decide)).1 ?_
  refine og_aloadN X1 hx (hb hby d24_7) rfl rfl ?_
  refine og_getF X1 hx hZ hown (own_hw hw 28 rfl) Via.refl e1 Fv (hb hby d24_8) ?_
  intro T2 X2 e2
  refine og_iloadN X2 hx (hb hby d24_11) rfl ?_
  refine own_callS X2 hx hZ hown (own_hw hw 112 rfl) (own_hw hw 113 rfl) (own_hw hw 62 rfl) (own_hw hw 114 rfl) (by decide) (argsL := [(.ref b), (.int 0)]) (rest := []) (own_lca_0_2 l Z a0 hw z sf b _ _ ch v1 h0 n0 hO hG hc Ab) e2 (by rw [hml]; rfl) (lenOf own_pd27418 rfl) rfl (hb hby d24_12) (W := 0) (Nat.le_of_eq rfl) (by decide) ?_
  intro v3 T3 L3 X3 q3
  obtain ⟨rfl, N3q, e3⟩ := q3
  have N3 := Fr.app N1 N3q
  show own_Go p e below _ T3 (mkF m 15 #[rv t, iv 0] [(.int ch)])
  exact own_retI X3 hx hret hlk (hb hby d24_15) (own_nc ch hc) (by simp) (by decide) (by decide) (⟨rfl, N3, e3⟩)
def own_r_own_sm_2_0_m1 : Room := { frames := 4, cells := 0, slots := 0, locals := 53 }
theorem own_sm_2_0_m1 (l : Launch) (Z : State) (a0 : Array Value) (hw : own_W a0 Z) (z : Int32) (sf : Value) (t b : Addr) (kb : ClassId) (dv : Value) (ca : Addr) (kc : ClassId) (dc : Value) (c0 c1 c2 c3 : Int32) (h0 : Heap) (n0 : Nat) (hO : Old Z n0 h0) (hG : own_Gs Z z sf) (hc : ¬ c0 < 0 ∧ ¬ (255 : Int32) < c0) (Et : own_E Z h0 t) (Fv : own_V Z h0 t b) (Fc : own_C Z h0 t) (Ab : Arv Z h0 b kb .byte 2 [(.int c0.toInt8.toInt32), (.int c1.toInt8.toInt32)] dv) (Ac : Arv Z h0 ca kc .char (4 : Int32) [.int c0, .int c1, .int c2, .int c3] dc) :
    own_Met l Z (⟨"com/example/svazek/svazek/PackageFolderNameOfPinLaw", "same", "(Ljava/lang/String;II[CI)Z"⟩ : MethodName) method_3_code 5 (some .boolean) own_r_own_sm_2_0_m1 #[(.ref t), (.int 2), (.int 0), (.ref ca), (.int (-1))] h0 (own_Qv (some (.int 1)) h0 n0) := by
  refine own_body (by decide +kernel) ?_
  intro p e s m below meth c T0 X0 hx hZ hby hml hown hnm hret hlk e0
  have N0 := Fr.nil n0
  refine own_cast (own_frame (L := [rv t, iv 2, iv 0, rv ca, iv (-1)]) (ls := #[rv t, iv 2, iv 0, rv ca, iv (-1)]) rfl rfl) ?_
  obtain ⟨SC, hz, SF, rf⟩ := id hG
  refine og_iloadN X0 hx (hb hby d19_0) rfl ?_
  refine og_iloadN X0 hx (hb hby d19_1) rfl ?_
  refine og_icY X0 hx 7 (hb hby d19_2) (tlt (by decide)).1 (by decide) (by decide) ?_
  refine og_aloadN X0 hx (hb hby d19_7) rfl rfl ?_
  refine og_iloadN X0 hx (hb hby d19_8) rfl ?_
  refine own_callV X0 hx hZ hown (own_hw hw 107 rfl) (own_hw hw 108 rfl) (notFace_of_selects (args := #[]) (mvT hZ (own_hw hw 110 rfl))) (own_hw hw 110 rfl) (own_hw hw 109 rfl) (own_hw hw 111 rfl) (own_hw hw 11 rfl) (by decide) (b := t) (argsL := [(.int 0)]) (rest := []) (own_ca_0_2 l Z a0 hw z sf t b _ _ c0 (.int c1.toInt8.toInt32) h0 n0 hO hG hc Et Fv Fc Ab) e0 Et (by rw [hml]; rfl) (lenOf own_pd47939 rfl) rfl (hb hby d19_9) (W := 0) (Nat.le_of_eq rfl) (by decide) ?_
  intro v1 T1 L1 X1 q1
  obtain ⟨rfl, N1q, e1⟩ := q1
  have N1 := Fr.app N0 N1q
  show own_Go p e below _ T1 (mkF m 12 #[rv t, iv 2, iv 0, rv ca, iv (-1)] [(.int c0)])
  refine og_aloadN X1 hx (hb hby d19_12) rfl rfl ?_
  refine og_iload X1 hx (hb hby d19_13) rfl ?_
  refine og_iconst X1 hx (hb hby d19_15) ?_
  refine og_iadd X1 hx (hb hby d19_16) ?_
  refine og_iloadN X1 hx (hb hby d19_17) rfl ?_
  refine og_iadd X1 hx (hb hby d19_18) ?_
  show own_Go p e below _ T1 (mkF m 19 #[rv t, iv 2, iv 0, rv ca, iv (-1)] [(.int 0), (.ref ca), (.int c0)])
  refine own_ldC X1 hx hZ e1 Ac ⟨by decide, by decide⟩ rfl (hb hby d19_19) ?_
  show own_Go p e below _ T1 (mkF m 20 #[rv t, iv 2, iv 0, rv ca, iv (-1)] [(.int c0), (.int c0)])
  refine og_icN X1 hx (hb hby d19_20) (teq rfl).2 ?_
  refine og_iconst X1 hx (hb hby d19_23) ?_
  refine og_goto X1 hx 28 (hb hby d19_24) (by decide) (by decide) ?_
  exact own_retI X1 hx hret hlk (hb hby d19_28) rfl (by simp) (by decide) (by decide) (⟨rfl, N1, e1⟩)
def own_r_own_lca_1_2 : Room := { frames := 2, cells := 0, slots := 0, locals := 27 }
theorem own_lca_1_2 (l : Launch) (Z : State) (a0 : Array Value) (hw : own_W a0 Z) (z : Int32) (sf : Value) (b : Addr) (kb : ClassId) (dv : Value) (ch : Int32) (v0 : Value) (h0 : Heap) (n0 : Nat) (hO : Old Z n0 h0) (hG : own_Gs Z z sf) (hc : ¬ ch < 0 ∧ ¬ (255 : Int32) < ch) (Ab : Arv Z h0 b kb .byte 2 [v0, (.int ch.toInt8.toInt32)] dv) :
    own_Met l Z (⟨"java/lang/StringLatin1", "charAt", "([BI)C"⟩ : MethodName) jdk_43_method_2_code 2 (some .char) own_r_own_lca_1_2 #[(.ref b), (.int 1)] h0 (own_Qv (some (.int ch)) h0 n0) := by
  refine own_body (by decide +kernel) ?_
  intro p e s m below meth c T0 X0 hx hZ hby hml hown hnm hret hlk e0
  have N0 := Fr.nil n0
  refine own_cast (own_frame (L := [rv b, iv 1]) (ls := #[rv b, iv 1]) rfl rfl) ?_
  obtain ⟨SC, hz, SF, rf⟩ := id hG
  refine og_iloadN X0 hx (hb hby d25_0) rfl ?_
  refine og_aloadN X0 hx (hb hby d25_1) rfl rfl ?_
  refine own_len X0 hx hZ e0 Ab (hb hby d25_2) ?_
  show own_Go p e below _ T0 (mkF m 3 #[rv b, iv 1] [(.int 2), (.int 1)])
  refine own_callS X0 hx hZ hown (own_hw hw 115 rfl) (own_hw hw 116 rfl) (own_hw hw 11 rfl) (own_hw hw 117 rfl) (by decide) (argsL := [(.int 1), (.int 2)]) (rest := []) (own_sck l Z a0 hw z sf 1 2 h0 n0 hO hG (by decide) (by decide)) e0 (by rw [hml]; rfl) (lenOf own_pd97226 rfl) rfl (hb hby d25_3) (W := 0) (Nat.le_of_eq rfl) (by decide) ?_
  intro v1 T1 L1 X1 q1
  obtain ⟨rfl, N1q, e1⟩ := q1
  have N1 := Fr.app N0 N1q
  show own_Go p e below _ T1 (mkF m 6 #[rv b, iv 1] [])
  refine og_aloadN X1 hx (hb hby d25_6) rfl rfl ?_
  refine og_iloadN X1 hx (hb hby d25_7) rfl ?_
  refine own_ldB X1 hx hZ e1 Ab ⟨by decide, by decide⟩ rfl (hb hby d25_8) ?_
  show own_Go p e below _ T1 (mkF m 9 #[rv b, iv 1] [(.int ch.toInt8.toInt32)])
  refine og_sipush X1 hx (hb hby d25_9) ?_
  refine og_iand X1 hx (hb hby d25_12) ?_
  show own_Go p e below _ T1 (mkF m 13 #[rv b, iv 1] [(.int (ch.toInt8.toInt32 &&& 255))])
  rw [own_rt ch hc]
  show own_Go p e below _ T1 (mkF m 13 #[rv b, iv 1] [(.int ch)])
  refine own_go (fun t k => XS.i2c X1.here hx rfl (hb hby d25_13) rfl k) ?_
  show own_Go p e below _ T1 (mkF m 14 #[rv b, iv 1] [(.int (ch.toUInt32.toUInt16.toUInt32.toInt32))])
  rw [own_ic ch hc]
  show own_Go p e below _ T1 (mkF m 14 #[rv b, iv 1] [(.int ch)])
  exact own_retI X1 hx hret hlk (hb hby d25_14) (own_nc ch hc) (by simp) (by decide) (by decide) (⟨rfl, N1, e1⟩)
def own_r_own_ca_1_2 : Room := { frames := 3, cells := 0, slots := 0, locals := 40 }
theorem own_ca_1_2 (l : Launch) (Z : State) (a0 : Array Value) (hw : own_W a0 Z) (z : Int32) (sf : Value) (t b : Addr) (kb : ClassId) (dv : Value) (ch : Int32) (v0 : Value) (h0 : Heap) (n0 : Nat) (hO : Old Z n0 h0) (hG : own_Gs Z z sf) (hc : ¬ ch < 0 ∧ ¬ (255 : Int32) < ch) (Et : own_E Z h0 t) (Fv : own_V Z h0 t b) (Fc : own_C Z h0 t) (Ab : Arv Z h0 b kb .byte 2 [v0, (.int ch.toInt8.toInt32)] dv) :
    own_Met l Z (⟨"java/lang/String", "charAt", "(I)C"⟩ : MethodName) jdk_42_method_56_code 2 (some .char) own_r_own_ca_1_2 #[(.ref t), (.int 1)] h0 (own_Qv (some (.int ch)) h0 n0) := by
  refine own_body (by decide +kernel) ?_
  intro p e s m below meth c T0 X0 hx hZ hby hml hown hnm hret hlk e0
  have N0 := Fr.nil n0
  refine own_cast (own_frame (L := [rv t, iv 1]) (ls := #[rv t, iv 1]) rfl rfl) ?_
  obtain ⟨SC, hz, SF, rf⟩ := id hG
  refine og_aloadN X0 hx (hb hby d24_0) rfl rfl ?_
  refine own_callV X0 hx hZ hown (own_hw hw 55 rfl) (own_hw hw 56 rfl) (notFace_of_selects (args := #[]) (mvT hZ (own_hw hw 58 rfl))) (own_hw hw 58 rfl) (own_hw hw 57 rfl) (own_hw hw 59 rfl) (own_hw hw 11 rfl) (by decide) (b := t) (argsL := []) (rest := []) (own_isl1 l Z a0 hw z sf t h0 n0 hO hG Fc) e0 Et (by rw [hml]; rfl) (lenOf own_pd61835 rfl) rfl (hb hby d24_1) (W := 0) (Nat.le_of_eq rfl) (by decide) ?_
  intro v1 T1 L1 X1 q1
  obtain ⟨rfl, N1q, e1⟩ := q1
  have N1 := Fr.app N0 N1q
  show own_Go p e below _ T1 (mkF m 4 #[rv t, iv 1] [(.int (1 : Int32))])
  refine og_ifN X1 hx (hb hby d24_4) (feq (by decide)).1 ?_
  refine og_aloadN X1 hx (hb hby d24_7) rfl rfl ?_
  refine og_getF X1 hx hZ hown (own_hw hw 28 rfl) Via.refl e1 Fv (hb hby d24_8) ?_
  intro T2 X2 e2
  refine og_iloadN X2 hx (hb hby d24_11) rfl ?_
  refine own_callS X2 hx hZ hown (own_hw hw 112 rfl) (own_hw hw 113 rfl) (own_hw hw 62 rfl) (own_hw hw 114 rfl) (by decide) (argsL := [(.ref b), (.int 1)]) (rest := []) (own_lca_1_2 l Z a0 hw z sf b _ _ ch v0 h0 n0 hO hG hc Ab) e2 (by rw [hml]; rfl) (lenOf own_pd27418 rfl) rfl (hb hby d24_12) (W := 0) (Nat.le_of_eq rfl) (by decide) ?_
  intro v3 T3 L3 X3 q3
  obtain ⟨rfl, N3q, e3⟩ := q3
  have N3 := Fr.app N1 N3q
  show own_Go p e below _ T3 (mkF m 15 #[rv t, iv 1] [(.int ch)])
  exact own_retI X3 hx hret hlk (hb hby d24_15) (own_nc ch hc) (by simp) (by decide) (by decide) (⟨rfl, N3, e3⟩)
def own_r_own_sm_2_1_m1 : Room := { frames := 4, cells := 0, slots := 0, locals := 53 }
theorem own_sm_2_1_m1 (l : Launch) (Z : State) (a0 : Array Value) (hw : own_W a0 Z) (z : Int32) (sf : Value) (t b : Addr) (kb : ClassId) (dv : Value) (ca : Addr) (kc : ClassId) (dc : Value) (c0 c1 c2 c3 : Int32) (h0 : Heap) (n0 : Nat) (hO : Old Z n0 h0) (hG : own_Gs Z z sf) (hc : ¬ c1 < 0 ∧ ¬ (255 : Int32) < c1) (Et : own_E Z h0 t) (Fv : own_V Z h0 t b) (Fc : own_C Z h0 t) (Ab : Arv Z h0 b kb .byte 2 [(.int c0.toInt8.toInt32), (.int c1.toInt8.toInt32)] dv) (Ac : Arv Z h0 ca kc .char (4 : Int32) [.int c0, .int c1, .int c2, .int c3] dc) :
    own_Met l Z (⟨"com/example/svazek/svazek/PackageFolderNameOfPinLaw", "same", "(Ljava/lang/String;II[CI)Z"⟩ : MethodName) method_3_code 5 (some .boolean) own_r_own_sm_2_1_m1 #[(.ref t), (.int 2), (.int 1), (.ref ca), (.int (-1))] h0 (own_Qv (some (.int 1)) h0 n0) := by
  refine own_body (by decide +kernel) ?_
  intro p e s m below meth c T0 X0 hx hZ hby hml hown hnm hret hlk e0
  have N0 := Fr.nil n0
  refine own_cast (own_frame (L := [rv t, iv 2, iv 1, rv ca, iv (-1)]) (ls := #[rv t, iv 2, iv 1, rv ca, iv (-1)]) rfl rfl) ?_
  obtain ⟨SC, hz, SF, rf⟩ := id hG
  refine og_iloadN X0 hx (hb hby d19_0) rfl ?_
  refine og_iloadN X0 hx (hb hby d19_1) rfl ?_
  refine og_icY X0 hx 7 (hb hby d19_2) (tlt (by decide)).1 (by decide) (by decide) ?_
  refine og_aloadN X0 hx (hb hby d19_7) rfl rfl ?_
  refine og_iloadN X0 hx (hb hby d19_8) rfl ?_
  refine own_callV X0 hx hZ hown (own_hw hw 107 rfl) (own_hw hw 108 rfl) (notFace_of_selects (args := #[]) (mvT hZ (own_hw hw 110 rfl))) (own_hw hw 110 rfl) (own_hw hw 109 rfl) (own_hw hw 111 rfl) (own_hw hw 11 rfl) (by decide) (b := t) (argsL := [(.int 1)]) (rest := []) (own_ca_1_2 l Z a0 hw z sf t b _ _ c1 (.int c0.toInt8.toInt32) h0 n0 hO hG hc Et Fv Fc Ab) e0 Et (by rw [hml]; rfl) (lenOf own_pd47939 rfl) rfl (hb hby d19_9) (W := 0) (Nat.le_of_eq rfl) (by decide) ?_
  intro v1 T1 L1 X1 q1
  obtain ⟨rfl, N1q, e1⟩ := q1
  have N1 := Fr.app N0 N1q
  show own_Go p e below _ T1 (mkF m 12 #[rv t, iv 2, iv 1, rv ca, iv (-1)] [(.int c1)])
  refine og_aloadN X1 hx (hb hby d19_12) rfl rfl ?_
  refine og_iload X1 hx (hb hby d19_13) rfl ?_
  refine og_iconst X1 hx (hb hby d19_15) ?_
  refine og_iadd X1 hx (hb hby d19_16) ?_
  refine og_iloadN X1 hx (hb hby d19_17) rfl ?_
  refine og_iadd X1 hx (hb hby d19_18) ?_
  show own_Go p e below _ T1 (mkF m 19 #[rv t, iv 2, iv 1, rv ca, iv (-1)] [(.int 1), (.ref ca), (.int c1)])
  refine own_ldC X1 hx hZ e1 Ac ⟨by decide, by decide⟩ rfl (hb hby d19_19) ?_
  show own_Go p e below _ T1 (mkF m 20 #[rv t, iv 2, iv 1, rv ca, iv (-1)] [(.int c1), (.int c1)])
  refine og_icN X1 hx (hb hby d19_20) (teq rfl).2 ?_
  refine og_iconst X1 hx (hb hby d19_23) ?_
  refine og_goto X1 hx 28 (hb hby d19_24) (by decide) (by decide) ?_
  exact own_retI X1 hx hret hlk (hb hby d19_28) rfl (by simp) (by decide) (by decide) (⟨rfl, N1, e1⟩)
def own_r_own_lca_0_3 : Room := { frames := 2, cells := 0, slots := 0, locals := 27 }
theorem own_lca_0_3 (l : Launch) (Z : State) (a0 : Array Value) (hw : own_W a0 Z) (z : Int32) (sf : Value) (b : Addr) (kb : ClassId) (dv : Value) (ch : Int32) (v1 v2 : Value) (h0 : Heap) (n0 : Nat) (hO : Old Z n0 h0) (hG : own_Gs Z z sf) (hc : ¬ ch < 0 ∧ ¬ (255 : Int32) < ch) (Ab : Arv Z h0 b kb .byte 3 [(.int ch.toInt8.toInt32), v1, v2] dv) :
    own_Met l Z (⟨"java/lang/StringLatin1", "charAt", "([BI)C"⟩ : MethodName) jdk_43_method_2_code 2 (some .char) own_r_own_lca_0_3 #[(.ref b), (.int 0)] h0 (own_Qv (some (.int ch)) h0 n0) := by
  refine own_body (by decide +kernel) ?_
  intro p e s m below meth c T0 X0 hx hZ hby hml hown hnm hret hlk e0
  have N0 := Fr.nil n0
  refine own_cast (own_frame (L := [rv b, iv 0]) (ls := #[rv b, iv 0]) rfl rfl) ?_
  obtain ⟨SC, hz, SF, rf⟩ := id hG
  refine og_iloadN X0 hx (hb hby d25_0) rfl ?_
  refine og_aloadN X0 hx (hb hby d25_1) rfl rfl ?_
  refine own_len X0 hx hZ e0 Ab (hb hby d25_2) ?_
  show own_Go p e below _ T0 (mkF m 3 #[rv b, iv 0] [(.int 3), (.int 0)])
  refine own_callS X0 hx hZ hown (own_hw hw 115 rfl) (own_hw hw 116 rfl) (own_hw hw 11 rfl) (own_hw hw 117 rfl) (by decide) (argsL := [(.int 0), (.int 3)]) (rest := []) (own_sck l Z a0 hw z sf 0 3 h0 n0 hO hG (by decide) (by decide)) e0 (by rw [hml]; rfl) (lenOf own_pd97226 rfl) rfl (hb hby d25_3) (W := 0) (Nat.le_of_eq rfl) (by decide) ?_
  intro v1 T1 L1 X1 q1
  obtain ⟨rfl, N1q, e1⟩ := q1
  have N1 := Fr.app N0 N1q
  show own_Go p e below _ T1 (mkF m 6 #[rv b, iv 0] [])
  refine og_aloadN X1 hx (hb hby d25_6) rfl rfl ?_
  refine og_iloadN X1 hx (hb hby d25_7) rfl ?_
  refine own_ldB X1 hx hZ e1 Ab ⟨by decide, by decide⟩ rfl (hb hby d25_8) ?_
  show own_Go p e below _ T1 (mkF m 9 #[rv b, iv 0] [(.int ch.toInt8.toInt32)])
  refine og_sipush X1 hx (hb hby d25_9) ?_
  refine og_iand X1 hx (hb hby d25_12) ?_
  show own_Go p e below _ T1 (mkF m 13 #[rv b, iv 0] [(.int (ch.toInt8.toInt32 &&& 255))])
  rw [own_rt ch hc]
  show own_Go p e below _ T1 (mkF m 13 #[rv b, iv 0] [(.int ch)])
  refine own_go (fun t k => XS.i2c X1.here hx rfl (hb hby d25_13) rfl k) ?_
  show own_Go p e below _ T1 (mkF m 14 #[rv b, iv 0] [(.int (ch.toUInt32.toUInt16.toUInt32.toInt32))])
  rw [own_ic ch hc]
  show own_Go p e below _ T1 (mkF m 14 #[rv b, iv 0] [(.int ch)])
  exact own_retI X1 hx hret hlk (hb hby d25_14) (own_nc ch hc) (by simp) (by decide) (by decide) (⟨rfl, N1, e1⟩)
def own_r_own_ca_0_3 : Room := { frames := 3, cells := 0, slots := 0, locals := 40 }
theorem own_ca_0_3 (l : Launch) (Z : State) (a0 : Array Value) (hw : own_W a0 Z) (z : Int32) (sf : Value) (t b : Addr) (kb : ClassId) (dv : Value) (ch : Int32) (v1 v2 : Value) (h0 : Heap) (n0 : Nat) (hO : Old Z n0 h0) (hG : own_Gs Z z sf) (hc : ¬ ch < 0 ∧ ¬ (255 : Int32) < ch) (Et : own_E Z h0 t) (Fv : own_V Z h0 t b) (Fc : own_C Z h0 t) (Ab : Arv Z h0 b kb .byte 3 [(.int ch.toInt8.toInt32), v1, v2] dv) :
    own_Met l Z (⟨"java/lang/String", "charAt", "(I)C"⟩ : MethodName) jdk_42_method_56_code 2 (some .char) own_r_own_ca_0_3 #[(.ref t), (.int 0)] h0 (own_Qv (some (.int ch)) h0 n0) := by
  refine own_body (by decide +kernel) ?_
  intro p e s m below meth c T0 X0 hx hZ hby hml hown hnm hret hlk e0
  have N0 := Fr.nil n0
  refine own_cast (own_frame (L := [rv t, iv 0]) (ls := #[rv t, iv 0]) rfl rfl) ?_
  obtain ⟨SC, hz, SF, rf⟩ := id hG
  refine og_aloadN X0 hx (hb hby d24_0) rfl rfl ?_
  refine own_callV X0 hx hZ hown (own_hw hw 55 rfl) (own_hw hw 56 rfl) (notFace_of_selects (args := #[]) (mvT hZ (own_hw hw 58 rfl))) (own_hw hw 58 rfl) (own_hw hw 57 rfl) (own_hw hw 59 rfl) (own_hw hw 11 rfl) (by decide) (b := t) (argsL := []) (rest := []) (own_isl1 l Z a0 hw z sf t h0 n0 hO hG Fc) e0 Et (by rw [hml]; rfl) (lenOf own_pd61835 rfl) rfl (hb hby d24_1) (W := 0) (Nat.le_of_eq rfl) (by decide) ?_
  intro v1 T1 L1 X1 q1
  obtain ⟨rfl, N1q, e1⟩ := q1
  have N1 := Fr.app N0 N1q
  show own_Go p e below _ T1 (mkF m 4 #[rv t, iv 0] [(.int (1 : Int32))])
  refine og_ifN X1 hx (hb hby d24_4) (feq (by decide)).1 ?_
  refine og_aloadN X1 hx (hb hby d24_7) rfl rfl ?_
  refine og_getF X1 hx hZ hown (own_hw hw 28 rfl) Via.refl e1 Fv (hb hby d24_8) ?_
  intro T2 X2 e2
  refine og_iloadN X2 hx (hb hby d24_11) rfl ?_
  refine own_callS X2 hx hZ hown (own_hw hw 112 rfl) (own_hw hw 113 rfl) (own_hw hw 62 rfl) (own_hw hw 114 rfl) (by decide) (argsL := [(.ref b), (.int 0)]) (rest := []) (own_lca_0_3 l Z a0 hw z sf b _ _ ch v1 v2 h0 n0 hO hG hc Ab) e2 (by rw [hml]; rfl) (lenOf own_pd27418 rfl) rfl (hb hby d24_12) (W := 0) (Nat.le_of_eq rfl) (by decide) ?_
  intro v3 T3 L3 X3 q3
  obtain ⟨rfl, N3q, e3⟩ := q3
  have N3 := Fr.app N1 N3q
  show own_Go p e below _ T3 (mkF m 15 #[rv t, iv 0] [(.int ch)])
  exact own_retI X3 hx hret hlk (hb hby d24_15) (own_nc ch hc) (by simp) (by decide) (by decide) (⟨rfl, N3, e3⟩)
def own_r_own_sm_3_0_m1 : Room := { frames := 4, cells := 0, slots := 0, locals := 53 }
theorem own_sm_3_0_m1 (l : Launch) (Z : State) (a0 : Array Value) (hw : own_W a0 Z) (z : Int32) (sf : Value) (t b : Addr) (kb : ClassId) (dv : Value) (ca : Addr) (kc : ClassId) (dc : Value) (c0 c1 c2 c3 : Int32) (h0 : Heap) (n0 : Nat) (hO : Old Z n0 h0) (hG : own_Gs Z z sf) (hc : ¬ c0 < 0 ∧ ¬ (255 : Int32) < c0) (Et : own_E Z h0 t) (Fv : own_V Z h0 t b) (Fc : own_C Z h0 t) (Ab : Arv Z h0 b kb .byte 3 [(.int c0.toInt8.toInt32), (.int c1.toInt8.toInt32), (.int c2.toInt8.toInt32)] dv) (Ac : Arv Z h0 ca kc .char (4 : Int32) [.int c0, .int c1, .int c2, .int c3] dc) :
    own_Met l Z (⟨"com/example/svazek/svazek/PackageFolderNameOfPinLaw", "same", "(Ljava/lang/String;II[CI)Z"⟩ : MethodName) method_3_code 5 (some .boolean) own_r_own_sm_3_0_m1 #[(.ref t), (.int 3), (.int 0), (.ref ca), (.int (-1))] h0 (own_Qv (some (.int 1)) h0 n0) := by
  refine own_body (by decide +kernel) ?_
  intro p e s m below meth c T0 X0 hx hZ hby hml hown hnm hret hlk e0
  have N0 := Fr.nil n0
  refine own_cast (own_frame (L := [rv t, iv 3, iv 0, rv ca, iv (-1)]) (ls := #[rv t, iv 3, iv 0, rv ca, iv (-1)]) rfl rfl) ?_
  obtain ⟨SC, hz, SF, rf⟩ := id hG
  refine og_iloadN X0 hx (hb hby d19_0) rfl ?_
  refine og_iloadN X0 hx (hb hby d19_1) rfl ?_
  refine og_icY X0 hx 7 (hb hby d19_2) (tlt (by decide)).1 (by decide) (by decide) ?_
  refine og_aloadN X0 hx (hb hby d19_7) rfl rfl ?_
  refine og_iloadN X0 hx (hb hby d19_8) rfl ?_
  refine own_callV X0 hx hZ hown (own_hw hw 107 rfl) (own_hw hw 108 rfl) (notFace_of_selects (args := #[]) (mvT hZ (own_hw hw 110 rfl))) (own_hw hw 110 rfl) (own_hw hw 109 rfl) (own_hw hw 111 rfl) (own_hw hw 11 rfl) (by decide) (b := t) (argsL := [(.int 0)]) (rest := []) (own_ca_0_3 l Z a0 hw z sf t b _ _ c0 (.int c1.toInt8.toInt32) (.int c2.toInt8.toInt32) h0 n0 hO hG hc Et Fv Fc Ab) e0 Et (by rw [hml]; rfl) (lenOf own_pd47939 rfl) rfl (hb hby d19_9) (W := 0) (Nat.le_of_eq rfl) (by decide) ?_
  intro v1 T1 L1 X1 q1
  obtain ⟨rfl, N1q, e1⟩ := q1
  have N1 := Fr.app N0 N1q
  show own_Go p e below _ T1 (mkF m 12 #[rv t, iv 3, iv 0, rv ca, iv (-1)] [(.int c0)])
  refine og_aloadN X1 hx (hb hby d19_12) rfl rfl ?_
  refine og_iload X1 hx (hb hby d19_13) rfl ?_
  refine og_iconst X1 hx (hb hby d19_15) ?_
  refine og_iadd X1 hx (hb hby d19_16) ?_
  refine og_iloadN X1 hx (hb hby d19_17) rfl ?_
  refine og_iadd X1 hx (hb hby d19_18) ?_
  show own_Go p e below _ T1 (mkF m 19 #[rv t, iv 3, iv 0, rv ca, iv (-1)] [(.int 0), (.ref ca), (.int c0)])
  refine own_ldC X1 hx hZ e1 Ac ⟨by decide, by decide⟩ rfl (hb hby d19_19) ?_
  show own_Go p e below _ T1 (mkF m 20 #[rv t, iv 3, iv 0, rv ca, iv (-1)] [(.int c0), (.int c0)])
  refine og_icN X1 hx (hb hby d19_20) (teq rfl).2 ?_
  refine og_iconst X1 hx (hb hby d19_23) ?_
  refine og_goto X1 hx 28 (hb hby d19_24) (by decide) (by decide) ?_
  exact own_retI X1 hx hret hlk (hb hby d19_28) rfl (by simp) (by decide) (by decide) (⟨rfl, N1, e1⟩)
def own_r_own_lca_1_3 : Room := { frames := 2, cells := 0, slots := 0, locals := 27 }
theorem own_lca_1_3 (l : Launch) (Z : State) (a0 : Array Value) (hw : own_W a0 Z) (z : Int32) (sf : Value) (b : Addr) (kb : ClassId) (dv : Value) (ch : Int32) (v0 v2 : Value) (h0 : Heap) (n0 : Nat) (hO : Old Z n0 h0) (hG : own_Gs Z z sf) (hc : ¬ ch < 0 ∧ ¬ (255 : Int32) < ch) (Ab : Arv Z h0 b kb .byte 3 [v0, (.int ch.toInt8.toInt32), v2] dv) :
    own_Met l Z (⟨"java/lang/StringLatin1", "charAt", "([BI)C"⟩ : MethodName) jdk_43_method_2_code 2 (some .char) own_r_own_lca_1_3 #[(.ref b), (.int 1)] h0 (own_Qv (some (.int ch)) h0 n0) := by
  refine own_body (by decide +kernel) ?_
  intro p e s m below meth c T0 X0 hx hZ hby hml hown hnm hret hlk e0
  have N0 := Fr.nil n0
  refine own_cast (own_frame (L := [rv b, iv 1]) (ls := #[rv b, iv 1]) rfl rfl) ?_
  obtain ⟨SC, hz, SF, rf⟩ := id hG
  refine og_iloadN X0 hx (hb hby d25_0) rfl ?_
  refine og_aloadN X0 hx (hb hby d25_1) rfl rfl ?_
  refine own_len X0 hx hZ e0 Ab (hb hby d25_2) ?_
  show own_Go p e below _ T0 (mkF m 3 #[rv b, iv 1] [(.int 3), (.int 1)])
  refine own_callS X0 hx hZ hown (own_hw hw 115 rfl) (own_hw hw 116 rfl) (own_hw hw 11 rfl) (own_hw hw 117 rfl) (by decide) (argsL := [(.int 1), (.int 3)]) (rest := []) (own_sck l Z a0 hw z sf 1 3 h0 n0 hO hG (by decide) (by decide)) e0 (by rw [hml]; rfl) (lenOf own_pd97226 rfl) rfl (hb hby d25_3) (W := 0) (Nat.le_of_eq rfl) (by decide) ?_
  intro v1 T1 L1 X1 q1
  obtain ⟨rfl, N1q, e1⟩ := q1
  have N1 := Fr.app N0 N1q
  show own_Go p e below _ T1 (mkF m 6 #[rv b, iv 1] [])
  refine og_aloadN X1 hx (hb hby d25_6) rfl rfl ?_
  refine og_iloadN X1 hx (hb hby d25_7) rfl ?_
  refine own_ldB X1 hx hZ e1 Ab ⟨by decide, by decide⟩ rfl (hb hby d25_8) ?_
  show own_Go p e below _ T1 (mkF m 9 #[rv b, iv 1] [(.int ch.toInt8.toInt32)])
  refine og_sipush X1 hx (hb hby d25_9) ?_
  refine og_iand X1 hx (hb hby d25_12) ?_
  show own_Go p e below _ T1 (mkF m 13 #[rv b, iv 1] [(.int (ch.toInt8.toInt32 &&& 255))])
  rw [own_rt ch hc]
  show own_Go p e below _ T1 (mkF m 13 #[rv b, iv 1] [(.int ch)])
  refine own_go (fun t k => XS.i2c X1.here hx rfl (hb hby d25_13) rfl k) ?_
  show own_Go p e below _ T1 (mkF m 14 #[rv b, iv 1] [(.int (ch.toUInt32.toUInt16.toUInt32.toInt32))])
  rw [own_ic ch hc]
  show own_Go p e below _ T1 (mkF m 14 #[rv b, iv 1] [(.int ch)])
  exact own_retI X1 hx hret hlk (hb hby d25_14) (own_nc ch hc) (by simp) (by decide) (by decide) (⟨rfl, N1, e1⟩)
def own_r_own_ca_1_3 : Room := { frames := 3, cells := 0, slots := 0, locals := 40 }
theorem own_ca_1_3 (l : Launch) (Z : State) (a0 : Array Value) (hw : own_W a0 Z) (z : Int32) (sf : Value) (t b : Addr) (kb : ClassId) (dv : Value) (ch : Int32) (v0 v2 : Value) (h0 : Heap) (n0 : Nat) (hO : Old Z n0 h0) (hG : own_Gs Z z sf) (hc : ¬ ch < 0 ∧ ¬ (255 : Int32) < ch) (Et : own_E Z h0 t) (Fv : own_V Z h0 t b) (Fc : own_C Z h0 t) (Ab : Arv Z h0 b kb .byte 3 [v0, (.int ch.toInt8.toInt32), v2] dv) :
    own_Met l Z (⟨"java/lang/String", "charAt", "(I)C"⟩ : MethodName) jdk_42_method_56_code 2 (some .char) own_r_own_ca_1_3 #[(.ref t), (.int 1)] h0 (own_Qv (some (.int ch)) h0 n0) := by
  refine own_body (by decide +kernel) ?_
  intro p e s m below meth c T0 X0 hx hZ hby hml hown hnm hret hlk e0
  have N0 := Fr.nil n0
  refine own_cast (own_frame (L := [rv t, iv 1]) (ls := #[rv t, iv 1]) rfl rfl) ?_
  obtain ⟨SC, hz, SF, rf⟩ := id hG
  refine og_aloadN X0 hx (hb hby d24_0) rfl rfl ?_
  refine own_callV X0 hx hZ hown (own_hw hw 55 rfl) (own_hw hw 56 rfl) (notFace_of_selects (args := #[]) (mvT hZ (own_hw hw 58 rfl))) (own_hw hw 58 rfl) (own_hw hw 57 rfl) (own_hw hw 59 rfl) (own_hw hw 11 rfl) (by decide) (b := t) (argsL := []) (rest := []) (own_isl1 l Z a0 hw z sf t h0 n0 hO hG Fc) e0 Et (by rw [hml]; rfl) (lenOf own_pd61835 rfl) rfl (hb hby d24_1) (W := 0) (Nat.le_of_eq rfl) (by decide) ?_
  intro v1 T1 L1 X1 q1
  obtain ⟨rfl, N1q, e1⟩ := q1
  have N1 := Fr.app N0 N1q
  show own_Go p e below _ T1 (mkF m 4 #[rv t, iv 1] [(.int (1 : Int32))])
  refine og_ifN X1 hx (hb hby d24_4) (feq (by decide)).1 ?_
  refine og_aloadN X1 hx (hb hby d24_7) rfl rfl ?_
  refine og_getF X1 hx hZ hown (own_hw hw 28 rfl) Via.refl e1 Fv (hb hby d24_8) ?_
  intro T2 X2 e2
  refine og_iloadN X2 hx (hb hby d24_11) rfl ?_
  refine own_callS X2 hx hZ hown (own_hw hw 112 rfl) (own_hw hw 113 rfl) (own_hw hw 62 rfl) (own_hw hw 114 rfl) (by decide) (argsL := [(.ref b), (.int 1)]) (rest := []) (own_lca_1_3 l Z a0 hw z sf b _ _ ch v0 v2 h0 n0 hO hG hc Ab) e2 (by rw [hml]; rfl) (lenOf own_pd27418 rfl) rfl (hb hby d24_12) (W := 0) (Nat.le_of_eq rfl) (by decide) ?_
  intro v3 T3 L3 X3 q3
  obtain ⟨rfl, N3q, e3⟩ := q3
  have N3 := Fr.app N1 N3q
  show own_Go p e below _ T3 (mkF m 15 #[rv t, iv 1] [(.int ch)])
  exact own_retI X3 hx hret hlk (hb hby d24_15) (own_nc ch hc) (by simp) (by decide) (by decide) (⟨rfl, N3, e3⟩)
def own_r_own_sm_3_1_m1 : Room := { frames := 4, cells := 0, slots := 0, locals := 53 }
theorem own_sm_3_1_m1 (l : Launch) (Z : State) (a0 : Array Value) (hw : own_W a0 Z) (z : Int32) (sf : Value) (t b : Addr) (kb : ClassId) (dv : Value) (ca : Addr) (kc : ClassId) (dc : Value) (c0 c1 c2 c3 : Int32) (h0 : Heap) (n0 : Nat) (hO : Old Z n0 h0) (hG : own_Gs Z z sf) (hc : ¬ c1 < 0 ∧ ¬ (255 : Int32) < c1) (Et : own_E Z h0 t) (Fv : own_V Z h0 t b) (Fc : own_C Z h0 t) (Ab : Arv Z h0 b kb .byte 3 [(.int c0.toInt8.toInt32), (.int c1.toInt8.toInt32), (.int c2.toInt8.toInt32)] dv) (Ac : Arv Z h0 ca kc .char (4 : Int32) [.int c0, .int c1, .int c2, .int c3] dc) :
    own_Met l Z (⟨"com/example/svazek/svazek/PackageFolderNameOfPinLaw", "same", "(Ljava/lang/String;II[CI)Z"⟩ : MethodName) method_3_code 5 (some .boolean) own_r_own_sm_3_1_m1 #[(.ref t), (.int 3), (.int 1), (.ref ca), (.int (-1))] h0 (own_Qv (some (.int 1)) h0 n0) := by
  refine own_body (by decide +kernel) ?_
  intro p e s m below meth c T0 X0 hx hZ hby hml hown hnm hret hlk e0
  have N0 := Fr.nil n0
  refine own_cast (own_frame (L := [rv t, iv 3, iv 1, rv ca, iv (-1)]) (ls := #[rv t, iv 3, iv 1, rv ca, iv (-1)]) rfl rfl) ?_
  obtain ⟨SC, hz, SF, rf⟩ := id hG
  refine og_iloadN X0 hx (hb hby d19_0) rfl ?_
  refine og_iloadN X0 hx (hb hby d19_1) rfl ?_
  refine og_icY X0 hx 7 (hb hby d19_2) (tlt (by decide)).1 (by decide) (by decide) ?_
  refine og_aloadN X0 hx (hb hby d19_7) rfl rfl ?_
  refine og_iloadN X0 hx (hb hby d19_8) rfl ?_
  refine own_callV X0 hx hZ hown (own_hw hw 107 rfl) (own_hw hw 108 rfl) (notFace_of_selects (args := #[]) (mvT hZ (own_hw hw 110 rfl))) (own_hw hw 110 rfl) (own_hw hw 109 rfl) (own_hw hw 111 rfl) (own_hw hw 11 rfl) (by decide) (b := t) (argsL := [(.int 1)]) (rest := []) (own_ca_1_3 l Z a0 hw z sf t b _ _ c1 (.int c0.toInt8.toInt32) (.int c2.toInt8.toInt32) h0 n0 hO hG hc Et Fv Fc Ab) e0 Et (by rw [hml]; rfl) (lenOf own_pd47939 rfl) rfl (hb hby d19_9) (W := 0) (Nat.le_of_eq rfl) (by decide) ?_
  intro v1 T1 L1 X1 q1
  obtain ⟨rfl, N1q, e1⟩ := q1
  have N1 := Fr.app N0 N1q
  show own_Go p e below _ T1 (mkF m 12 #[rv t, iv 3, iv 1, rv ca, iv (-1)] [(.int c1)])
  refine og_aloadN X1 hx (hb hby d19_12) rfl rfl ?_
  refine og_iload X1 hx (hb hby d19_13) rfl ?_
  refine og_iconst X1 hx (hb hby d19_15) ?_
  refine og_iadd X1 hx (hb hby d19_16) ?_
  refine og_iloadN X1 hx (hb hby d19_17) rfl ?_
  refine og_iadd X1 hx (hb hby d19_18) ?_
  show own_Go p e below _ T1 (mkF m 19 #[rv t, iv 3, iv 1, rv ca, iv (-1)] [(.int 1), (.ref ca), (.int c1)])
  refine own_ldC X1 hx hZ e1 Ac ⟨by decide, by decide⟩ rfl (hb hby d19_19) ?_
  show own_Go p e below _ T1 (mkF m 20 #[rv t, iv 3, iv 1, rv ca, iv (-1)] [(.int c1), (.int c1)])
  refine og_icN X1 hx (hb hby d19_20) (teq rfl).2 ?_
  refine og_iconst X1 hx (hb hby d19_23) ?_
  refine og_goto X1 hx 28 (hb hby d19_24) (by decide) (by decide) ?_
  exact own_retI X1 hx hret hlk (hb hby d19_28) rfl (by simp) (by decide) (by decide) (⟨rfl, N1, e1⟩)
def own_r_own_lca_2_3 : Room := { frames := 2, cells := 0, slots := 0, locals := 27 }
theorem own_lca_2_3 (l : Launch) (Z : State) (a0 : Array Value) (hw : own_W a0 Z) (z : Int32) (sf : Value) (b : Addr) (kb : ClassId) (dv : Value) (ch : Int32) (v0 v1 : Value) (h0 : Heap) (n0 : Nat) (hO : Old Z n0 h0) (hG : own_Gs Z z sf) (hc : ¬ ch < 0 ∧ ¬ (255 : Int32) < ch) (Ab : Arv Z h0 b kb .byte 3 [v0, v1, (.int ch.toInt8.toInt32)] dv) :
    own_Met l Z (⟨"java/lang/StringLatin1", "charAt", "([BI)C"⟩ : MethodName) jdk_43_method_2_code 2 (some .char) own_r_own_lca_2_3 #[(.ref b), (.int 2)] h0 (own_Qv (some (.int ch)) h0 n0) := by
  refine own_body (by decide +kernel) ?_
  intro p e s m below meth c T0 X0 hx hZ hby hml hown hnm hret hlk e0
  have N0 := Fr.nil n0
  refine own_cast (own_frame (L := [rv b, iv 2]) (ls := #[rv b, iv 2]) rfl rfl) ?_
  obtain ⟨SC, hz, SF, rf⟩ := id hG
  refine og_iloadN X0 hx (hb hby d25_0) rfl ?_
  refine og_aloadN X0 hx (hb hby d25_1) rfl rfl ?_
  refine own_len X0 hx hZ e0 Ab (hb hby d25_2) ?_
  show own_Go p e below _ T0 (mkF m 3 #[rv b, iv 2] [(.int 3), (.int 2)])
  refine own_callS X0 hx hZ hown (own_hw hw 115 rfl) (own_hw hw 116 rfl) (own_hw hw 11 rfl) (own_hw hw 117 rfl) (by decide) (argsL := [(.int 2), (.int 3)]) (rest := []) (own_sck l Z a0 hw z sf 2 3 h0 n0 hO hG (by decide) (by decide)) e0 (by rw [hml]; rfl) (lenOf own_pd97226 rfl) rfl (hb hby d25_3) (W := 0) (Nat.le_of_eq rfl) (by decide) ?_
  intro v1 T1 L1 X1 q1
  obtain ⟨rfl, N1q, e1⟩ := q1
  have N1 := Fr.app N0 N1q
  show own_Go p e below _ T1 (mkF m 6 #[rv b, iv 2] [])
  refine og_aloadN X1 hx (hb hby d25_6) rfl rfl ?_
  refine og_iloadN X1 hx (hb hby d25_7) rfl ?_
  refine own_ldB X1 hx hZ e1 Ab ⟨by decide, by decide⟩ rfl (hb hby d25_8) ?_
  show own_Go p e below _ T1 (mkF m 9 #[rv b, iv 2] [(.int ch.toInt8.toInt32)])
  refine og_sipush X1 hx (hb hby d25_9) ?_
  refine og_iand X1 hx (hb hby d25_12) ?_
  show own_Go p e below _ T1 (mkF m 13 #[rv b, iv 2] [(.int (ch.toInt8.toInt32 &&& 255))])
  rw [own_rt ch hc]
  show own_Go p e below _ T1 (mkF m 13 #[rv b, iv 2] [(.int ch)])
  refine own_go (fun t k => XS.i2c X1.here hx rfl (hb hby d25_13) rfl k) ?_
  show own_Go p e below _ T1 (mkF m 14 #[rv b, iv 2] [(.int (ch.toUInt32.toUInt16.toUInt32.toInt32))])
  rw [own_ic ch hc]
  show own_Go p e below _ T1 (mkF m 14 #[rv b, iv 2] [(.int ch)])
  exact own_retI X1 hx hret hlk (hb hby d25_14) (own_nc ch hc) (by simp) (by decide) (by decide) (⟨rfl, N1, e1⟩)
def own_r_own_ca_2_3 : Room := { frames := 3, cells := 0, slots := 0, locals := 40 }
theorem own_ca_2_3 (l : Launch) (Z : State) (a0 : Array Value) (hw : own_W a0 Z) (z : Int32) (sf : Value) (t b : Addr) (kb : ClassId) (dv : Value) (ch : Int32) (v0 v1 : Value) (h0 : Heap) (n0 : Nat) (hO : Old Z n0 h0) (hG : own_Gs Z z sf) (hc : ¬ ch < 0 ∧ ¬ (255 : Int32) < ch) (Et : own_E Z h0 t) (Fv : own_V Z h0 t b) (Fc : own_C Z h0 t) (Ab : Arv Z h0 b kb .byte 3 [v0, v1, (.int ch.toInt8.toInt32)] dv) :
    own_Met l Z (⟨"java/lang/String", "charAt", "(I)C"⟩ : MethodName) jdk_42_method_56_code 2 (some .char) own_r_own_ca_2_3 #[(.ref t), (.int 2)] h0 (own_Qv (some (.int ch)) h0 n0) := by
  refine own_body (by decide +kernel) ?_
  intro p e s m below meth c T0 X0 hx hZ hby hml hown hnm hret hlk e0
  have N0 := Fr.nil n0
  refine own_cast (own_frame (L := [rv t, iv 2]) (ls := #[rv t, iv 2]) rfl rfl) ?_
  obtain ⟨SC, hz, SF, rf⟩ := id hG
  refine og_aloadN X0 hx (hb hby d24_0) rfl rfl ?_
  refine own_callV X0 hx hZ hown (own_hw hw 55 rfl) (own_hw hw 56 rfl) (notFace_of_selects (args := #[]) (mvT hZ (own_hw hw 58 rfl))) (own_hw hw 58 rfl) (own_hw hw 57 rfl) (own_hw hw 59 rfl) (own_hw hw 11 rfl) (by decide) (b := t) (argsL := []) (rest := []) (own_isl1 l Z a0 hw z sf t h0 n0 hO hG Fc) e0 Et (by rw [hml]; rfl) (lenOf own_pd61835 rfl) rfl (hb hby d24_1) (W := 0) (Nat.le_of_eq rfl) (by decide) ?_
  intro v1 T1 L1 X1 q1
  obtain ⟨rfl, N1q, e1⟩ := q1
  have N1 := Fr.app N0 N1q
  show own_Go p e below _ T1 (mkF m 4 #[rv t, iv 2] [(.int (1 : Int32))])
  refine og_ifN X1 hx (hb hby d24_4) (feq (by decide)).1 ?_
  refine og_aloadN X1 hx (hb hby d24_7) rfl rfl ?_
  refine og_getF X1 hx hZ hown (own_hw hw 28 rfl) Via.refl e1 Fv (hb hby d24_8) ?_
  intro T2 X2 e2
  refine og_iloadN X2 hx (hb hby d24_11) rfl ?_
  refine own_callS X2 hx hZ hown (own_hw hw 112 rfl) (own_hw hw 113 rfl) (own_hw hw 62 rfl) (own_hw hw 114 rfl) (by decide) (argsL := [(.ref b), (.int 2)]) (rest := []) (own_lca_2_3 l Z a0 hw z sf b _ _ ch v0 v1 h0 n0 hO hG hc Ab) e2 (by rw [hml]; rfl) (lenOf own_pd27418 rfl) rfl (hb hby d24_12) (W := 0) (Nat.le_of_eq rfl) (by decide) ?_
  intro v3 T3 L3 X3 q3
  obtain ⟨rfl, N3q, e3⟩ := q3
  have N3 := Fr.app N1 N3q
  show own_Go p e below _ T3 (mkF m 15 #[rv t, iv 2] [(.int ch)])
  exact own_retI X3 hx hret hlk (hb hby d24_15) (own_nc ch hc) (by simp) (by decide) (by decide) (⟨rfl, N3, e3⟩)
def own_r_own_sm_3_2_m1 : Room := { frames := 4, cells := 0, slots := 0, locals := 53 }
theorem own_sm_3_2_m1 (l : Launch) (Z : State) (a0 : Array Value) (hw : own_W a0 Z) (z : Int32) (sf : Value) (t b : Addr) (kb : ClassId) (dv : Value) (ca : Addr) (kc : ClassId) (dc : Value) (c0 c1 c2 c3 : Int32) (h0 : Heap) (n0 : Nat) (hO : Old Z n0 h0) (hG : own_Gs Z z sf) (hc : ¬ c2 < 0 ∧ ¬ (255 : Int32) < c2) (Et : own_E Z h0 t) (Fv : own_V Z h0 t b) (Fc : own_C Z h0 t) (Ab : Arv Z h0 b kb .byte 3 [(.int c0.toInt8.toInt32), (.int c1.toInt8.toInt32), (.int c2.toInt8.toInt32)] dv) (Ac : Arv Z h0 ca kc .char (4 : Int32) [.int c0, .int c1, .int c2, .int c3] dc) :
    own_Met l Z (⟨"com/example/svazek/svazek/PackageFolderNameOfPinLaw", "same", "(Ljava/lang/String;II[CI)Z"⟩ : MethodName) method_3_code 5 (some .boolean) own_r_own_sm_3_2_m1 #[(.ref t), (.int 3), (.int 2), (.ref ca), (.int (-1))] h0 (own_Qv (some (.int 1)) h0 n0) := by
  refine own_body (by decide +kernel) ?_
  intro p e s m below meth c T0 X0 hx hZ hby hml hown hnm hret hlk e0
  have N0 := Fr.nil n0
  refine own_cast (own_frame (L := [rv t, iv 3, iv 2, rv ca, iv (-1)]) (ls := #[rv t, iv 3, iv 2, rv ca, iv (-1)]) rfl rfl) ?_
  obtain ⟨SC, hz, SF, rf⟩ := id hG
  refine og_iloadN X0 hx (hb hby d19_0) rfl ?_
  refine og_iloadN X0 hx (hb hby d19_1) rfl ?_
  refine og_icY X0 hx 7 (hb hby d19_2) (tlt (by decide)).1 (by decide) (by decide) ?_
  refine og_aloadN X0 hx (hb hby d19_7) rfl rfl ?_
  refine og_iloadN X0 hx (hb hby d19_8) rfl ?_
  refine own_callV X0 hx hZ hown (own_hw hw 107 rfl) (own_hw hw 108 rfl) (notFace_of_selects (args := #[]) (mvT hZ (own_hw hw 110 rfl))) (own_hw hw 110 rfl) (own_hw hw 109 rfl) (own_hw hw 111 rfl) (own_hw hw 11 rfl) (by decide) (b := t) (argsL := [(.int 2)]) (rest := []) (own_ca_2_3 l Z a0 hw z sf t b _ _ c2 (.int c0.toInt8.toInt32) (.int c1.toInt8.toInt32) h0 n0 hO hG hc Et Fv Fc Ab) e0 Et (by rw [hml]; rfl) (lenOf own_pd47939 rfl) rfl (hb hby d19_9) (W := 0) (Nat.le_of_eq rfl) (by decide) ?_
  intro v1 T1 L1 X1 q1
  obtain ⟨rfl, N1q, e1⟩ := q1
  have N1 := Fr.app N0 N1q
  show own_Go p e below _ T1 (mkF m 12 #[rv t, iv 3, iv 2, rv ca, iv (-1)] [(.int c2)])
  refine og_aloadN X1 hx (hb hby d19_12) rfl rfl ?_
  refine og_iload X1 hx (hb hby d19_13) rfl ?_
  refine og_iconst X1 hx (hb hby d19_15) ?_
  refine og_iadd X1 hx (hb hby d19_16) ?_
  refine og_iloadN X1 hx (hb hby d19_17) rfl ?_
  refine og_iadd X1 hx (hb hby d19_18) ?_
  show own_Go p e below _ T1 (mkF m 19 #[rv t, iv 3, iv 2, rv ca, iv (-1)] [(.int 2), (.ref ca), (.int c2)])
  refine own_ldC X1 hx hZ e1 Ac ⟨by decide, by decide⟩ rfl (hb hby d19_19) ?_
  show own_Go p e below _ T1 (mkF m 20 #[rv t, iv 3, iv 2, rv ca, iv (-1)] [(.int c2), (.int c2)])
  refine og_icN X1 hx (hb hby d19_20) (teq rfl).2 ?_
  refine og_iconst X1 hx (hb hby d19_23) ?_
  refine og_goto X1 hx 28 (hb hby d19_24) (by decide) (by decide) ?_
  exact own_retI X1 hx hret hlk (hb hby d19_28) rfl (by simp) (by decide) (by decide) (⟨rfl, N1, e1⟩)
def own_r_own_lca_0_4 : Room := { frames := 2, cells := 0, slots := 0, locals := 27 }
theorem own_lca_0_4 (l : Launch) (Z : State) (a0 : Array Value) (hw : own_W a0 Z) (z : Int32) (sf : Value) (b : Addr) (kb : ClassId) (dv : Value) (ch : Int32) (v1 v2 v3 : Value) (h0 : Heap) (n0 : Nat) (hO : Old Z n0 h0) (hG : own_Gs Z z sf) (hc : ¬ ch < 0 ∧ ¬ (255 : Int32) < ch) (Ab : Arv Z h0 b kb .byte 4 [(.int ch.toInt8.toInt32), v1, v2, v3] dv) :
    own_Met l Z (⟨"java/lang/StringLatin1", "charAt", "([BI)C"⟩ : MethodName) jdk_43_method_2_code 2 (some .char) own_r_own_lca_0_4 #[(.ref b), (.int 0)] h0 (own_Qv (some (.int ch)) h0 n0) := by
  refine own_body (by decide +kernel) ?_
  intro p e s m below meth c T0 X0 hx hZ hby hml hown hnm hret hlk e0
  have N0 := Fr.nil n0
  refine own_cast (own_frame (L := [rv b, iv 0]) (ls := #[rv b, iv 0]) rfl rfl) ?_
  obtain ⟨SC, hz, SF, rf⟩ := id hG
  refine og_iloadN X0 hx (hb hby d25_0) rfl ?_
  refine og_aloadN X0 hx (hb hby d25_1) rfl rfl ?_
  refine own_len X0 hx hZ e0 Ab (hb hby d25_2) ?_
  show own_Go p e below _ T0 (mkF m 3 #[rv b, iv 0] [(.int 4), (.int 0)])
  refine own_callS X0 hx hZ hown (own_hw hw 115 rfl) (own_hw hw 116 rfl) (own_hw hw 11 rfl) (own_hw hw 117 rfl) (by decide) (argsL := [(.int 0), (.int 4)]) (rest := []) (own_sck l Z a0 hw z sf 0 4 h0 n0 hO hG (by decide) (by decide)) e0 (by rw [hml]; rfl) (lenOf own_pd97226 rfl) rfl (hb hby d25_3) (W := 0) (Nat.le_of_eq rfl) (by decide) ?_
  intro v1 T1 L1 X1 q1
  obtain ⟨rfl, N1q, e1⟩ := q1
  have N1 := Fr.app N0 N1q
  show own_Go p e below _ T1 (mkF m 6 #[rv b, iv 0] [])
  refine og_aloadN X1 hx (hb hby d25_6) rfl rfl ?_
  refine og_iloadN X1 hx (hb hby d25_7) rfl ?_
  refine own_ldB X1 hx hZ e1 Ab ⟨by decide, by decide⟩ rfl (hb hby d25_8) ?_
  show own_Go p e below _ T1 (mkF m 9 #[rv b, iv 0] [(.int ch.toInt8.toInt32)])
  refine og_sipush X1 hx (hb hby d25_9) ?_
  refine og_iand X1 hx (hb hby d25_12) ?_
  show own_Go p e below _ T1 (mkF m 13 #[rv b, iv 0] [(.int (ch.toInt8.toInt32 &&& 255))])
  rw [own_rt ch hc]
  show own_Go p e below _ T1 (mkF m 13 #[rv b, iv 0] [(.int ch)])
  refine own_go (fun t k => XS.i2c X1.here hx rfl (hb hby d25_13) rfl k) ?_
  show own_Go p e below _ T1 (mkF m 14 #[rv b, iv 0] [(.int (ch.toUInt32.toUInt16.toUInt32.toInt32))])
  rw [own_ic ch hc]
  show own_Go p e below _ T1 (mkF m 14 #[rv b, iv 0] [(.int ch)])
  exact own_retI X1 hx hret hlk (hb hby d25_14) (own_nc ch hc) (by simp) (by decide) (by decide) (⟨rfl, N1, e1⟩)
def own_r_own_ca_0_4 : Room := { frames := 3, cells := 0, slots := 0, locals := 40 }
theorem own_ca_0_4 (l : Launch) (Z : State) (a0 : Array Value) (hw : own_W a0 Z) (z : Int32) (sf : Value) (t b : Addr) (kb : ClassId) (dv : Value) (ch : Int32) (v1 v2 v3 : Value) (h0 : Heap) (n0 : Nat) (hO : Old Z n0 h0) (hG : own_Gs Z z sf) (hc : ¬ ch < 0 ∧ ¬ (255 : Int32) < ch) (Et : own_E Z h0 t) (Fv : own_V Z h0 t b) (Fc : own_C Z h0 t) (Ab : Arv Z h0 b kb .byte 4 [(.int ch.toInt8.toInt32), v1, v2, v3] dv) :
    own_Met l Z (⟨"java/lang/String", "charAt", "(I)C"⟩ : MethodName) jdk_42_method_56_code 2 (some .char) own_r_own_ca_0_4 #[(.ref t), (.int 0)] h0 (own_Qv (some (.int ch)) h0 n0) := by
  refine own_body (by decide +kernel) ?_
  intro p e s m below meth c T0 X0 hx hZ hby hml hown hnm hret hlk e0
  have N0 := Fr.nil n0
  refine own_cast (own_frame (L := [rv t, iv 0]) (ls := #[rv t, iv 0]) rfl rfl) ?_
  obtain ⟨SC, hz, SF, rf⟩ := id hG
  refine og_aloadN X0 hx (hb hby d24_0) rfl rfl ?_
  refine own_callV X0 hx hZ hown (own_hw hw 55 rfl) (own_hw hw 56 rfl) (notFace_of_selects (args := #[]) (mvT hZ (own_hw hw 58 rfl))) (own_hw hw 58 rfl) (own_hw hw 57 rfl) (own_hw hw 59 rfl) (own_hw hw 11 rfl) (by decide) (b := t) (argsL := []) (rest := []) (own_isl1 l Z a0 hw z sf t h0 n0 hO hG Fc) e0 Et (by rw [hml]; rfl) (lenOf own_pd61835 rfl) rfl (hb hby d24_1) (W := 0) (Nat.le_of_eq rfl) (by decide) ?_
  intro v1 T1 L1 X1 q1
  obtain ⟨rfl, N1q, e1⟩ := q1
  have N1 := Fr.app N0 N1q
  show own_Go p e below _ T1 (mkF m 4 #[rv t, iv 0] [(.int (1 : Int32))])
  refine og_ifN X1 hx (hb hby d24_4) (feq (by decide)).1 ?_
  refine og_aloadN X1 hx (hb hby d24_7) rfl rfl ?_
  refine og_getF X1 hx hZ hown (own_hw hw 28 rfl) Via.refl e1 Fv (hb hby d24_8) ?_
  intro T2 X2 e2
  refine og_iloadN X2 hx (hb hby d24_11) rfl ?_
  refine own_callS X2 hx hZ hown (own_hw hw 112 rfl) (own_hw hw 113 rfl) (own_hw hw 62 rfl) (own_hw hw 114 rfl) (by decide) (argsL := [(.ref b), (.int 0)]) (rest := []) (own_lca_0_4 l Z a0 hw z sf b _ _ ch v1 v2 v3 h0 n0 hO hG hc Ab) e2 (by rw [hml]; rfl) (lenOf own_pd27418 rfl) rfl (hb hby d24_12) (W := 0) (Nat.le_of_eq rfl) (by decide) ?_
  intro v3 T3 L3 X3 q3
  obtain ⟨rfl, N3q, e3⟩ := q3
  have N3 := Fr.app N1 N3q
  show own_Go p e below _ T3 (mkF m 15 #[rv t, iv 0] [(.int ch)])
  exact own_retI X3 hx hret hlk (hb hby d24_15) (own_nc ch hc) (by simp) (by decide) (by decide) (⟨rfl, N3, e3⟩)
def own_r_own_sm_4_0_m1 : Room := { frames := 4, cells := 0, slots := 0, locals := 53 }
theorem own_sm_4_0_m1 (l : Launch) (Z : State) (a0 : Array Value) (hw : own_W a0 Z) (z : Int32) (sf : Value) (t b : Addr) (kb : ClassId) (dv : Value) (ca : Addr) (kc : ClassId) (dc : Value) (c0 c1 c2 c3 : Int32) (h0 : Heap) (n0 : Nat) (hO : Old Z n0 h0) (hG : own_Gs Z z sf) (hc : ¬ c0 < 0 ∧ ¬ (255 : Int32) < c0) (Et : own_E Z h0 t) (Fv : own_V Z h0 t b) (Fc : own_C Z h0 t) (Ab : Arv Z h0 b kb .byte 4 [(.int c0.toInt8.toInt32), (.int c1.toInt8.toInt32), (.int c2.toInt8.toInt32), (.int c3.toInt8.toInt32)] dv) (Ac : Arv Z h0 ca kc .char (4 : Int32) [.int c0, .int c1, .int c2, .int c3] dc) :
    own_Met l Z (⟨"com/example/svazek/svazek/PackageFolderNameOfPinLaw", "same", "(Ljava/lang/String;II[CI)Z"⟩ : MethodName) method_3_code 5 (some .boolean) own_r_own_sm_4_0_m1 #[(.ref t), (.int 4), (.int 0), (.ref ca), (.int (-1))] h0 (own_Qv (some (.int 1)) h0 n0) := by
  refine own_body (by decide +kernel) ?_
  intro p e s m below meth c T0 X0 hx hZ hby hml hown hnm hret hlk e0
  have N0 := Fr.nil n0
  refine own_cast (own_frame (L := [rv t, iv 4, iv 0, rv ca, iv (-1)]) (ls := #[rv t, iv 4, iv 0, rv ca, iv (-1)]) rfl rfl) ?_
  obtain ⟨SC, hz, SF, rf⟩ := id hG
  refine og_iloadN X0 hx (hb hby d19_0) rfl ?_
  refine og_iloadN X0 hx (hb hby d19_1) rfl ?_
  refine og_icY X0 hx 7 (hb hby d19_2) (tlt (by decide)).1 (by decide) (by decide) ?_
  refine og_aloadN X0 hx (hb hby d19_7) rfl rfl ?_
  refine og_iloadN X0 hx (hb hby d19_8) rfl ?_
  refine own_callV X0 hx hZ hown (own_hw hw 107 rfl) (own_hw hw 108 rfl) (notFace_of_selects (args := #[]) (mvT hZ (own_hw hw 110 rfl))) (own_hw hw 110 rfl) (own_hw hw 109 rfl) (own_hw hw 111 rfl) (own_hw hw 11 rfl) (by decide) (b := t) (argsL := [(.int 0)]) (rest := []) (own_ca_0_4 l Z a0 hw z sf t b _ _ c0 (.int c1.toInt8.toInt32) (.int c2.toInt8.toInt32) (.int c3.toInt8.toInt32) h0 n0 hO hG hc Et Fv Fc Ab) e0 Et (by rw [hml]; rfl) (lenOf own_pd47939 rfl) rfl (hb hby d19_9) (W := 0) (Nat.le_of_eq rfl) (by decide) ?_
  intro v1 T1 L1 X1 q1
  obtain ⟨rfl, N1q, e1⟩ := q1
  have N1 := Fr.app N0 N1q
  show own_Go p e below _ T1 (mkF m 12 #[rv t, iv 4, iv 0, rv ca, iv (-1)] [(.int c0)])
  refine og_aloadN X1 hx (hb hby d19_12) rfl rfl ?_
  refine og_iload X1 hx (hb hby d19_13) rfl ?_
  refine og_iconst X1 hx (hb hby d19_15) ?_
  refine og_iadd X1 hx (hb hby d19_16) ?_
  refine og_iloadN X1 hx (hb hby d19_17) rfl ?_
  refine og_iadd X1 hx (hb hby d19_18) ?_
  show own_Go p e below _ T1 (mkF m 19 #[rv t, iv 4, iv 0, rv ca, iv (-1)] [(.int 0), (.ref ca), (.int c0)])
  refine own_ldC X1 hx hZ e1 Ac ⟨by decide, by decide⟩ rfl (hb hby d19_19) ?_
  show own_Go p e below _ T1 (mkF m 20 #[rv t, iv 4, iv 0, rv ca, iv (-1)] [(.int c0), (.int c0)])
  refine og_icN X1 hx (hb hby d19_20) (teq rfl).2 ?_
  refine og_iconst X1 hx (hb hby d19_23) ?_
  refine og_goto X1 hx 28 (hb hby d19_24) (by decide) (by decide) ?_
  exact own_retI X1 hx hret hlk (hb hby d19_28) rfl (by simp) (by decide) (by decide) (⟨rfl, N1, e1⟩)
def own_r_own_lca_1_4 : Room := { frames := 2, cells := 0, slots := 0, locals := 27 }
theorem own_lca_1_4 (l : Launch) (Z : State) (a0 : Array Value) (hw : own_W a0 Z) (z : Int32) (sf : Value) (b : Addr) (kb : ClassId) (dv : Value) (ch : Int32) (v0 v2 v3 : Value) (h0 : Heap) (n0 : Nat) (hO : Old Z n0 h0) (hG : own_Gs Z z sf) (hc : ¬ ch < 0 ∧ ¬ (255 : Int32) < ch) (Ab : Arv Z h0 b kb .byte 4 [v0, (.int ch.toInt8.toInt32), v2, v3] dv) :
    own_Met l Z (⟨"java/lang/StringLatin1", "charAt", "([BI)C"⟩ : MethodName) jdk_43_method_2_code 2 (some .char) own_r_own_lca_1_4 #[(.ref b), (.int 1)] h0 (own_Qv (some (.int ch)) h0 n0) := by
  refine own_body (by decide +kernel) ?_
  intro p e s m below meth c T0 X0 hx hZ hby hml hown hnm hret hlk e0
  have N0 := Fr.nil n0
  refine own_cast (own_frame (L := [rv b, iv 1]) (ls := #[rv b, iv 1]) rfl rfl) ?_
  obtain ⟨SC, hz, SF, rf⟩ := id hG
  refine og_iloadN X0 hx (hb hby d25_0) rfl ?_
  refine og_aloadN X0 hx (hb hby d25_1) rfl rfl ?_
  refine own_len X0 hx hZ e0 Ab (hb hby d25_2) ?_
  show own_Go p e below _ T0 (mkF m 3 #[rv b, iv 1] [(.int 4), (.int 1)])
  refine own_callS X0 hx hZ hown (own_hw hw 115 rfl) (own_hw hw 116 rfl) (own_hw hw 11 rfl) (own_hw hw 117 rfl) (by decide) (argsL := [(.int 1), (.int 4)]) (rest := []) (own_sck l Z a0 hw z sf 1 4 h0 n0 hO hG (by decide) (by decide)) e0 (by rw [hml]; rfl) (lenOf own_pd97226 rfl) rfl (hb hby d25_3) (W := 0) (Nat.le_of_eq rfl) (by decide) ?_
  intro v1 T1 L1 X1 q1
  obtain ⟨rfl, N1q, e1⟩ := q1
  have N1 := Fr.app N0 N1q
  show own_Go p e below _ T1 (mkF m 6 #[rv b, iv 1] [])
  refine og_aloadN X1 hx (hb hby d25_6) rfl rfl ?_
  refine og_iloadN X1 hx (hb hby d25_7) rfl ?_
  refine own_ldB X1 hx hZ e1 Ab ⟨by decide, by decide⟩ rfl (hb hby d25_8) ?_
  show own_Go p e below _ T1 (mkF m 9 #[rv b, iv 1] [(.int ch.toInt8.toInt32)])
  refine og_sipush X1 hx (hb hby d25_9) ?_
  refine og_iand X1 hx (hb hby d25_12) ?_
  show own_Go p e below _ T1 (mkF m 13 #[rv b, iv 1] [(.int (ch.toInt8.toInt32 &&& 255))])
  rw [own_rt ch hc]
  show own_Go p e below _ T1 (mkF m 13 #[rv b, iv 1] [(.int ch)])
  refine own_go (fun t k => XS.i2c X1.here hx rfl (hb hby d25_13) rfl k) ?_
  show own_Go p e below _ T1 (mkF m 14 #[rv b, iv 1] [(.int (ch.toUInt32.toUInt16.toUInt32.toInt32))])
  rw [own_ic ch hc]
  show own_Go p e below _ T1 (mkF m 14 #[rv b, iv 1] [(.int ch)])
  exact own_retI X1 hx hret hlk (hb hby d25_14) (own_nc ch hc) (by simp) (by decide) (by decide) (⟨rfl, N1, e1⟩)
def own_r_own_ca_1_4 : Room := { frames := 3, cells := 0, slots := 0, locals := 40 }
theorem own_ca_1_4 (l : Launch) (Z : State) (a0 : Array Value) (hw : own_W a0 Z) (z : Int32) (sf : Value) (t b : Addr) (kb : ClassId) (dv : Value) (ch : Int32) (v0 v2 v3 : Value) (h0 : Heap) (n0 : Nat) (hO : Old Z n0 h0) (hG : own_Gs Z z sf) (hc : ¬ ch < 0 ∧ ¬ (255 : Int32) < ch) (Et : own_E Z h0 t) (Fv : own_V Z h0 t b) (Fc : own_C Z h0 t) (Ab : Arv Z h0 b kb .byte 4 [v0, (.int ch.toInt8.toInt32), v2, v3] dv) :
    own_Met l Z (⟨"java/lang/String", "charAt", "(I)C"⟩ : MethodName) jdk_42_method_56_code 2 (some .char) own_r_own_ca_1_4 #[(.ref t), (.int 1)] h0 (own_Qv (some (.int ch)) h0 n0) := by
  refine own_body (by decide +kernel) ?_
  intro p e s m below meth c T0 X0 hx hZ hby hml hown hnm hret hlk e0
  have N0 := Fr.nil n0
  refine own_cast (own_frame (L := [rv t, iv 1]) (ls := #[rv t, iv 1]) rfl rfl) ?_
  obtain ⟨SC, hz, SF, rf⟩ := id hG
  refine og_aloadN X0 hx (hb hby d24_0) rfl rfl ?_
  refine own_callV X0 hx hZ hown (own_hw hw 55 rfl) (own_hw hw 56 rfl) (notFace_of_selects (args := #[]) (mvT hZ (own_hw hw 58 rfl))) (own_hw hw 58 rfl) (own_hw hw 57 rfl) (own_hw hw 59 rfl) (own_hw hw 11 rfl) (by decide) (b := t) (argsL := []) (rest := []) (own_isl1 l Z a0 hw z sf t h0 n0 hO hG Fc) e0 Et (by rw [hml]; rfl) (lenOf own_pd61835 rfl) rfl (hb hby d24_1) (W := 0) (Nat.le_of_eq rfl) (by decide) ?_
  intro v1 T1 L1 X1 q1
  obtain ⟨rfl, N1q, e1⟩ := q1
  have N1 := Fr.app N0 N1q
  show own_Go p e below _ T1 (mkF m 4 #[rv t, iv 1] [(.int (1 : Int32))])
  refine og_ifN X1 hx (hb hby d24_4) (feq (by decide)).1 ?_
  refine og_aloadN X1 hx (hb hby d24_7) rfl rfl ?_
  refine og_getF X1 hx hZ hown (own_hw hw 28 rfl) Via.refl e1 Fv (hb hby d24_8) ?_
  intro T2 X2 e2
  refine og_iloadN X2 hx (hb hby d24_11) rfl ?_
  refine own_callS X2 hx hZ hown (own_hw hw 112 rfl) (own_hw hw 113 rfl) (own_hw hw 62 rfl) (own_hw hw 114 rfl) (by decide) (argsL := [(.ref b), (.int 1)]) (rest := []) (own_lca_1_4 l Z a0 hw z sf b _ _ ch v0 v2 v3 h0 n0 hO hG hc Ab) e2 (by rw [hml]; rfl) (lenOf own_pd27418 rfl) rfl (hb hby d24_12) (W := 0) (Nat.le_of_eq rfl) (by decide) ?_
  intro v3 T3 L3 X3 q3
  obtain ⟨rfl, N3q, e3⟩ := q3
  have N3 := Fr.app N1 N3q
  show own_Go p e below _ T3 (mkF m 15 #[rv t, iv 1] [(.int ch)])
  exact own_retI X3 hx hret hlk (hb hby d24_15) (own_nc ch hc) (by simp) (by decide) (by decide) (⟨rfl, N3, e3⟩)
def own_r_own_sm_4_1_m1 : Room := { frames := 4, cells := 0, slots := 0, locals := 53 }
theorem own_sm_4_1_m1 (l : Launch) (Z : State) (a0 : Array Value) (hw : own_W a0 Z) (z : Int32) (sf : Value) (t b : Addr) (kb : ClassId) (dv : Value) (ca : Addr) (kc : ClassId) (dc : Value) (c0 c1 c2 c3 : Int32) (h0 : Heap) (n0 : Nat) (hO : Old Z n0 h0) (hG : own_Gs Z z sf) (hc : ¬ c1 < 0 ∧ ¬ (255 : Int32) < c1) (Et : own_E Z h0 t) (Fv : own_V Z h0 t b) (Fc : own_C Z h0 t) (Ab : Arv Z h0 b kb .byte 4 [(.int c0.toInt8.toInt32), (.int c1.toInt8.toInt32), (.int c2.toInt8.toInt32), (.int c3.toInt8.toInt32)] dv) (Ac : Arv Z h0 ca kc .char (4 : Int32) [.int c0, .int c1, .int c2, .int c3] dc) :
    own_Met l Z (⟨"com/example/svazek/svazek/PackageFolderNameOfPinLaw", "same", "(Ljava/lang/String;II[CI)Z"⟩ : MethodName) method_3_code 5 (some .boolean) own_r_own_sm_4_1_m1 #[(.ref t), (.int 4), (.int 1), (.ref ca), (.int (-1))] h0 (own_Qv (some (.int 1)) h0 n0) := by
  refine own_body (by decide +kernel) ?_
  intro p e s m below meth c T0 X0 hx hZ hby hml hown hnm hret hlk e0
  have N0 := Fr.nil n0
  refine own_cast (own_frame (L := [rv t, iv 4, iv 1, rv ca, iv (-1)]) (ls := #[rv t, iv 4, iv 1, rv ca, iv (-1)]) rfl rfl) ?_
  obtain ⟨SC, hz, SF, rf⟩ := id hG
  refine og_iloadN X0 hx (hb hby d19_0) rfl ?_
  refine og_iloadN X0 hx (hb hby d19_1) rfl ?_
  refine og_icY X0 hx 7 (hb hby d19_2) (tlt (by decide)).1 (by decide) (by decide) ?_
  refine og_aloadN X0 hx (hb hby d19_7) rfl rfl ?_
  refine og_iloadN X0 hx (hb hby d19_8) rfl ?_
  refine own_callV X0 hx hZ hown (own_hw hw 107 rfl) (own_hw hw 108 rfl) (notFace_of_selects (args := #[]) (mvT hZ (own_hw hw 110 rfl))) (own_hw hw 110 rfl) (own_hw hw 109 rfl) (own_hw hw 111 rfl) (own_hw hw 11 rfl) (by decide) (b := t) (argsL := [(.int 1)]) (rest := []) (own_ca_1_4 l Z a0 hw z sf t b _ _ c1 (.int c0.toInt8.toInt32) (.int c2.toInt8.toInt32) (.int c3.toInt8.toInt32) h0 n0 hO hG hc Et Fv Fc Ab) e0 Et (by rw [hml]; rfl) (lenOf own_pd47939 rfl) rfl (hb hby d19_9) (W := 0) (Nat.le_of_eq rfl) (by decide) ?_
  intro v1 T1 L1 X1 q1
  obtain ⟨rfl, N1q, e1⟩ := q1
  have N1 := Fr.app N0 N1q
  show own_Go p e below _ T1 (mkF m 12 #[rv t, iv 4, iv 1, rv ca, iv (-1)] [(.int c1)])
  refine og_aloadN X1 hx (hb hby d19_12) rfl rfl ?_
  refine og_iload X1 hx (hb hby d19_13) rfl ?_
  refine og_iconst X1 hx (hb hby d19_15) ?_
  refine og_iadd X1 hx (hb hby d19_16) ?_
  refine og_iloadN X1 hx (hb hby d19_17) rfl ?_
  refine og_iadd X1 hx (hb hby d19_18) ?_
  show own_Go p e below _ T1 (mkF m 19 #[rv t, iv 4, iv 1, rv ca, iv (-1)] [(.int 1), (.ref ca), (.int c1)])
  refine own_ldC X1 hx hZ e1 Ac ⟨by decide, by decide⟩ rfl (hb hby d19_19) ?_
  show own_Go p e below _ T1 (mkF m 20 #[rv t, iv 4, iv 1, rv ca, iv (-1)] [(.int c1), (.int c1)])
  refine og_icN X1 hx (hb hby d19_20) (teq rfl).2 ?_
  refine og_iconst X1 hx (hb hby d19_23) ?_
  refine og_goto X1 hx 28 (hb hby d19_24) (by decide) (by decide) ?_
  exact own_retI X1 hx hret hlk (hb hby d19_28) rfl (by simp) (by decide) (by decide) (⟨rfl, N1, e1⟩)
def own_r_own_lca_2_4 : Room := { frames := 2, cells := 0, slots := 0, locals := 27 }
theorem own_lca_2_4 (l : Launch) (Z : State) (a0 : Array Value) (hw : own_W a0 Z) (z : Int32) (sf : Value) (b : Addr) (kb : ClassId) (dv : Value) (ch : Int32) (v0 v1 v3 : Value) (h0 : Heap) (n0 : Nat) (hO : Old Z n0 h0) (hG : own_Gs Z z sf) (hc : ¬ ch < 0 ∧ ¬ (255 : Int32) < ch) (Ab : Arv Z h0 b kb .byte 4 [v0, v1, (.int ch.toInt8.toInt32), v3] dv) :
    own_Met l Z (⟨"java/lang/StringLatin1", "charAt", "([BI)C"⟩ : MethodName) jdk_43_method_2_code 2 (some .char) own_r_own_lca_2_4 #[(.ref b), (.int 2)] h0 (own_Qv (some (.int ch)) h0 n0) := by
  refine own_body (by decide +kernel) ?_
  intro p e s m below meth c T0 X0 hx hZ hby hml hown hnm hret hlk e0
  have N0 := Fr.nil n0
  refine own_cast (own_frame (L := [rv b, iv 2]) (ls := #[rv b, iv 2]) rfl rfl) ?_
  obtain ⟨SC, hz, SF, rf⟩ := id hG
  refine og_iloadN X0 hx (hb hby d25_0) rfl ?_
  refine og_aloadN X0 hx (hb hby d25_1) rfl rfl ?_
  refine own_len X0 hx hZ e0 Ab (hb hby d25_2) ?_
  show own_Go p e below _ T0 (mkF m 3 #[rv b, iv 2] [(.int 4), (.int 2)])
  refine own_callS X0 hx hZ hown (own_hw hw 115 rfl) (own_hw hw 116 rfl) (own_hw hw 11 rfl) (own_hw hw 117 rfl) (by decide) (argsL := [(.int 2), (.int 4)]) (rest := []) (own_sck l Z a0 hw z sf 2 4 h0 n0 hO hG (by decide) (by decide)) e0 (by rw [hml]; rfl) (lenOf own_pd97226 rfl) rfl (hb hby d25_3) (W := 0) (Nat.le_of_eq rfl) (by decide) ?_
  intro v1 T1 L1 X1 q1
  obtain ⟨rfl, N1q, e1⟩ := q1
  have N1 := Fr.app N0 N1q
  show own_Go p e below _ T1 (mkF m 6 #[rv b, iv 2] [])
  refine og_aloadN X1 hx (hb hby d25_6) rfl rfl ?_
  refine og_iloadN X1 hx (hb hby d25_7) rfl ?_
  refine own_ldB X1 hx hZ e1 Ab ⟨by decide, by decide⟩ rfl (hb hby d25_8) ?_
  show own_Go p e below _ T1 (mkF m 9 #[rv b, iv 2] [(.int ch.toInt8.toInt32)])
  refine og_sipush X1 hx (hb hby d25_9) ?_
  refine og_iand X1 hx (hb hby d25_12) ?_
  show own_Go p e below _ T1 (mkF m 13 #[rv b, iv 2] [(.int (ch.toInt8.toInt32 &&& 255))])
  rw [own_rt ch hc]
  show own_Go p e below _ T1 (mkF m 13 #[rv b, iv 2] [(.int ch)])
  refine own_go (fun t k => XS.i2c X1.here hx rfl (hb hby d25_13) rfl k) ?_
  show own_Go p e below _ T1 (mkF m 14 #[rv b, iv 2] [(.int (ch.toUInt32.toUInt16.toUInt32.toInt32))])
  rw [own_ic ch hc]
  show own_Go p e below _ T1 (mkF m 14 #[rv b, iv 2] [(.int ch)])
  exact own_retI X1 hx hret hlk (hb hby d25_14) (own_nc ch hc) (by simp) (by decide) (by decide) (⟨rfl, N1, e1⟩)
def own_r_own_ca_2_4 : Room := { frames := 3, cells := 0, slots := 0, locals := 40 }
theorem own_ca_2_4 (l : Launch) (Z : State) (a0 : Array Value) (hw : own_W a0 Z) (z : Int32) (sf : Value) (t b : Addr) (kb : ClassId) (dv : Value) (ch : Int32) (v0 v1 v3 : Value) (h0 : Heap) (n0 : Nat) (hO : Old Z n0 h0) (hG : own_Gs Z z sf) (hc : ¬ ch < 0 ∧ ¬ (255 : Int32) < ch) (Et : own_E Z h0 t) (Fv : own_V Z h0 t b) (Fc : own_C Z h0 t) (Ab : Arv Z h0 b kb .byte 4 [v0, v1, (.int ch.toInt8.toInt32), v3] dv) :
    own_Met l Z (⟨"java/lang/String", "charAt", "(I)C"⟩ : MethodName) jdk_42_method_56_code 2 (some .char) own_r_own_ca_2_4 #[(.ref t), (.int 2)] h0 (own_Qv (some (.int ch)) h0 n0) := by
  refine own_body (by decide +kernel) ?_
  intro p e s m below meth c T0 X0 hx hZ hby hml hown hnm hret hlk e0
  have N0 := Fr.nil n0
  refine own_cast (own_frame (L := [rv t, iv 2]) (ls := #[rv t, iv 2]) rfl rfl) ?_
  obtain ⟨SC, hz, SF, rf⟩ := id hG
  refine og_aloadN X0 hx (hb hby d24_0) rfl rfl ?_
  refine own_callV X0 hx hZ hown (own_hw hw 55 rfl) (own_hw hw 56 rfl) (notFace_of_selects (args := #[]) (mvT hZ (own_hw hw 58 rfl))) (own_hw hw 58 rfl) (own_hw hw 57 rfl) (own_hw hw 59 rfl) (own_hw hw 11 rfl) (by decide) (b := t) (argsL := []) (rest := []) (own_isl1 l Z a0 hw z sf t h0 n0 hO hG Fc) e0 Et (by rw [hml]; rfl) (lenOf own_pd61835 rfl) rfl (hb hby d24_1) (W := 0) (Nat.le_of_eq rfl) (by decide) ?_
  intro v1 T1 L1 X1 q1
  obtain ⟨rfl, N1q, e1⟩ := q1
  have N1 := Fr.app N0 N1q
  show own_Go p e below _ T1 (mkF m 4 #[rv t, iv 2] [(.int (1 : Int32))])
  refine og_ifN X1 hx (hb hby d24_4) (feq (by decide)).1 ?_
  refine og_aloadN X1 hx (hb hby d24_7) rfl rfl ?_
  refine og_getF X1 hx hZ hown (own_hw hw 28 rfl) Via.refl e1 Fv (hb hby d24_8) ?_
  intro T2 X2 e2
  refine og_iloadN X2 hx (hb hby d24_11) rfl ?_
  refine own_callS X2 hx hZ hown (own_hw hw 112 rfl) (own_hw hw 113 rfl) (own_hw hw 62 rfl) (own_hw hw 114 rfl) (by decide) (argsL := [(.ref b), (.int 2)]) (rest := []) (own_lca_2_4 l Z a0 hw z sf b _ _ ch v0 v1 v3 h0 n0 hO hG hc Ab) e2 (by rw [hml]; rfl) (lenOf own_pd27418 rfl) rfl (hb hby d24_12) (W := 0) (Nat.le_of_eq rfl) (by decide) ?_
  intro v3 T3 L3 X3 q3
  obtain ⟨rfl, N3q, e3⟩ := q3
  have N3 := Fr.app N1 N3q
  show own_Go p e below _ T3 (mkF m 15 #[rv t, iv 2] [(.int ch)])
  exact own_retI X3 hx hret hlk (hb hby d24_15) (own_nc ch hc) (by simp) (by decide) (by decide) (⟨rfl, N3, e3⟩)
def own_r_own_sm_4_2_m1 : Room := { frames := 4, cells := 0, slots := 0, locals := 53 }
theorem own_sm_4_2_m1 (l : Launch) (Z : State) (a0 : Array Value) (hw : own_W a0 Z) (z : Int32) (sf : Value) (t b : Addr) (kb : ClassId) (dv : Value) (ca : Addr) (kc : ClassId) (dc : Value) (c0 c1 c2 c3 : Int32) (h0 : Heap) (n0 : Nat) (hO : Old Z n0 h0) (hG : own_Gs Z z sf) (hc : ¬ c2 < 0 ∧ ¬ (255 : Int32) < c2) (Et : own_E Z h0 t) (Fv : own_V Z h0 t b) (Fc : own_C Z h0 t) (Ab : Arv Z h0 b kb .byte 4 [(.int c0.toInt8.toInt32), (.int c1.toInt8.toInt32), (.int c2.toInt8.toInt32), (.int c3.toInt8.toInt32)] dv) (Ac : Arv Z h0 ca kc .char (4 : Int32) [.int c0, .int c1, .int c2, .int c3] dc) :
    own_Met l Z (⟨"com/example/svazek/svazek/PackageFolderNameOfPinLaw", "same", "(Ljava/lang/String;II[CI)Z"⟩ : MethodName) method_3_code 5 (some .boolean) own_r_own_sm_4_2_m1 #[(.ref t), (.int 4), (.int 2), (.ref ca), (.int (-1))] h0 (own_Qv (some (.int 1)) h0 n0) := by
  refine own_body (by decide +kernel) ?_
  intro p e s m below meth c T0 X0 hx hZ hby hml hown hnm hret hlk e0
  have N0 := Fr.nil n0
  refine own_cast (own_frame (L := [rv t, iv 4, iv 2, rv ca, iv (-1)]) (ls := #[rv t, iv 4, iv 2, rv ca, iv (-1)]) rfl rfl) ?_
  obtain ⟨SC, hz, SF, rf⟩ := id hG
  refine og_iloadN X0 hx (hb hby d19_0) rfl ?_
  refine og_iloadN X0 hx (hb hby d19_1) rfl ?_
  refine og_icY X0 hx 7 (hb hby d19_2) (tlt (by decide)).1 (by decide) (by decide) ?_
  refine og_aloadN X0 hx (hb hby d19_7) rfl rfl ?_
  refine og_iloadN X0 hx (hb hby d19_8) rfl ?_
  refine own_callV X0 hx hZ hown (own_hw hw 107 rfl) (own_hw hw 108 rfl) (notFace_of_selects (args := #[]) (mvT hZ (own_hw hw 110 rfl))) (own_hw hw 110 rfl) (own_hw hw 109 rfl) (own_hw hw 111 rfl) (own_hw hw 11 rfl) (by decide) (b := t) (argsL := [(.int 2)]) (rest := []) (own_ca_2_4 l Z a0 hw z sf t b _ _ c2 (.int c0.toInt8.toInt32) (.int c1.toInt8.toInt32) (.int c3.toInt8.toInt32) h0 n0 hO hG hc Et Fv Fc Ab) e0 Et (by rw [hml]; rfl) (lenOf own_pd47939 rfl) rfl (hb hby d19_9) (W := 0) (Nat.le_of_eq rfl) (by decide) ?_
  intro v1 T1 L1 X1 q1
  obtain ⟨rfl, N1q, e1⟩ := q1
  have N1 := Fr.app N0 N1q
  show own_Go p e below _ T1 (mkF m 12 #[rv t, iv 4, iv 2, rv ca, iv (-1)] [(.int c2)])
  refine og_aloadN X1 hx (hb hby d19_12) rfl rfl ?_
  refine og_iload X1 hx (hb hby d19_13) rfl ?_
  refine og_iconst X1 hx (hb hby d19_15) ?_
  refine og_iadd X1 hx (hb hby d19_16) ?_
  refine og_iloadN X1 hx (hb hby d19_17) rfl ?_
  refine og_iadd X1 hx (hb hby d19_18) ?_
  show own_Go p e below _ T1 (mkF m 19 #[rv t, iv 4, iv 2, rv ca, iv (-1)] [(.int 2), (.ref ca), (.int c2)])
  refine own_ldC X1 hx hZ e1 Ac ⟨by decide, by decide⟩ rfl (hb hby d19_19) ?_
  show own_Go p e below _ T1 (mkF m 20 #[rv t, iv 4, iv 2, rv ca, iv (-1)] [(.int c2), (.int c2)])
  refine og_icN X1 hx (hb hby d19_20) (teq rfl).2 ?_
  refine og_iconst X1 hx (hb hby d19_23) ?_
  refine og_goto X1 hx 28 (hb hby d19_24) (by decide) (by decide) ?_
  exact own_retI X1 hx hret hlk (hb hby d19_28) rfl (by simp) (by decide) (by decide) (⟨rfl, N1, e1⟩)
def own_r_own_lca_3_4 : Room := { frames := 2, cells := 0, slots := 0, locals := 27 }
theorem own_lca_3_4 (l : Launch) (Z : State) (a0 : Array Value) (hw : own_W a0 Z) (z : Int32) (sf : Value) (b : Addr) (kb : ClassId) (dv : Value) (ch : Int32) (v0 v1 v2 : Value) (h0 : Heap) (n0 : Nat) (hO : Old Z n0 h0) (hG : own_Gs Z z sf) (hc : ¬ ch < 0 ∧ ¬ (255 : Int32) < ch) (Ab : Arv Z h0 b kb .byte 4 [v0, v1, v2, (.int ch.toInt8.toInt32)] dv) :
    own_Met l Z (⟨"java/lang/StringLatin1", "charAt", "([BI)C"⟩ : MethodName) jdk_43_method_2_code 2 (some .char) own_r_own_lca_3_4 #[(.ref b), (.int 3)] h0 (own_Qv (some (.int ch)) h0 n0) := by
  refine own_body (by decide +kernel) ?_
  intro p e s m below meth c T0 X0 hx hZ hby hml hown hnm hret hlk e0
  have N0 := Fr.nil n0
  refine own_cast (own_frame (L := [rv b, iv 3]) (ls := #[rv b, iv 3]) rfl rfl) ?_
  obtain ⟨SC, hz, SF, rf⟩ := id hG
  refine og_iloadN X0 hx (hb hby d25_0) rfl ?_
  refine og_aloadN X0 hx (hb hby d25_1) rfl rfl ?_
  refine own_len X0 hx hZ e0 Ab (hb hby d25_2) ?_
  show own_Go p e below _ T0 (mkF m 3 #[rv b, iv 3] [(.int 4), (.int 3)])
  refine own_callS X0 hx hZ hown (own_hw hw 115 rfl) (own_hw hw 116 rfl) (own_hw hw 11 rfl) (own_hw hw 117 rfl) (by decide) (argsL := [(.int 3), (.int 4)]) (rest := []) (own_sck l Z a0 hw z sf 3 4 h0 n0 hO hG (by decide) (by decide)) e0 (by rw [hml]; rfl) (lenOf own_pd97226 rfl) rfl (hb hby d25_3) (W := 0) (Nat.le_of_eq rfl) (by decide) ?_
  intro v1 T1 L1 X1 q1
  obtain ⟨rfl, N1q, e1⟩ := q1
  have N1 := Fr.app N0 N1q
  show own_Go p e below _ T1 (mkF m 6 #[rv b, iv 3] [])
  refine og_aloadN X1 hx (hb hby d25_6) rfl rfl ?_
  refine og_iloadN X1 hx (hb hby d25_7) rfl ?_
  refine own_ldB X1 hx hZ e1 Ab ⟨by decide, by decide⟩ rfl (hb hby d25_8) ?_
  show own_Go p e below _ T1 (mkF m 9 #[rv b, iv 3] [(.int ch.toInt8.toInt32)])
  refine og_sipush X1 hx (hb hby d25_9) ?_
  refine og_iand X1 hx (hb hby d25_12) ?_
  show own_Go p e below _ T1 (mkF m 13 #[rv b, iv 3] [(.int (ch.toInt8.toInt32 &&& 255))])
  rw [own_rt ch hc]
  show own_Go p e below _ T1 (mkF m 13 #[rv b, iv 3] [(.int ch)])
  refine own_go (fun t k => XS.i2c X1.here hx rfl (hb hby d25_13) rfl k) ?_
  show own_Go p e below _ T1 (mkF m 14 #[rv b, iv 3] [(.int (ch.toUInt32.toUInt16.toUInt32.toInt32))])
  rw [own_ic ch hc]
  show own_Go p e below _ T1 (mkF m 14 #[rv b, iv 3] [(.int ch)])
  exact own_retI X1 hx hret hlk (hb hby d25_14) (own_nc ch hc) (by simp) (by decide) (by decide) (⟨rfl, N1, e1⟩)
def own_r_own_ca_3_4 : Room := { frames := 3, cells := 0, slots := 0, locals := 40 }
theorem own_ca_3_4 (l : Launch) (Z : State) (a0 : Array Value) (hw : own_W a0 Z) (z : Int32) (sf : Value) (t b : Addr) (kb : ClassId) (dv : Value) (ch : Int32) (v0 v1 v2 : Value) (h0 : Heap) (n0 : Nat) (hO : Old Z n0 h0) (hG : own_Gs Z z sf) (hc : ¬ ch < 0 ∧ ¬ (255 : Int32) < ch) (Et : own_E Z h0 t) (Fv : own_V Z h0 t b) (Fc : own_C Z h0 t) (Ab : Arv Z h0 b kb .byte 4 [v0, v1, v2, (.int ch.toInt8.toInt32)] dv) :
    own_Met l Z (⟨"java/lang/String", "charAt", "(I)C"⟩ : MethodName) jdk_42_method_56_code 2 (some .char) own_r_own_ca_3_4 #[(.ref t), (.int 3)] h0 (own_Qv (some (.int ch)) h0 n0) := by
  refine own_body (by decide +kernel) ?_
  intro p e s m below meth c T0 X0 hx hZ hby hml hown hnm hret hlk e0
  have N0 := Fr.nil n0
  refine own_cast (own_frame (L := [rv t, iv 3]) (ls := #[rv t, iv 3]) rfl rfl) ?_
  obtain ⟨SC, hz, SF, rf⟩ := id hG
  refine og_aloadN X0 hx (hb hby d24_0) rfl rfl ?_
  refine own_callV X0 hx hZ hown (own_hw hw 55 rfl) (own_hw hw 56 rfl) (notFace_of_selects (args := #[]) (mvT hZ (own_hw hw 58 rfl))) (own_hw hw 58 rfl) (own_hw hw 57 rfl) (own_hw hw 59 rfl) (own_hw hw 11 rfl) (by decide) (b := t) (argsL := []) (rest := []) (own_isl1 l Z a0 hw z sf t h0 n0 hO hG Fc) e0 Et (by rw [hml]; rfl) (lenOf own_pd61835 rfl) rfl (hb hby d24_1) (W := 0) (Nat.le_of_eq rfl) (by decide) ?_
  intro v1 T1 L1 X1 q1
  obtain ⟨rfl, N1q, e1⟩ := q1
  have N1 := Fr.app N0 N1q
  show own_Go p e below _ T1 (mkF m 4 #[rv t, iv 3] [(.int (1 : Int32))])
  refine og_ifN X1 hx (hb hby d24_4) (feq (by decide)).1 ?_
  refine og_aloadN X1 hx (hb hby d24_7) rfl rfl ?_
  refine og_getF X1 hx hZ hown (own_hw hw 28 rfl) Via.refl e1 Fv (hb hby d24_8) ?_
  intro T2 X2 e2
  refine og_iloadN X2 hx (hb hby d24_11) rfl ?_
  refine own_callS X2 hx hZ hown (own_hw hw 112 rfl) (own_hw hw 113 rfl) (own_hw hw 62 rfl) (own_hw hw 114 rfl) (by decide) (argsL := [(.ref b), (.int 3)]) (rest := []) (own_lca_3_4 l Z a0 hw z sf b _ _ ch v0 v1 v2 h0 n0 hO hG hc Ab) e2 (by rw [hml]; rfl) (lenOf own_pd27418 rfl) rfl (hb hby d24_12) (W := 0) (Nat.le_of_eq rfl) (by decide) ?_
  intro v3 T3 L3 X3 q3
  obtain ⟨rfl, N3q, e3⟩ := q3
  have N3 := Fr.app N1 N3q
  show own_Go p e below _ T3 (mkF m 15 #[rv t, iv 3] [(.int ch)])
  exact own_retI X3 hx hret hlk (hb hby d24_15) (own_nc ch hc) (by simp) (by decide) (by decide) (⟨rfl, N3, e3⟩)
def own_r_own_sm_4_3_m1 : Room := { frames := 4, cells := 0, slots := 0, locals := 53 }
theorem own_sm_4_3_m1 (l : Launch) (Z : State) (a0 : Array Value) (hw : own_W a0 Z) (z : Int32) (sf : Value) (t b : Addr) (kb : ClassId) (dv : Value) (ca : Addr) (kc : ClassId) (dc : Value) (c0 c1 c2 c3 : Int32) (h0 : Heap) (n0 : Nat) (hO : Old Z n0 h0) (hG : own_Gs Z z sf) (hc : ¬ c3 < 0 ∧ ¬ (255 : Int32) < c3) (Et : own_E Z h0 t) (Fv : own_V Z h0 t b) (Fc : own_C Z h0 t) (Ab : Arv Z h0 b kb .byte 4 [(.int c0.toInt8.toInt32), (.int c1.toInt8.toInt32), (.int c2.toInt8.toInt32), (.int c3.toInt8.toInt32)] dv) (Ac : Arv Z h0 ca kc .char (4 : Int32) [.int c0, .int c1, .int c2, .int c3] dc) :
    own_Met l Z (⟨"com/example/svazek/svazek/PackageFolderNameOfPinLaw", "same", "(Ljava/lang/String;II[CI)Z"⟩ : MethodName) method_3_code 5 (some .boolean) own_r_own_sm_4_3_m1 #[(.ref t), (.int 4), (.int 3), (.ref ca), (.int (-1))] h0 (own_Qv (some (.int 1)) h0 n0) := by
  refine own_body (by decide +kernel) ?_
  intro p e s m below meth c T0 X0 hx hZ hby hml hown hnm hret hlk e0
  have N0 := Fr.nil n0
  refine own_cast (own_frame (L := [rv t, iv 4, iv 3, rv ca, iv (-1)]) (ls := #[rv t, iv 4, iv 3, rv ca, iv (-1)]) rfl rfl) ?_
  obtain ⟨SC, hz, SF, rf⟩ := id hG
  refine og_iloadN X0 hx (hb hby d19_0) rfl ?_
  refine og_iloadN X0 hx (hb hby d19_1) rfl ?_
  refine og_icY X0 hx 7 (hb hby d19_2) (tlt (by decide)).1 (by decide) (by decide) ?_
  refine og_aloadN X0 hx (hb hby d19_7) rfl rfl ?_
  refine og_iloadN X0 hx (hb hby d19_8) rfl ?_
  refine own_callV X0 hx hZ hown (own_hw hw 107 rfl) (own_hw hw 108 rfl) (notFace_of_selects (args := #[]) (mvT hZ (own_hw hw 110 rfl))) (own_hw hw 110 rfl) (own_hw hw 109 rfl) (own_hw hw 111 rfl) (own_hw hw 11 rfl) (by decide) (b := t) (argsL := [(.int 3)]) (rest := []) (own_ca_3_4 l Z a0 hw z sf t b _ _ c3 (.int c0.toInt8.toInt32) (.int c1.toInt8.toInt32) (.int c2.toInt8.toInt32) h0 n0 hO hG hc Et Fv Fc Ab) e0 Et (by rw [hml]; rfl) (lenOf own_pd47939 rfl) rfl (hb hby d19_9) (W := 0) (Nat.le_of_eq rfl) (by decide) ?_
  intro v1 T1 L1 X1 q1
  obtain ⟨rfl, N1q, e1⟩ := q1
  have N1 := Fr.app N0 N1q
  show own_Go p e below _ T1 (mkF m 12 #[rv t, iv 4, iv 3, rv ca, iv (-1)] [(.int c3)])
  refine og_aloadN X1 hx (hb hby d19_12) rfl rfl ?_
  refine og_iload X1 hx (hb hby d19_13) rfl ?_
  refine og_iconst X1 hx (hb hby d19_15) ?_
  refine og_iadd X1 hx (hb hby d19_16) ?_
  refine og_iloadN X1 hx (hb hby d19_17) rfl ?_
  refine og_iadd X1 hx (hb hby d19_18) ?_
  show own_Go p e below _ T1 (mkF m 19 #[rv t, iv 4, iv 3, rv ca, iv (-1)] [(.int 3), (.ref ca), (.int c3)])
  refine own_ldC X1 hx hZ e1 Ac ⟨by decide, by decide⟩ rfl (hb hby d19_19) ?_
  show own_Go p e below _ T1 (mkF m 20 #[rv t, iv 4, iv 3, rv ca, iv (-1)] [(.int c3), (.int c3)])
  refine og_icN X1 hx (hb hby d19_20) (teq rfl).2 ?_
  refine og_iconst X1 hx (hb hby d19_23) ?_
  refine og_goto X1 hx 28 (hb hby d19_24) (by decide) (by decide) ?_
  exact own_retI X1 hx hret hlk (hb hby d19_28) rfl (by simp) (by decide) (by decide) (⟨rfl, N1, e1⟩)
def own_r_own_sm_1_0_0 : Room := { frames := 4, cells := 0, slots := 0, locals := 53 }
theorem own_sm_1_0_0 (l : Launch) (Z : State) (a0 : Array Value) (hw : own_W a0 Z) (z : Int32) (sf : Value) (t b : Addr) (kb : ClassId) (dv : Value) (ca : Addr) (kc : ClassId) (dc : Value) (c0 c1 c2 c3 : Int32) (h0 : Heap) (n0 : Nat) (hO : Old Z n0 h0) (hG : own_Gs Z z sf) (hc : ¬ c1 < 0 ∧ ¬ (255 : Int32) < c1) (Et : own_E Z h0 t) (Fv : own_V Z h0 t b) (Fc : own_C Z h0 t) (Ab : Arv Z h0 b kb .byte 1 [(.int c1.toInt8.toInt32)] dv) (Ac : Arv Z h0 ca kc .char (4 : Int32) [.int c0, .int c1, .int c2, .int c3] dc) :
    own_Met l Z (⟨"com/example/svazek/svazek/PackageFolderNameOfPinLaw", "same", "(Ljava/lang/String;II[CI)Z"⟩ : MethodName) method_3_code 5 (some .boolean) own_r_own_sm_1_0_0 #[(.ref t), (.int 1), (.int 0), (.ref ca), (.int 0)] h0 (own_Qv (some (.int 1)) h0 n0) := by
  refine own_body (by decide +kernel) ?_
  intro p e s m below meth c T0 X0 hx hZ hby hml hown hnm hret hlk e0
  have N0 := Fr.nil n0
  refine own_cast (own_frame (L := [rv t, iv 1, iv 0, rv ca, iv 0]) (ls := #[rv t, iv 1, iv 0, rv ca, iv 0]) rfl rfl) ?_
  obtain ⟨SC, hz, SF, rf⟩ := id hG
  refine og_iloadN X0 hx (hb hby d19_0) rfl ?_
  refine og_iloadN X0 hx (hb hby d19_1) rfl ?_
  refine og_icY X0 hx 7 (hb hby d19_2) (tlt (by decide)).1 (by decide) (by decide) ?_
  refine og_aloadN X0 hx (hb hby d19_7) rfl rfl ?_
  refine og_iloadN X0 hx (hb hby d19_8) rfl ?_
  refine own_callV X0 hx hZ hown (own_hw hw 107 rfl) (own_hw hw 108 rfl) (notFace_of_selects (args := #[]) (mvT hZ (own_hw hw 110 rfl))) (own_hw hw 110 rfl) (own_hw hw 109 rfl) (own_hw hw 111 rfl) (own_hw hw 11 rfl) (by decide) (b := t) (argsL := [(.int 0)]) (rest := []) (own_ca_0_1 l Z a0 hw z sf t b _ _ c1 h0 n0 hO hG hc Et Fv Fc Ab) e0 Et (by rw [hml]; rfl) (lenOf own_pd47939 rfl) rfl (hb hby d19_9) (W := 0) (Nat.le_of_eq rfl) (by decide) ?_
  intro v1 T1 L1 X1 q1
  obtain ⟨rfl, N1q, e1⟩ := q1
  have N1 := Fr.app N0 N1q
  show own_Go p e below _ T1 (mkF m 12 #[rv t, iv 1, iv 0, rv ca, iv 0] [(.int c1)])
  refine og_aloadN X1 hx (hb hby d19_12) rfl rfl ?_
  refine og_iload X1 hx (hb hby d19_13) rfl ?_
  refine og_iconst X1 hx (hb hby d19_15) ?_
  refine og_iadd X1 hx (hb hby d19_16) ?_
  refine og_iloadN X1 hx (hb hby d19_17) rfl ?_
  refine og_iadd X1 hx (hb hby d19_18) ?_
  show own_Go p e below _ T1 (mkF m 19 #[rv t, iv 1, iv 0, rv ca, iv 0] [(.int 1), (.ref ca), (.int c1)])
  refine own_ldC X1 hx hZ e1 Ac ⟨by decide, by decide⟩ rfl (hb hby d19_19) ?_
  show own_Go p e below _ T1 (mkF m 20 #[rv t, iv 1, iv 0, rv ca, iv 0] [(.int c1), (.int c1)])
  refine og_icN X1 hx (hb hby d19_20) (teq rfl).2 ?_
  refine og_iconst X1 hx (hb hby d19_23) ?_
  refine og_goto X1 hx 28 (hb hby d19_24) (by decide) (by decide) ?_
  exact own_retI X1 hx hret hlk (hb hby d19_28) rfl (by simp) (by decide) (by decide) (⟨rfl, N1, e1⟩)
def own_r_own_sm_2_0_0 : Room := { frames := 4, cells := 0, slots := 0, locals := 53 }
theorem own_sm_2_0_0 (l : Launch) (Z : State) (a0 : Array Value) (hw : own_W a0 Z) (z : Int32) (sf : Value) (t b : Addr) (kb : ClassId) (dv : Value) (ca : Addr) (kc : ClassId) (dc : Value) (c0 c1 c2 c3 : Int32) (h0 : Heap) (n0 : Nat) (hO : Old Z n0 h0) (hG : own_Gs Z z sf) (hc : ¬ c1 < 0 ∧ ¬ (255 : Int32) < c1) (Et : own_E Z h0 t) (Fv : own_V Z h0 t b) (Fc : own_C Z h0 t) (Ab : Arv Z h0 b kb .byte 2 [(.int c1.toInt8.toInt32), (.int c2.toInt8.toInt32)] dv) (Ac : Arv Z h0 ca kc .char (4 : Int32) [.int c0, .int c1, .int c2, .int c3] dc) :
    own_Met l Z (⟨"com/example/svazek/svazek/PackageFolderNameOfPinLaw", "same", "(Ljava/lang/String;II[CI)Z"⟩ : MethodName) method_3_code 5 (some .boolean) own_r_own_sm_2_0_0 #[(.ref t), (.int 2), (.int 0), (.ref ca), (.int 0)] h0 (own_Qv (some (.int 1)) h0 n0) := by
  refine own_body (by decide +kernel) ?_
  intro p e s m below meth c T0 X0 hx hZ hby hml hown hnm hret hlk e0
  have N0 := Fr.nil n0
  refine own_cast (own_frame (L := [rv t, iv 2, iv 0, rv ca, iv 0]) (ls := #[rv t, iv 2, iv 0, rv ca, iv 0]) rfl rfl) ?_
  obtain ⟨SC, hz, SF, rf⟩ := id hG
  refine og_iloadN X0 hx (hb hby d19_0) rfl ?_
  refine og_iloadN X0 hx (hb hby d19_1) rfl ?_
  refine og_icY X0 hx 7 (hb hby d19_2) (tlt (by decide)).1 (by decide) (by decide) ?_
  refine og_aloadN X0 hx (hb hby d19_7) rfl rfl ?_
  refine og_iloadN X0 hx (hb hby d19_8) rfl ?_
  refine own_callV X0 hx hZ hown (own_hw hw 107 rfl) (own_hw hw 108 rfl) (notFace_of_selects (args := #[]) (mvT hZ (own_hw hw 110 rfl))) (own_hw hw 110 rfl) (own_hw hw 109 rfl) (own_hw hw 111 rfl) (own_hw hw 11 rfl) (by decide) (b := t) (argsL := [(.int 0)]) (rest := []) (own_ca_0_2 l Z a0 hw z sf t b _ _ c1 (.int c2.toInt8.toInt32) h0 n0 hO hG hc Et Fv Fc Ab) e0 Et (by rw [hml]; rfl) (lenOf own_pd47939 rfl) rfl (hb hby d19_9) (W := 0) (Nat.le_of_eq rfl) (by decide) ?_
  intro v1 T1 L1 X1 q1
  obtain ⟨rfl, N1q, e1⟩ := q1
  have N1 := Fr.app N0 N1q
  show own_Go p e below _ T1 (mkF m 12 #[rv t, iv 2, iv 0, rv ca, iv 0] [(.int c1)])
  refine og_aloadN X1 hx (hb hby d19_12) rfl rfl ?_
  refine og_iload X1 hx (hb hby d19_13) rfl ?_
  refine og_iconst X1 hx (hb hby d19_15) ?_
  refine og_iadd X1 hx (hb hby d19_16) ?_
  refine og_iloadN X1 hx (hb hby d19_17) rfl ?_
  refine og_iadd X1 hx (hb hby d19_18) ?_
  show own_Go p e below _ T1 (mkF m 19 #[rv t, iv 2, iv 0, rv ca, iv 0] [(.int 1), (.ref ca), (.int c1)])
  refine own_ldC X1 hx hZ e1 Ac ⟨by decide, by decide⟩ rfl (hb hby d19_19) ?_
  show own_Go p e below _ T1 (mkF m 20 #[rv t, iv 2, iv 0, rv ca, iv 0] [(.int c1), (.int c1)])
  refine og_icN X1 hx (hb hby d19_20) (teq rfl).2 ?_
  refine og_iconst X1 hx (hb hby d19_23) ?_
  refine og_goto X1 hx 28 (hb hby d19_24) (by decide) (by decide) ?_
  exact own_retI X1 hx hret hlk (hb hby d19_28) rfl (by simp) (by decide) (by decide) (⟨rfl, N1, e1⟩)
def own_r_own_sm_2_1_0 : Room := { frames := 4, cells := 0, slots := 0, locals := 53 }
theorem own_sm_2_1_0 (l : Launch) (Z : State) (a0 : Array Value) (hw : own_W a0 Z) (z : Int32) (sf : Value) (t b : Addr) (kb : ClassId) (dv : Value) (ca : Addr) (kc : ClassId) (dc : Value) (c0 c1 c2 c3 : Int32) (h0 : Heap) (n0 : Nat) (hO : Old Z n0 h0) (hG : own_Gs Z z sf) (hc : ¬ c2 < 0 ∧ ¬ (255 : Int32) < c2) (Et : own_E Z h0 t) (Fv : own_V Z h0 t b) (Fc : own_C Z h0 t) (Ab : Arv Z h0 b kb .byte 2 [(.int c1.toInt8.toInt32), (.int c2.toInt8.toInt32)] dv) (Ac : Arv Z h0 ca kc .char (4 : Int32) [.int c0, .int c1, .int c2, .int c3] dc) :
    own_Met l Z (⟨"com/example/svazek/svazek/PackageFolderNameOfPinLaw", "same", "(Ljava/lang/String;II[CI)Z"⟩ : MethodName) method_3_code 5 (some .boolean) own_r_own_sm_2_1_0 #[(.ref t), (.int 2), (.int 1), (.ref ca), (.int 0)] h0 (own_Qv (some (.int 1)) h0 n0) := by
  refine own_body (by decide +kernel) ?_
  intro p e s m below meth c T0 X0 hx hZ hby hml hown hnm hret hlk e0
  have N0 := Fr.nil n0
  refine own_cast (own_frame (L := [rv t, iv 2, iv 1, rv ca, iv 0]) (ls := #[rv t, iv 2, iv 1, rv ca, iv 0]) rfl rfl) ?_
  obtain ⟨SC, hz, SF, rf⟩ := id hG
  refine og_iloadN X0 hx (hb hby d19_0) rfl ?_
  refine og_iloadN X0 hx (hb hby d19_1) rfl ?_
  refine og_icY X0 hx 7 (hb hby d19_2) (tlt (by decide)).1 (by decide) (by decide) ?_
  refine og_aloadN X0 hx (hb hby d19_7) rfl rfl ?_
  refine og_iloadN X0 hx (hb hby d19_8) rfl ?_
  refine own_callV X0 hx hZ hown (own_hw hw 107 rfl) (own_hw hw 108 rfl) (notFace_of_selects (args := #[]) (mvT hZ (own_hw hw 110 rfl))) (own_hw hw 110 rfl) (own_hw hw 109 rfl) (own_hw hw 111 rfl) (own_hw hw 11 rfl) (by decide) (b := t) (argsL := [(.int 1)]) (rest := []) (own_ca_1_2 l Z a0 hw z sf t b _ _ c2 (.int c1.toInt8.toInt32) h0 n0 hO hG hc Et Fv Fc Ab) e0 Et (by rw [hml]; rfl) (lenOf own_pd47939 rfl) rfl (hb hby d19_9) (W := 0) (Nat.le_of_eq rfl) (by decide) ?_
  intro v1 T1 L1 X1 q1
  obtain ⟨rfl, N1q, e1⟩ := q1
  have N1 := Fr.app N0 N1q
  show own_Go p e below _ T1 (mkF m 12 #[rv t, iv 2, iv 1, rv ca, iv 0] [(.int c2)])
  refine og_aloadN X1 hx (hb hby d19_12) rfl rfl ?_
  refine og_iload X1 hx (hb hby d19_13) rfl ?_
  refine og_iconst X1 hx (hb hby d19_15) ?_
  refine og_iadd X1 hx (hb hby d19_16) ?_
  refine og_iloadN X1 hx (hb hby d19_17) rfl ?_
  refine og_iadd X1 hx (hb hby d19_18) ?_
  show own_Go p e below _ T1 (mkF m 19 #[rv t, iv 2, iv 1, rv ca, iv 0] [(.int 2), (.ref ca), (.int c2)])
  refine own_ldC X1 hx hZ e1 Ac ⟨by decide, by decide⟩ rfl (hb hby d19_19) ?_
  show own_Go p e below _ T1 (mkF m 20 #[rv t, iv 2, iv 1, rv ca, iv 0] [(.int c2), (.int c2)])
  refine og_icN X1 hx (hb hby d19_20) (teq rfl).2 ?_
  refine og_iconst X1 hx (hb hby d19_23) ?_
  refine og_goto X1 hx 28 (hb hby d19_24) (by decide) (by decide) ?_
  exact own_retI X1 hx hret hlk (hb hby d19_28) rfl (by simp) (by decide) (by decide) (⟨rfl, N1, e1⟩)
def own_r_own_sm_3_0_0 : Room := { frames := 4, cells := 0, slots := 0, locals := 53 }
theorem own_sm_3_0_0 (l : Launch) (Z : State) (a0 : Array Value) (hw : own_W a0 Z) (z : Int32) (sf : Value) (t b : Addr) (kb : ClassId) (dv : Value) (ca : Addr) (kc : ClassId) (dc : Value) (c0 c1 c2 c3 : Int32) (h0 : Heap) (n0 : Nat) (hO : Old Z n0 h0) (hG : own_Gs Z z sf) (hc : ¬ c1 < 0 ∧ ¬ (255 : Int32) < c1) (Et : own_E Z h0 t) (Fv : own_V Z h0 t b) (Fc : own_C Z h0 t) (Ab : Arv Z h0 b kb .byte 3 [(.int c1.toInt8.toInt32), (.int c2.toInt8.toInt32), (.int c3.toInt8.toInt32)] dv) (Ac : Arv Z h0 ca kc .char (4 : Int32) [.int c0, .int c1, .int c2, .int c3] dc) :
    own_Met l Z (⟨"com/example/svazek/svazek/PackageFolderNameOfPinLaw", "same", "(Ljava/lang/String;II[CI)Z"⟩ : MethodName) method_3_code 5 (some .boolean) own_r_own_sm_3_0_0 #[(.ref t), (.int 3), (.int 0), (.ref ca), (.int 0)] h0 (own_Qv (some (.int 1)) h0 n0) := by
  refine own_body (by decide +kernel) ?_
  intro p e s m below meth c T0 X0 hx hZ hby hml hown hnm hret hlk e0
  have N0 := Fr.nil n0
  refine own_cast (own_frame (L := [rv t, iv 3, iv 0, rv ca, iv 0]) (ls := #[rv t, iv 3, iv 0, rv ca, iv 0]) rfl rfl) ?_
  obtain ⟨SC, hz, SF, rf⟩ := id hG
  refine og_iloadN X0 hx (hb hby d19_0) rfl ?_
  refine og_iloadN X0 hx (hb hby d19_1) rfl ?_
  refine og_icY X0 hx 7 (hb hby d19_2) (tlt (by decide)).1 (by decide) (by decide) ?_
  refine og_aloadN X0 hx (hb hby d19_7) rfl rfl ?_
  refine og_iloadN X0 hx (hb hby d19_8) rfl ?_
  refine own_callV X0 hx hZ hown (own_hw hw 107 rfl) (own_hw hw 108 rfl) (notFace_of_selects (args := #[]) (mvT hZ (own_hw hw 110 rfl))) (own_hw hw 110 rfl) (own_hw hw 109 rfl) (own_hw hw 111 rfl) (own_hw hw 11 rfl) (by decide) (b := t) (argsL := [(.int 0)]) (rest := []) (own_ca_0_3 l Z a0 hw z sf t b _ _ c1 (.int c2.toInt8.toInt32) (.int c3.toInt8.toInt32) h0 n0 hO hG hc Et Fv Fc Ab) e0 Et (by rw [hml]; rfl) (lenOf own_pd47939 rfl) rfl (hb hby d19_9) (W := 0) (Nat.le_of_eq rfl) (by decide) ?_
  intro v1 T1 L1 X1 q1
  obtain ⟨rfl, N1q, e1⟩ := q1
  have N1 := Fr.app N0 N1q
  show own_Go p e below _ T1 (mkF m 12 #[rv t, iv 3, iv 0, rv ca, iv 0] [(.int c1)])
  refine og_aloadN X1 hx (hb hby d19_12) rfl rfl ?_
  refine og_iload X1 hx (hb hby d19_13) rfl ?_
  refine og_iconst X1 hx (hb hby d19_15) ?_
  refine og_iadd X1 hx (hb hby d19_16) ?_
  refine og_iloadN X1 hx (hb hby d19_17) rfl ?_
  refine og_iadd X1 hx (hb hby d19_18) ?_
  show own_Go p e below _ T1 (mkF m 19 #[rv t, iv 3, iv 0, rv ca, iv 0] [(.int 1), (.ref ca), (.int c1)])
  refine own_ldC X1 hx hZ e1 Ac ⟨by decide, by decide⟩ rfl (hb hby d19_19) ?_
  show own_Go p e below _ T1 (mkF m 20 #[rv t, iv 3, iv 0, rv ca, iv 0] [(.int c1), (.int c1)])
  refine og_icN X1 hx (hb hby d19_20) (teq rfl).2 ?_
  refine og_iconst X1 hx (hb hby d19_23) ?_
  refine og_goto X1 hx 28 (hb hby d19_24) (by decide) (by decide) ?_
  exact own_retI X1 hx hret hlk (hb hby d19_28) rfl (by simp) (by decide) (by decide) (⟨rfl, N1, e1⟩)
def own_r_own_sm_3_1_0 : Room := { frames := 4, cells := 0, slots := 0, locals := 53 }
theorem own_sm_3_1_0 (l : Launch) (Z : State) (a0 : Array Value) (hw : own_W a0 Z) (z : Int32) (sf : Value) (t b : Addr) (kb : ClassId) (dv : Value) (ca : Addr) (kc : ClassId) (dc : Value) (c0 c1 c2 c3 : Int32) (h0 : Heap) (n0 : Nat) (hO : Old Z n0 h0) (hG : own_Gs Z z sf) (hc : ¬ c2 < 0 ∧ ¬ (255 : Int32) < c2) (Et : own_E Z h0 t) (Fv : own_V Z h0 t b) (Fc : own_C Z h0 t) (Ab : Arv Z h0 b kb .byte 3 [(.int c1.toInt8.toInt32), (.int c2.toInt8.toInt32), (.int c3.toInt8.toInt32)] dv) (Ac : Arv Z h0 ca kc .char (4 : Int32) [.int c0, .int c1, .int c2, .int c3] dc) :
    own_Met l Z (⟨"com/example/svazek/svazek/PackageFolderNameOfPinLaw", "same", "(Ljava/lang/String;II[CI)Z"⟩ : MethodName) method_3_code 5 (some .boolean) own_r_own_sm_3_1_0 #[(.ref t), (.int 3), (.int 1), (.ref ca), (.int 0)] h0 (own_Qv (some (.int 1)) h0 n0) := by
  refine own_body (by decide +kernel) ?_
  intro p e s m below meth c T0 X0 hx hZ hby hml hown hnm hret hlk e0
  have N0 := Fr.nil n0
  refine own_cast (own_frame (L := [rv t, iv 3, iv 1, rv ca, iv 0]) (ls := #[rv t, iv 3, iv 1, rv ca, iv 0]) rfl rfl) ?_
  obtain ⟨SC, hz, SF, rf⟩ := id hG
  refine og_iloadN X0 hx (hb hby d19_0) rfl ?_
  refine og_iloadN X0 hx (hb hby d19_1) rfl ?_
  refine og_icY X0 hx 7 (hb hby d19_2) (tlt (by decide)).1 (by decide) (by decide) ?_
  refine og_aloadN X0 hx (hb hby d19_7) rfl rfl ?_
  refine og_iloadN X0 hx (hb hby d19_8) rfl ?_
  refine own_callV X0 hx hZ hown (own_hw hw 107 rfl) (own_hw hw 108 rfl) (notFace_of_selects (args := #[]) (mvT hZ (own_hw hw 110 rfl))) (own_hw hw 110 rfl) (own_hw hw 109 rfl) (own_hw hw 111 rfl) (own_hw hw 11 rfl) (by decide) (b := t) (argsL := [(.int 1)]) (rest := []) (own_ca_1_3 l Z a0 hw z sf t b _ _ c2 (.int c1.toInt8.toInt32) (.int c3.toInt8.toInt32) h0 n0 hO hG hc Et Fv Fc Ab) e0 Et (by rw [hml]; rfl) (lenOf own_pd47939 rfl) rfl (hb hby d19_9) (W := 0) (Nat.le_of_eq rfl) (by decide) ?_
  intro v1 T1 L1 X1 q1
  obtain ⟨rfl, N1q, e1⟩ := q1
  have N1 := Fr.app N0 N1q
  show own_Go p e below _ T1 (mkF m 12 #[rv t, iv 3, iv 1, rv ca, iv 0] [(.int c2)])
  refine og_aloadN X1 hx (hb hby d19_12) rfl rfl ?_
  refine og_iload X1 hx (hb hby d19_13) rfl ?_
  refine og_iconst X1 hx (hb hby d19_15) ?_
  refine og_iadd X1 hx (hb hby d19_16) ?_
  refine og_iloadN X1 hx (hb hby d19_17) rfl ?_
  refine og_iadd X1 hx (hb hby d19_18) ?_
  show own_Go p e below _ T1 (mkF m 19 #[rv t, iv 3, iv 1, rv ca, iv 0] [(.int 2), (.ref ca), (.int c2)])
  refine own_ldC X1 hx hZ e1 Ac ⟨by decide, by decide⟩ rfl (hb hby d19_19) ?_
  show own_Go p e below _ T1 (mkF m 20 #[rv t, iv 3, iv 1, rv ca, iv 0] [(.int c2), (.int c2)])
  refine og_icN X1 hx (hb hby d19_20) (teq rfl).2 ?_
  refine og_iconst X1 hx (hb hby d19_23) ?_
  refine og_goto X1 hx 28 (hb hby d19_24) (by decide) (by decide) ?_
  exact own_retI X1 hx hret hlk (hb hby d19_28) rfl (by simp) (by decide) (by decide) (⟨rfl, N1, e1⟩)
def own_r_own_sm_3_2_0 : Room := { frames := 4, cells := 0, slots := 0, locals := 53 }
theorem own_sm_3_2_0 (l : Launch) (Z : State) (a0 : Array Value) (hw : own_W a0 Z) (z : Int32) (sf : Value) (t b : Addr) (kb : ClassId) (dv : Value) (ca : Addr) (kc : ClassId) (dc : Value) (c0 c1 c2 c3 : Int32) (h0 : Heap) (n0 : Nat) (hO : Old Z n0 h0) (hG : own_Gs Z z sf) (hc : ¬ c3 < 0 ∧ ¬ (255 : Int32) < c3) (Et : own_E Z h0 t) (Fv : own_V Z h0 t b) (Fc : own_C Z h0 t) (Ab : Arv Z h0 b kb .byte 3 [(.int c1.toInt8.toInt32), (.int c2.toInt8.toInt32), (.int c3.toInt8.toInt32)] dv) (Ac : Arv Z h0 ca kc .char (4 : Int32) [.int c0, .int c1, .int c2, .int c3] dc) :
    own_Met l Z (⟨"com/example/svazek/svazek/PackageFolderNameOfPinLaw", "same", "(Ljava/lang/String;II[CI)Z"⟩ : MethodName) method_3_code 5 (some .boolean) own_r_own_sm_3_2_0 #[(.ref t), (.int 3), (.int 2), (.ref ca), (.int 0)] h0 (own_Qv (some (.int 1)) h0 n0) := by
  refine own_body (by decide +kernel) ?_
  intro p e s m below meth c T0 X0 hx hZ hby hml hown hnm hret hlk e0
  have N0 := Fr.nil n0
  refine own_cast (own_frame (L := [rv t, iv 3, iv 2, rv ca, iv 0]) (ls := #[rv t, iv 3, iv 2, rv ca, iv 0]) rfl rfl) ?_
  obtain ⟨SC, hz, SF, rf⟩ := id hG
  refine og_iloadN X0 hx (hb hby d19_0) rfl ?_
  refine og_iloadN X0 hx (hb hby d19_1) rfl ?_
  refine og_icY X0 hx 7 (hb hby d19_2) (tlt (by decide)).1 (by decide) (by decide) ?_
  refine og_aloadN X0 hx (hb hby d19_7) rfl rfl ?_
  refine og_iloadN X0 hx (hb hby d19_8) rfl ?_
  refine own_callV X0 hx hZ hown (own_hw hw 107 rfl) (own_hw hw 108 rfl) (notFace_of_selects (args := #[]) (mvT hZ (own_hw hw 110 rfl))) (own_hw hw 110 rfl) (own_hw hw 109 rfl) (own_hw hw 111 rfl) (own_hw hw 11 rfl) (by decide) (b := t) (argsL := [(.int 2)]) (rest := []) (own_ca_2_3 l Z a0 hw z sf t b _ _ c3 (.int c1.toInt8.toInt32) (.int c2.toInt8.toInt32) h0 n0 hO hG hc Et Fv Fc Ab) e0 Et (by rw [hml]; rfl) (lenOf own_pd47939 rfl) rfl (hb hby d19_9) (W := 0) (Nat.le_of_eq rfl) (by decide) ?_
  intro v1 T1 L1 X1 q1
  obtain ⟨rfl, N1q, e1⟩ := q1
  have N1 := Fr.app N0 N1q
  show own_Go p e below _ T1 (mkF m 12 #[rv t, iv 3, iv 2, rv ca, iv 0] [(.int c3)])
  refine og_aloadN X1 hx (hb hby d19_12) rfl rfl ?_
  refine og_iload X1 hx (hb hby d19_13) rfl ?_
  refine og_iconst X1 hx (hb hby d19_15) ?_
  refine og_iadd X1 hx (hb hby d19_16) ?_
  refine og_iloadN X1 hx (hb hby d19_17) rfl ?_
  refine og_iadd X1 hx (hb hby d19_18) ?_
  show own_Go p e below _ T1 (mkF m 19 #[rv t, iv 3, iv 2, rv ca, iv 0] [(.int 3), (.ref ca), (.int c3)])
  refine own_ldC X1 hx hZ e1 Ac ⟨by decide, by decide⟩ rfl (hb hby d19_19) ?_
  show own_Go p e below _ T1 (mkF m 20 #[rv t, iv 3, iv 2, rv ca, iv 0] [(.int c3), (.int c3)])
  refine og_icN X1 hx (hb hby d19_20) (teq rfl).2 ?_
  refine og_iconst X1 hx (hb hby d19_23) ?_
  refine og_goto X1 hx 28 (hb hby d19_24) (by decide) (by decide) ?_
  exact own_retI X1 hx hret hlk (hb hby d19_28) rfl (by simp) (by decide) (by decide) (⟨rfl, N1, e1⟩)
def own_r_own_sm_1_0_1 : Room := { frames := 4, cells := 0, slots := 0, locals := 53 }
theorem own_sm_1_0_1 (l : Launch) (Z : State) (a0 : Array Value) (hw : own_W a0 Z) (z : Int32) (sf : Value) (t b : Addr) (kb : ClassId) (dv : Value) (ca : Addr) (kc : ClassId) (dc : Value) (c0 c1 c2 c3 : Int32) (h0 : Heap) (n0 : Nat) (hO : Old Z n0 h0) (hG : own_Gs Z z sf) (hc : ¬ c2 < 0 ∧ ¬ (255 : Int32) < c2) (Et : own_E Z h0 t) (Fv : own_V Z h0 t b) (Fc : own_C Z h0 t) (Ab : Arv Z h0 b kb .byte 1 [(.int c2.toInt8.toInt32)] dv) (Ac : Arv Z h0 ca kc .char (4 : Int32) [.int c0, .int c1, .int c2, .int c3] dc) :
    own_Met l Z (⟨"com/example/svazek/svazek/PackageFolderNameOfPinLaw", "same", "(Ljava/lang/String;II[CI)Z"⟩ : MethodName) method_3_code 5 (some .boolean) own_r_own_sm_1_0_1 #[(.ref t), (.int 1), (.int 0), (.ref ca), (.int 1)] h0 (own_Qv (some (.int 1)) h0 n0) := by
  refine own_body (by decide +kernel) ?_
  intro p e s m below meth c T0 X0 hx hZ hby hml hown hnm hret hlk e0
  have N0 := Fr.nil n0
  refine own_cast (own_frame (L := [rv t, iv 1, iv 0, rv ca, iv 1]) (ls := #[rv t, iv 1, iv 0, rv ca, iv 1]) rfl rfl) ?_
  obtain ⟨SC, hz, SF, rf⟩ := id hG
  refine og_iloadN X0 hx (hb hby d19_0) rfl ?_
  refine og_iloadN X0 hx (hb hby d19_1) rfl ?_
  refine og_icY X0 hx 7 (hb hby d19_2) (tlt (by decide)).1 (by decide) (by decide) ?_
  refine og_aloadN X0 hx (hb hby d19_7) rfl rfl ?_
  refine og_iloadN X0 hx (hb hby d19_8) rfl ?_
  refine own_callV X0 hx hZ hown (own_hw hw 107 rfl) (own_hw hw 108 rfl) (notFace_of_selects (args := #[]) (mvT hZ (own_hw hw 110 rfl))) (own_hw hw 110 rfl) (own_hw hw 109 rfl) (own_hw hw 111 rfl) (own_hw hw 11 rfl) (by decide) (b := t) (argsL := [(.int 0)]) (rest := []) (own_ca_0_1 l Z a0 hw z sf t b _ _ c2 h0 n0 hO hG hc Et Fv Fc Ab) e0 Et (by rw [hml]; rfl) (lenOf own_pd47939 rfl) rfl (hb hby d19_9) (W := 0) (Nat.le_of_eq rfl) (by decide) ?_
  intro v1 T1 L1 X1 q1
  obtain ⟨rfl, N1q, e1⟩ := q1
  have N1 := Fr.app N0 N1q
  show own_Go p e below _ T1 (mkF m 12 #[rv t, iv 1, iv 0, rv ca, iv 1] [(.int c2)])
  refine og_aloadN X1 hx (hb hby d19_12) rfl rfl ?_
  refine og_iload X1 hx (hb hby d19_13) rfl ?_
  refine og_iconst X1 hx (hb hby d19_15) ?_
  refine og_iadd X1 hx (hb hby d19_16) ?_
  refine og_iloadN X1 hx (hb hby d19_17) rfl ?_
  refine og_iadd X1 hx (hb hby d19_18) ?_
  show own_Go p e below _ T1 (mkF m 19 #[rv t, iv 1, iv 0, rv ca, iv 1] [(.int 2), (.ref ca), (.int c2)])
  refine own_ldC X1 hx hZ e1 Ac ⟨by decide, by decide⟩ rfl (hb hby d19_19) ?_
  show own_Go p e below _ T1 (mkF m 20 #[rv t, iv 1, iv 0, rv ca, iv 1] [(.int c2), (.int c2)])
  refine og_icN X1 hx (hb hby d19_20) (teq rfl).2 ?_
  refine og_iconst X1 hx (hb hby d19_23) ?_
  refine og_goto X1 hx 28 (hb hby d19_24) (by decide) (by decide) ?_
  exact own_retI X1 hx hret hlk (hb hby d19_28) rfl (by simp) (by decide) (by decide) (⟨rfl, N1, e1⟩)
def own_r_own_sm_2_0_1 : Room := { frames := 4, cells := 0, slots := 0, locals := 53 }
theorem own_sm_2_0_1 (l : Launch) (Z : State) (a0 : Array Value) (hw : own_W a0 Z) (z : Int32) (sf : Value) (t b : Addr) (kb : ClassId) (dv : Value) (ca : Addr) (kc : ClassId) (dc : Value) (c0 c1 c2 c3 : Int32) (h0 : Heap) (n0 : Nat) (hO : Old Z n0 h0) (hG : own_Gs Z z sf) (hc : ¬ c2 < 0 ∧ ¬ (255 : Int32) < c2) (Et : own_E Z h0 t) (Fv : own_V Z h0 t b) (Fc : own_C Z h0 t) (Ab : Arv Z h0 b kb .byte 2 [(.int c2.toInt8.toInt32), (.int c3.toInt8.toInt32)] dv) (Ac : Arv Z h0 ca kc .char (4 : Int32) [.int c0, .int c1, .int c2, .int c3] dc) :
    own_Met l Z (⟨"com/example/svazek/svazek/PackageFolderNameOfPinLaw", "same", "(Ljava/lang/String;II[CI)Z"⟩ : MethodName) method_3_code 5 (some .boolean) own_r_own_sm_2_0_1 #[(.ref t), (.int 2), (.int 0), (.ref ca), (.int 1)] h0 (own_Qv (some (.int 1)) h0 n0) := by
  refine own_body (by decide +kernel) ?_
  intro p e s m below meth c T0 X0 hx hZ hby hml hown hnm hret hlk e0
  have N0 := Fr.nil n0
  refine own_cast (own_frame (L := [rv t, iv 2, iv 0, rv ca, iv 1]) (ls := #[rv t, iv 2, iv 0, rv ca, iv 1]) rfl rfl) ?_
  obtain ⟨SC, hz, SF, rf⟩ := id hG
  refine og_iloadN X0 hx (hb hby d19_0) rfl ?_
  refine og_iloadN X0 hx (hb hby d19_1) rfl ?_
  refine og_icY X0 hx 7 (hb hby d19_2) (tlt (by decide)).1 (by decide) (by decide) ?_
  refine og_aloadN X0 hx (hb hby d19_7) rfl rfl ?_
  refine og_iloadN X0 hx (hb hby d19_8) rfl ?_
  refine own_callV X0 hx hZ hown (own_hw hw 107 rfl) (own_hw hw 108 rfl) (notFace_of_selects (args := #[]) (mvT hZ (own_hw hw 110 rfl))) (own_hw hw 110 rfl) (own_hw hw 109 rfl) (own_hw hw 111 rfl) (own_hw hw 11 rfl) (by decide) (b := t) (argsL := [(.int 0)]) (rest := []) (own_ca_0_2 l Z a0 hw z sf t b _ _ c2 (.int c3.toInt8.toInt32) h0 n0 hO hG hc Et Fv Fc Ab) e0 Et (by rw [hml]; rfl) (lenOf own_pd47939 rfl) rfl (hb hby d19_9) (W := 0) (Nat.le_of_eq rfl) (by decide) ?_
  intro v1 T1 L1 X1 q1
  obtain ⟨rfl, N1q, e1⟩ := q1
  have N1 := Fr.app N0 N1q
  show own_Go p e below _ T1 (mkF m 12 #[rv t, iv 2, iv 0, rv ca, iv 1] [(.int c2)])
  refine og_aloadN X1 hx (hb hby d19_12) rfl rfl ?_
  refine og_iload X1 hx (hb hby d19_13) rfl ?_
  refine og_iconst X1 hx (hb hby d19_15) ?_
  refine og_iadd X1 hx (hb hby d19_16) ?_
  refine og_iloadN X1 hx (hb hby d19_17) rfl ?_
  refine og_iadd X1 hx (hb hby d19_18) ?_
  show own_Go p e below _ T1 (mkF m 19 #[rv t, iv 2, iv 0, rv ca, iv 1] [(.int 2), (.ref ca), (.int c2)])
  refine own_ldC X1 hx hZ e1 Ac ⟨by decide, by decide⟩ rfl (hb hby d19_19) ?_
  show own_Go p e below _ T1 (mkF m 20 #[rv t, iv 2, iv 0, rv ca, iv 1] [(.int c2), (.int c2)])
  refine og_icN X1 hx (hb hby d19_20) (teq rfl).2 ?_
  refine og_iconst X1 hx (hb hby d19_23) ?_
  refine og_goto X1 hx 28 (hb hby d19_24) (by decide) (by decide) ?_
  exact own_retI X1 hx hret hlk (hb hby d19_28) rfl (by simp) (by decide) (by decide) (⟨rfl, N1, e1⟩)
def own_r_own_sm_2_1_1 : Room := { frames := 4, cells := 0, slots := 0, locals := 53 }
theorem own_sm_2_1_1 (l : Launch) (Z : State) (a0 : Array Value) (hw : own_W a0 Z) (z : Int32) (sf : Value) (t b : Addr) (kb : ClassId) (dv : Value) (ca : Addr) (kc : ClassId) (dc : Value) (c0 c1 c2 c3 : Int32) (h0 : Heap) (n0 : Nat) (hO : Old Z n0 h0) (hG : own_Gs Z z sf) (hc : ¬ c3 < 0 ∧ ¬ (255 : Int32) < c3) (Et : own_E Z h0 t) (Fv : own_V Z h0 t b) (Fc : own_C Z h0 t) (Ab : Arv Z h0 b kb .byte 2 [(.int c2.toInt8.toInt32), (.int c3.toInt8.toInt32)] dv) (Ac : Arv Z h0 ca kc .char (4 : Int32) [.int c0, .int c1, .int c2, .int c3] dc) :
    own_Met l Z (⟨"com/example/svazek/svazek/PackageFolderNameOfPinLaw", "same", "(Ljava/lang/String;II[CI)Z"⟩ : MethodName) method_3_code 5 (some .boolean) own_r_own_sm_2_1_1 #[(.ref t), (.int 2), (.int 1), (.ref ca), (.int 1)] h0 (own_Qv (some (.int 1)) h0 n0) := by
  refine own_body (by decide +kernel) ?_
  intro p e s m below meth c T0 X0 hx hZ hby hml hown hnm hret hlk e0
  have N0 := Fr.nil n0
  refine own_cast (own_frame (L := [rv t, iv 2, iv 1, rv ca, iv 1]) (ls := #[rv t, iv 2, iv 1, rv ca, iv 1]) rfl rfl) ?_
  obtain ⟨SC, hz, SF, rf⟩ := id hG
  refine og_iloadN X0 hx (hb hby d19_0) rfl ?_
  refine og_iloadN X0 hx (hb hby d19_1) rfl ?_
  refine og_icY X0 hx 7 (hb hby d19_2) (tlt (by decide)).1 (by decide) (by decide) ?_
  refine og_aloadN X0 hx (hb hby d19_7) rfl rfl ?_
  refine og_iloadN X0 hx (hb hby d19_8) rfl ?_
  refine own_callV X0 hx hZ hown (own_hw hw 107 rfl) (own_hw hw 108 rfl) (notFace_of_selects (args := #[]) (mvT hZ (own_hw hw 110 rfl))) (own_hw hw 110 rfl) (own_hw hw 109 rfl) (own_hw hw 111 rfl) (own_hw hw 11 rfl) (by decide) (b := t) (argsL := [(.int 1)]) (rest := []) (own_ca_1_2 l Z a0 hw z sf t b _ _ c3 (.int c2.toInt8.toInt32) h0 n0 hO hG hc Et Fv Fc Ab) e0 Et (by rw [hml]; rfl) (lenOf own_pd47939 rfl) rfl (hb hby d19_9) (W := 0) (Nat.le_of_eq rfl) (by decide) ?_
  intro v1 T1 L1 X1 q1
  obtain ⟨rfl, N1q, e1⟩ := q1
  have N1 := Fr.app N0 N1q
  show own_Go p e below _ T1 (mkF m 12 #[rv t, iv 2, iv 1, rv ca, iv 1] [(.int c3)])
  refine og_aloadN X1 hx (hb hby d19_12) rfl rfl ?_
  refine og_iload X1 hx (hb hby d19_13) rfl ?_
  refine og_iconst X1 hx (hb hby d19_15) ?_
  refine og_iadd X1 hx (hb hby d19_16) ?_
  refine og_iloadN X1 hx (hb hby d19_17) rfl ?_
  refine og_iadd X1 hx (hb hby d19_18) ?_
  show own_Go p e below _ T1 (mkF m 19 #[rv t, iv 2, iv 1, rv ca, iv 1] [(.int 3), (.ref ca), (.int c3)])
  refine own_ldC X1 hx hZ e1 Ac ⟨by decide, by decide⟩ rfl (hb hby d19_19) ?_
  show own_Go p e below _ T1 (mkF m 20 #[rv t, iv 2, iv 1, rv ca, iv 1] [(.int c3), (.int c3)])
  refine og_icN X1 hx (hb hby d19_20) (teq rfl).2 ?_
  refine og_iconst X1 hx (hb hby d19_23) ?_
  refine og_goto X1 hx 28 (hb hby d19_24) (by decide) (by decide) ?_
  exact own_retI X1 hx hret hlk (hb hby d19_28) rfl (by simp) (by decide) (by decide) (⟨rfl, N1, e1⟩)
def own_r_own_sm_1_0_2 : Room := { frames := 4, cells := 0, slots := 0, locals := 53 }
theorem own_sm_1_0_2 (l : Launch) (Z : State) (a0 : Array Value) (hw : own_W a0 Z) (z : Int32) (sf : Value) (t b : Addr) (kb : ClassId) (dv : Value) (ca : Addr) (kc : ClassId) (dc : Value) (c0 c1 c2 c3 : Int32) (h0 : Heap) (n0 : Nat) (hO : Old Z n0 h0) (hG : own_Gs Z z sf) (hc : ¬ c3 < 0 ∧ ¬ (255 : Int32) < c3) (Et : own_E Z h0 t) (Fv : own_V Z h0 t b) (Fc : own_C Z h0 t) (Ab : Arv Z h0 b kb .byte 1 [(.int c3.toInt8.toInt32)] dv) (Ac : Arv Z h0 ca kc .char (4 : Int32) [.int c0, .int c1, .int c2, .int c3] dc) :
    own_Met l Z (⟨"com/example/svazek/svazek/PackageFolderNameOfPinLaw", "same", "(Ljava/lang/String;II[CI)Z"⟩ : MethodName) method_3_code 5 (some .boolean) own_r_own_sm_1_0_2 #[(.ref t), (.int 1), (.int 0), (.ref ca), (.int 2)] h0 (own_Qv (some (.int 1)) h0 n0) := by
  refine own_body (by decide +kernel) ?_
  intro p e s m below meth c T0 X0 hx hZ hby hml hown hnm hret hlk e0
  have N0 := Fr.nil n0
  refine own_cast (own_frame (L := [rv t, iv 1, iv 0, rv ca, iv 2]) (ls := #[rv t, iv 1, iv 0, rv ca, iv 2]) rfl rfl) ?_
  obtain ⟨SC, hz, SF, rf⟩ := id hG
  refine og_iloadN X0 hx (hb hby d19_0) rfl ?_
  refine og_iloadN X0 hx (hb hby d19_1) rfl ?_
  refine og_icY X0 hx 7 (hb hby d19_2) (tlt (by decide)).1 (by decide) (by decide) ?_
  refine og_aloadN X0 hx (hb hby d19_7) rfl rfl ?_
  refine og_iloadN X0 hx (hb hby d19_8) rfl ?_
  refine own_callV X0 hx hZ hown (own_hw hw 107 rfl) (own_hw hw 108 rfl) (notFace_of_selects (args := #[]) (mvT hZ (own_hw hw 110 rfl))) (own_hw hw 110 rfl) (own_hw hw 109 rfl) (own_hw hw 111 rfl) (own_hw hw 11 rfl) (by decide) (b := t) (argsL := [(.int 0)]) (rest := []) (own_ca_0_1 l Z a0 hw z sf t b _ _ c3 h0 n0 hO hG hc Et Fv Fc Ab) e0 Et (by rw [hml]; rfl) (lenOf own_pd47939 rfl) rfl (hb hby d19_9) (W := 0) (Nat.le_of_eq rfl) (by decide) ?_
  intro v1 T1 L1 X1 q1
  obtain ⟨rfl, N1q, e1⟩ := q1
  have N1 := Fr.app N0 N1q
  show own_Go p e below _ T1 (mkF m 12 #[rv t, iv 1, iv 0, rv ca, iv 2] [(.int c3)])
  refine og_aloadN X1 hx (hb hby d19_12) rfl rfl ?_
  refine og_iload X1 hx (hb hby d19_13) rfl ?_
  refine og_iconst X1 hx (hb hby d19_15) ?_
  refine og_iadd X1 hx (hb hby d19_16) ?_
  refine og_iloadN X1 hx (hb hby d19_17) rfl ?_
  refine og_iadd X1 hx (hb hby d19_18) ?_
  show own_Go p e below _ T1 (mkF m 19 #[rv t, iv 1, iv 0, rv ca, iv 2] [(.int 3), (.ref ca), (.int c3)])
  refine own_ldC X1 hx hZ e1 Ac ⟨by decide, by decide⟩ rfl (hb hby d19_19) ?_
  show own_Go p e below _ T1 (mkF m 20 #[rv t, iv 1, iv 0, rv ca, iv 2] [(.int c3), (.int c3)])
  refine og_icN X1 hx (hb hby d19_20) (teq rfl).2 ?_
  refine og_iconst X1 hx (hb hby d19_23) ?_
  refine og_goto X1 hx 28 (hb hby d19_24) (by decide) (by decide) ?_
  exact own_retI X1 hx hret hlk (hb hby d19_28) rfl (by simp) (by decide) (by decide) (⟨rfl, N1, e1⟩)
theorem own_last1 (c0 : Int32) : (c0 = 47) ∨ (¬ c0 = 47 ∧ True) := by
  by_cases h0 : c0 = 47
  · exact Or.inl h0
  exact Or.inr ⟨h0, trivial⟩
theorem own_last2 (c0 c1 : Int32) : (c1 = 47) ∨ (¬ c1 = 47 ∧ c0 = 47) ∨ (¬ c1 = 47 ∧ ¬ c0 = 47 ∧ True) := by
  by_cases h1 : c1 = 47
  · exact Or.inl h1
  by_cases h0 : c0 = 47
  · exact Or.inr (Or.inl ⟨h1, h0⟩)
  exact Or.inr (Or.inr ⟨h1, h0, trivial⟩)
theorem own_last3 (c0 c1 c2 : Int32) : (c2 = 47) ∨ (¬ c2 = 47 ∧ c1 = 47) ∨ (¬ c2 = 47 ∧ ¬ c1 = 47 ∧ c0 = 47) ∨ (¬ c2 = 47 ∧ ¬ c1 = 47 ∧ ¬ c0 = 47 ∧ True) := by
  by_cases h2 : c2 = 47
  · exact Or.inl h2
  by_cases h1 : c1 = 47
  · exact Or.inr (Or.inl ⟨h2, h1⟩)
  by_cases h0 : c0 = 47
  · exact Or.inr (Or.inr (Or.inl ⟨h2, h1, h0⟩))
  exact Or.inr (Or.inr (Or.inr ⟨h2, h1, h0, trivial⟩))
theorem own_last4 (c0 c1 c2 c3 : Int32) : (c3 = 47) ∨ (¬ c3 = 47 ∧ c2 = 47) ∨ (¬ c3 = 47 ∧ ¬ c2 = 47 ∧ c1 = 47) ∨ (¬ c3 = 47 ∧ ¬ c2 = 47 ∧ ¬ c1 = 47 ∧ c0 = 47) ∨ (¬ c3 = 47 ∧ ¬ c2 = 47 ∧ ¬ c1 = 47 ∧ ¬ c0 = 47 ∧ True) := by
  by_cases h3 : c3 = 47
  · exact Or.inl h3
  by_cases h2 : c2 = 47
  · exact Or.inr (Or.inl ⟨h3, h2⟩)
  by_cases h1 : c1 = 47
  · exact Or.inr (Or.inr (Or.inl ⟨h3, h2, h1⟩))
  by_cases h0 : c0 = 47
  · exact Or.inr (Or.inr (Or.inr (Or.inl ⟨h3, h2, h1, h0⟩)))
  exact Or.inr (Or.inr (Or.inr (Or.inr ⟨h3, h2, h1, h0, trivial⟩)))
def own_Qz (Z : State) (a1 : Addr) (h0 : Heap) (n0 : Nat) (v : Option Value) (h : Heap) (L : List Loc) : Prop := ∃ (d : Addr) (k : ClassId), v = none ∧ Fr n0 L ∧ Keep h0 h [a1] ∧ Fld Z h a1 "java/lang/String" "value" "[B" (.ref d) ∧ Fld Z h a1 "java/lang/String" "coder" "B" (.int (0 : Int32)) ∧ Arv Z h d k .byte (0 : Int32) [] (.int (0 : Int32))
theorem d4_0 : decode jdk_42_method_149_code 0 = .ok (.aload_n 0, 1) := by decide +kernel
theorem d4_1 : decode jdk_42_method_149_code 1 = .ok (.invokespecial 1, 3) := by decide +kernel
theorem d4_4 : decode jdk_42_method_149_code 4 = .ok (.iload_n 3, 1) := by decide +kernel
theorem d4_5 : decode jdk_42_method_149_code 5 = .ok (.ifCond .ne 22, 3) := by decide +kernel
theorem d4_8 : decode jdk_42_method_149_code 8 = .ok (.aload_n 0, 1) := by decide +kernel
theorem d4_9 : decode jdk_42_method_149_code 9 = .ok (.ldc 7, 2) := by decide +kernel
theorem d4_11 : decode jdk_42_method_149_code 11 = .ok (.getfield 9, 3) := by decide +kernel
theorem d4_14 : decode jdk_42_method_149_code 14 = .ok (.putfield 9, 3) := by decide +kernel
theorem d4_17 : decode jdk_42_method_149_code 17 = .ok (.aload_n 0, 1) := by decide +kernel
theorem d4_18 : decode jdk_42_method_149_code 18 = .ok (.ldc 7, 2) := by decide +kernel
theorem d4_20 : decode jdk_42_method_149_code 20 = .ok (.getfield 15, 3) := by decide +kernel
theorem d4_23 : decode jdk_42_method_149_code 23 = .ok (.putfield 15, 3) := by decide +kernel
theorem d4_26 : decode jdk_42_method_149_code 26 = .ok (.return_, 1) := by decide +kernel
def own_r_own_siz : Room := { frames := 1, cells := 2, slots := 4, locals := 12 }
theorem own_siz (l : Launch) (Z : State) (a0 : Array Value) (hw : own_W a0 Z) (a1 ca : Addr) (u2 : Value) (h0 : Heap) (n0 : Nat) (hO : Old Z n0 h0) (g1 : n0 ≤ a1) (E1 : Exa Z h0 a1 "java/lang/String") (F1 : Fld Z h0 a1 "java/lang/String" "value" "[B" .null) (F2 : Fld Z h0 a1 "java/lang/String" "coder" "B" u2) :
    own_MetH l Z own_EL (⟨"java/lang/String", "<init>", "([CIILjava/lang/Void;)V"⟩ : MethodName) jdk_42_method_149_code 6 none own_r_own_siz #[(.ref a1), (.ref ca), (.int 0), (.int 0), .null] h0 (own_Qz Z a1 h0 n0) := by
  refine own_bodyH (by decide +kernel) ?_
  intro p e s m below meth c T0 X0 hx hZ hby hml hown hnm hret hlk e0 hS hk C0
  have hwS : ∀ a ∈ Bundle.stringAtoms, a.before a0 Z = true := fun d hd => hw d ((by decide +kernel : ∀ d ∈ Bundle.stringAtoms, d ∈ tables_1) d hd)
  have N0 := Fr.nil n0
  refine own_cast (own_frame (L := [rv a1, rv ca, iv 0, iv 0, .val .null]) (ls := #[rv a1, rv ca, iv 0, iv 0, .val .null, .unset]) rfl rfl) ?_
  have S0_a1 : Safe Z own_EL s.vm h0 a1 := own_safe0 hZ.alike E1 F1
  refine og_aloadN X0 hx (hb hby d4_0) rfl rfl ?_
  obtain ⟨T1, X1, e1, st1⟩ := initO X0 hx hZ hown (own_hw hw 19 rfl) (own_hw hw 20 rfl) (own_hw hw 21 rfl) e0 (g := (mkF m 1 #[rv a1, rv ca, iv 0, iv 0, .val .null, .unset] [(.ref a1)])) rfl (by rw [hml]; rfl) rfl (hb hby d4_1) (by decide) (W := 0) (by show 2 * 0 + _ ≤ _; exact Nat.le_of_eq rfl) (by decide)
  refine own_go st1 ?_
  show own_Go p e below _ T1 (mkF m 4 #[rv a1, rv ca, iv 0, iv 0, .val .null, .unset] [])
  refine og_iloadN X1 hx (hb hby d4_4) rfl ?_
  refine og_ifN X1 hx (hb hby d4_5) (teq rfl).2 ?_
  refine og_aloadN X1 hx (hb hby d4_8) rfl rfl ?_
  refine own_ldcH X1 hx hZ hown (own_hw hw 22 rfl) hwS e1 hS hk (own_EW hw) (List.mem_of_getElem? (i := 0) rfl) C0.1 (z := 0) ⟨by decide, rfl⟩ (by decide) rfl (hb hby d4_9) 0 (by decide) (by decide) (by decide) (by decide) ?_
  intro s2 T2 h2 k2 d2 kb2 X2 e2 E2 hS2 hk2 hZ2 hown2 Es2 Fc2 Fv2 As2 C2q Lt2 ns2
  have E_a1_2 := E1.ext E2
  have F_a1_value_2 := F1.ext E2
  have F_a1_coder_2 := F2.ext E2
  have S_a1_2 := CHr.safe C2q E1.lt S0_a1
  have C2 := C0.trans C2q
  have O2 := hO.ext E2
  have K2 := (Keep.refl h0 [a1]).ext E2
  have E_s2_2 : Exa Z h2 s2 "java/lang/String" := Es2
  have F_s2_coder_2 : Fld Z h2 s2 "java/lang/String" "coder" "B" (.int (0 : Int32)) := Fc2
  have F_s2_value_2 : Fld Z h2 s2 "java/lang/String" "value" "[B" (.ref d2) := Fv2
  have A_d2_2 : Arv Z h2 d2 kb2 .byte 0 [] (.int 0) := As2
  have ne_a1_s2 := (ns2 _ S_a1_2).1
  have ne_a1_d2 := (ns2 _ S_a1_2).2
  show own_Go p e below _ T2 (mkF m 11 #[rv a1, rv ca, iv 0, iv 0, .val .null, .unset] [(.ref s2), (.ref a1)])
  refine og_getF X2 hx hZ2 hown2 (own_hw hw 28 rfl) Via.refl e2 F_s2_value_2 (hb hby d4_11) ?_
  intro T3 X3 e3
  show own_Go p e below _ T3 (mkF m 14 #[rv a1, rv ca, iv 0, iv 0, .val .null, .unset] [(.ref d2), (.ref a1)])
  obtain ⟨T4, h4, X4, e4, W4, st4⟩ := putF X3 hx hZ2 hown2 (host := "") (Or.inl (own_hw hw 28 rfl)) Via.refl e3 F_a1_value_2 E_a1_2 (Or.inr ⟨(own_hw hw 24 rfl), rfl, hnm⟩) (own_hw hw 10 rfl) (ty := (.array .byte)) (by decide) rfl rfl (g := (mkF m 14 #[rv a1, rv ca, iv 0, iv 0, .val .null, .unset] [(.ref d2), (.ref a1)])) rfl rfl (hb hby d4_14)
  refine own_go st4 ?_
  have hk4 := Nat.le_trans hk2 (Keep.of_wr W4).1
  have sf4 := S_a1_2
  have C4 := C2.trans (CHr.wr W4 sf4 C2.1)
  have E_a1_4 := E_a1_2.wr W4
  have F_a1_coder_4 := F_a1_coder_2.other W4 (Or.inr (slot_ne (Or.inr (own_hw hw 25 rfl)) (Or.inr (own_hw hw 24 rfl)) (by decide) (t := .byte) (t' := (.array .byte)) (by decide) (by decide)))
  have S_a1_4 := Safe.wr W4 sf4 C2.1 S_a1_2
  have E_s2_4 := E_s2_2.wr W4
  have F_s2_coder_4 := F_s2_coder_2.other W4 (Or.inl (Ne.symm ne_a1_s2))
  have F_s2_value_4 := F_s2_value_2.other W4 (Or.inl (Ne.symm ne_a1_s2))
  have A_d2_4 := A_d2_2.other W4 (Ne.symm ne_a1_d2)
  have O4 := O2.wr W4 g1
  have K4 := K2.wr W4 (Or.inl (by simp))
  have N4 := Fr.snoc X4 N0 g1
  have F_a1_value_4 : Fld Z h4 a1 "java/lang/String" "value" "[B" (.ref d2) := F_a1_value_2.same W4
  show own_Go p e below _ T4 (mkF m 17 #[rv a1, rv ca, iv 0, iv 0, .val .null, .unset] [])
  refine og_aloadN X4 hx (hb hby d4_17) rfl rfl ?_
  refine own_go (ldcAgain X4 hx hZ2 hown2 (own_hw hw 22 rfl) Lt2 (g := (mkF m 18 #[rv a1, rv ca, iv 0, iv 0, .val .null, .unset] [(.ref a1)])) rfl (hb hby d4_18)) ?_
  show own_Go p e below _ T4 (mkF m 20 #[rv a1, rv ca, iv 0, iv 0, .val .null, .unset] [(.ref s2), (.ref a1)])
  refine og_getF X4 hx hZ2 hown2 (own_hw hw 29 rfl) Via.refl e4 F_s2_coder_4 (hb hby d4_20) ?_
  intro T6 X6 e6
  show own_Go p e below _ T6 (mkF m 23 #[rv a1, rv ca, iv 0, iv 0, .val .null, .unset] [(.int (0 : Int32)), (.ref a1)])
  obtain ⟨T7, h7, X7, e7, W7, st7⟩ := putFN X6 hx hZ2 hown2 (own_hw hw 29 rfl) Via.refl e6 F_a1_coder_4 E_a1_4 (Or.inr ⟨(own_hw hw 25 rfl), rfl, hnm⟩) (own_hw hw 10 rfl) (ty := .byte) (v' := (.int (0 : Int32))) (by decide) rfl (by decide) (g := (mkF m 23 #[rv a1, rv ca, iv 0, iv 0, .val .null, .unset] [(.int (0 : Int32)), (.ref a1)])) rfl rfl (hb hby d4_23)
  refine own_go st7 ?_
  have hk7 := Nat.le_trans hk4 (Keep.of_wr W7).1
  have sf7 := S_a1_4
  have C7 := C4.trans (CHr.wr W7 sf7 C4.1)
  have E_a1_7 := E_a1_4.wr W7
  have S_a1_7 := Safe.wr W7 sf7 C4.1 S_a1_4
  have E_s2_7 := E_s2_4.wr W7
  have F_s2_coder_7 := F_s2_coder_4.other W7 (Or.inl (Ne.symm ne_a1_s2))
  have F_s2_value_7 := F_s2_value_4.other W7 (Or.inl (Ne.symm ne_a1_s2))
  have A_d2_7 := A_d2_4.other W7 (Ne.symm ne_a1_d2)
  have F_a1_value_7 := F_a1_value_4.other W7 (Or.inr (slot_ne (Or.inr (own_hw hw 24 rfl)) (Or.inr (own_hw hw 25 rfl)) (by decide) (t := (.array .byte)) (t' := .byte) (by decide) (by decide)))
  have O7 := O4.wr W7 g1
  have K7 := K4.wr W7 (Or.inl (by simp))
  have N7 := Fr.snoc X7 N4 g1
  have F_a1_coder_7 : Fld Z h7 a1 "java/lang/String" "coder" "B" (.int (0 : Int32)) := F_a1_coder_4.same W7
  show own_Go p e below _ T7 (mkF m 26 #[rv a1, rv ca, iv 0, iv 0, .val .null, .unset] [])
  exact own_retVH X7 hx hret hlk (hb hby d4_26) hZ2 (own_EW hw) C7 e7 hS2 hk7 (by decide) (by decide) (by rw [e7]; exact ⟨d2, _, rfl, N7, K7, F_a1_value_7, F_a1_coder_7, A_d2_7⟩)
theorem d3_0 : decode jdk_42_method_3_code 0 = .ok (.aload_n 0, 1) := by decide +kernel
theorem d3_1 : decode jdk_42_method_3_code 1 = .ok (.aload_n 1, 1) := by decide +kernel
theorem d3_2 : decode jdk_42_method_3_code 2 = .ok (.iconst 0, 1) := by decide +kernel
theorem d3_3 : decode jdk_42_method_3_code 3 = .ok (.aload_n 1, 1) := by decide +kernel
theorem d3_4 : decode jdk_42_method_3_code 4 = .ok (.arraylength, 1) := by decide +kernel
theorem d3_5 : decode jdk_42_method_3_code 5 = .ok (.aconst_null, 1) := by decide +kernel
theorem d3_6 : decode jdk_42_method_3_code 6 = .ok (.invokespecial 27, 3) := by decide +kernel
theorem d3_9 : decode jdk_42_method_3_code 9 = .ok (.return_, 1) := by decide +kernel
theorem own_pd61703 : parseMethodDescriptor "([CIILjava/lang/Void;)V" = some ⟨[(.array .char), .int, .int, (.object "java/lang/Void")], none⟩ := by decide +kernel
def own_r_own_sz : Room := { frames := 2, cells := 2, slots := 4, locals := 29 }
theorem own_sz (l : Launch) (Z : State) (a0 : Array Value) (hw : own_W a0 Z) (a1 ca : Addr) (kc : ClassId) (u2 : Value) (h0 : Heap) (n0 : Nat) (hO : Old Z n0 h0) (g1 : n0 ≤ a1) (E1 : Exa Z h0 a1 "java/lang/String") (F1 : Fld Z h0 a1 "java/lang/String" "value" "[B" .null) (F2 : Fld Z h0 a1 "java/lang/String" "coder" "B" u2) (nec : a1 ≠ ca) (Ac : Arv Z h0 ca kc .char (0 : Int32) [] (.int (0 : Int32))) :
    own_MetH l Z own_EL (⟨"java/lang/String", "<init>", "([C)V"⟩ : MethodName) jdk_42_method_3_code 2 none own_r_own_sz #[(.ref a1), (.ref ca)] h0 (own_Qz Z a1 h0 n0) := by
  refine own_bodyH (by decide +kernel) ?_
  intro p e s m below meth c T0 X0 hx hZ hby hml hown hnm hret hlk e0 hS hk C0
  have hwS : ∀ a ∈ Bundle.stringAtoms, a.before a0 Z = true := fun d hd => hw d ((by decide +kernel : ∀ d ∈ Bundle.stringAtoms, d ∈ tables_1) d hd)
  have N0 := Fr.nil n0
  refine own_cast (own_frame (L := [rv a1, rv ca]) (ls := #[rv a1, rv ca]) rfl rfl) ?_
  have S0_a1 : Safe Z own_EL s.vm h0 a1 := own_safe0 hZ.alike E1 F1
  refine og_aloadN X0 hx (hb hby d3_0) rfl rfl ?_
  refine og_aloadN X0 hx (hb hby d3_1) rfl rfl ?_
  refine og_iconst X0 hx (hb hby d3_2) ?_
  refine og_aloadN X0 hx (hb hby d3_3) rfl rfl ?_
  refine own_len X0 hx hZ e0 Ac (hb hby d3_4) ?_
  show own_Go p e below _ T0 (mkF m 5 #[rv a1, rv ca] [(.int 0), (.int 0), (.ref ca), (.ref a1)])
  refine og_null X0 hx (hb hby d3_5) ?_
  refine own_callNH X0 hx hZ hown (own_hw hw 15 rfl) (own_hw hw 16 rfl) (own_hw hw 18 rfl) (own_hw hw 11 rfl) (by decide) rfl (b := a1) (argsL := [(.ref ca), (.int 0), (.int 0), .null]) (rest := []) (own_siz l Z a0 hw a1 ca _ h0 n0 hO g1 E1 F1 F2) (own_EW hw) C0.1 hS hk e0 (by rw [hml]; rfl) (lenOf own_pd61703 rfl) rfl (hb hby d3_6) (W := 0) (Nat.le_of_eq rfl) (by decide) ?_
  intro v1 T1 L1 X1 hS1 hZ1 hown1 C1q q1
  obtain ⟨d1, k1, rfl, N1q, K1q, Fv1, Fc1, A1q⟩ := q1
  have N1 := Fr.app N0 N1q
  have C1 := C0.trans C1q
  have E_a1_1 := E1.keep K1q
  have A_ca_1 := Ac.keep K1q (ninS (Ne.symm nec) nin0)
  have S_a1_1 := CHr.safe C1q E1.lt S0_a1
  have O1 := hO.keep K1q (allS g1 all0)
  have K1 := (Keep.refl h0 [a1]).trans K1q (allS (Or.inl (by simp)) all0)
  show own_Go p e below _ T1 (mkF m 9 #[rv a1, rv ca] [])
  exact own_retVH X1 hx hret hlk (hb hby d3_9) hZ1 (own_EW hw) C1 rfl hS1 (Nat.le_refl _) (by decide) (by decide) (⟨d1, _, rfl, N1, K1, Fv1, Fc1, A1q⟩)
theorem own_pd92197 : parseMethodDescriptor "(ICCCC)[C" = some ⟨[.int, .char, .char, .char, .char], some (.array .char)⟩ := by decide +kernel
theorem own_pd46664 : parseMethodDescriptor "([C)V" = some ⟨[(.array .char)], none⟩ := by decide +kernel
theorem own_pd11897 : parseMethodDescriptor "(Ljava/lang/String;)Ljava/lang/String;" = some ⟨[(.object "java/lang/String")], some (.object "java/lang/String")⟩ := by decide +kernel
theorem own_pd39901 : parseMethodDescriptor "(Ljava/lang/String;II[CI)Z" = some ⟨[(.object "java/lang/String"), .int, .int, (.array .char), .int], some .boolean⟩ := by decide +kernel
theorem own_rm0 (l : Launch) (Z : State) (a0 : Array Value) (hw : own_W a0 Z) (p1 p2 p3 p4 p5 : Int32) (z : Int32) (sf : Value) (h0 : Heap) (n0 : Nat) (hO : Old Z n0 h0) (hG : own_Gs Z z sf) :
    own_MetH l Z own_EL x code maxLocals ret room_1 #[(.int p1), (.int p2), (.int p3), (.int p4), (.int p5)] h0 (own_Q1 n0) := by
  refine own_bodyH (by decide +kernel) ?_
  intro p e s m below meth c T0 X0 hx hZ hby hml hown hnm hret hlk e0 hS hk C0
  have hwS : ∀ a ∈ Bundle.stringAtoms, a.before a0 Z = true := fun d hd => hw d ((by decide +kernel : ∀ d ∈ Bundle.stringAtoms, d ∈ tables_1) d hd)
  have N0 := Fr.nil n0
  refine own_cast (own_frame (L := [iv p1, iv p2, iv p3, iv p4, iv p5]) (ls := #[iv p1, iv p2, iv p3, iv p4, iv p5, .unset, .unset, .unset, .unset, .unset, .unset, .unset, .unset, .unset, .unset, .unset]) rfl rfl) ?_
  obtain ⟨SC, hz, SF, rf⟩ := id hG
  refine og_iload X0 hx (hb hby at_0) rfl ?_
  refine og_ldcI X0 hx hZ hown (own_hw hw 0 rfl) (hb hby at_2) ?_
  show own_Go p e below _ T0 (mkF m 4 #[iv p1, iv p2, iv p3, iv p4, iv p5, .unset, .unset, .unset, .unset, .unset, .unset, .unset, .unset, .unset, .unset, .unset] [(.int 2147483647), (.int p5)])
  refine og_iand X0 hx (hb hby at_4) ?_
  refine og_iconst X0 hx (hb hby at_5) ?_
  refine og_iremM X0 hx (hb hby at_6) (by decide) ?_
  show own_Go p e below _ T0 (mkF m 7 #[iv p1, iv p2, iv p3, iv p4, iv p5, .unset, .unset, .unset, .unset, .unset, .unset, .unset, .unset, .unset, .unset, .unset] [(.int ((p5 &&& 2147483647) % 5))])
  refine og_istore X0 hx #[iv p1, iv p2, iv p3, iv p4, iv p5, iv ((p5 &&& 2147483647) % 5), .unset, .unset, .unset, .unset, .unset, .unset, .unset, .unset, .unset, .unset] (hb hby at_7) rfl ?_
  refine og_iloadN X0 hx (hb hby at_9) rfl ?_
  refine own_callS X0 hx hZ hown (own_hw hw 1 rfl) (own_hw hw 2 rfl) (own_hw hw 3 rfl) (own_hw hw 4 rfl) (by decide) (argsL := [(.int p1)]) (rest := []) (own_chr l Z a0 hw p1 h0 n0) e0 (by rw [hml]; rfl) (lenOf own_pd47939 rfl) rfl (hb hby at_10) (W := 0) (Nat.le_of_eq rfl) (by decide) ?_
  intro v1 T1 L1 X1 q1
  obtain ⟨c1, rfl, N1q, e1, hc1⟩ := q1
  have N1 := Fr.app N0 N1q
  show own_Go p e below _ T1 (mkF m 13 #[iv p1, iv p2, iv p3, iv p4, iv p5, iv ((p5 &&& 2147483647) % 5), .unset, .unset, .unset, .unset, .unset, .unset, .unset, .unset, .unset, .unset] [(.int c1)])
  refine og_istore X1 hx #[iv p1, iv p2, iv p3, iv p4, iv p5, iv ((p5 &&& 2147483647) % 5), iv c1, .unset, .unset, .unset, .unset, .unset, .unset, .unset, .unset, .unset] (hb hby at_13) rfl ?_
  refine og_iloadN X1 hx (hb hby at_15) rfl ?_
  refine own_callS X1 hx hZ hown (own_hw hw 1 rfl) (own_hw hw 2 rfl) (own_hw hw 3 rfl) (own_hw hw 4 rfl) (by decide) (argsL := [(.int p2)]) (rest := []) (own_chr l Z a0 hw p2 h0 n0) e1 (by rw [hml]; rfl) (lenOf own_pd47939 rfl) rfl (hb hby at_16) (W := 0) (Nat.le_of_eq rfl) (by decide) ?_
  intro v2 T2 L2 X2 q2
  obtain ⟨c2, rfl, N2q, e2, hc2⟩ := q2
  have N2 := Fr.app N1 N2q
  show own_Go p e below _ T2 (mkF m 19 #[iv p1, iv p2, iv p3, iv p4, iv p5, iv ((p5 &&& 2147483647) % 5), iv c1, .unset, .unset, .unset, .unset, .unset, .unset, .unset, .unset, .unset] [(.int c2)])
  refine og_istore X2 hx #[iv p1, iv p2, iv p3, iv p4, iv p5, iv ((p5 &&& 2147483647) % 5), iv c1, iv c2, .unset, .unset, .unset, .unset, .unset, .unset, .unset, .unset] (hb hby at_19) rfl ?_
  refine og_iloadN X2 hx (hb hby at_21) rfl ?_
  refine own_callS X2 hx hZ hown (own_hw hw 1 rfl) (own_hw hw 2 rfl) (own_hw hw 3 rfl) (own_hw hw 4 rfl) (by decide) (argsL := [(.int p3)]) (rest := []) (own_chr l Z a0 hw p3 h0 n0) e2 (by rw [hml]; rfl) (lenOf own_pd47939 rfl) rfl (hb hby at_22) (W := 0) (Nat.le_of_eq rfl) (by decide) ?_
  intro v3 T3 L3 X3 q3
  obtain ⟨c3, rfl, N3q, e3, hc3⟩ := q3
  have N3 := Fr.app N2 N3q
  show own_Go p e below _ T3 (mkF m 25 #[iv p1, iv p2, iv p3, iv p4, iv p5, iv ((p5 &&& 2147483647) % 5), iv c1, iv c2, .unset, .unset, .unset, .unset, .unset, .unset, .unset, .unset] [(.int c3)])
  refine og_istore X3 hx #[iv p1, iv p2, iv p3, iv p4, iv p5, iv ((p5 &&& 2147483647) % 5), iv c1, iv c2, iv c3, .unset, .unset, .unset, .unset, .unset, .unset, .unset] (hb hby at_25) rfl ?_
  refine og_iloadN X3 hx (hb hby at_27) rfl ?_
  refine own_callS X3 hx hZ hown (own_hw hw 1 rfl) (own_hw hw 2 rfl) (own_hw hw 3 rfl) (own_hw hw 4 rfl) (by decide) (argsL := [(.int p4)]) (rest := []) (own_chr l Z a0 hw p4 h0 n0) e3 (by rw [hml]; rfl) (lenOf own_pd47939 rfl) rfl (hb hby at_28) (W := 0) (Nat.le_of_eq rfl) (by decide) ?_
  intro v4 T4 L4 X4 q4
  obtain ⟨c4, rfl, N4q, e4, hc4⟩ := q4
  have N4 := Fr.app N3 N4q
  show own_Go p e below _ T4 (mkF m 31 #[iv p1, iv p2, iv p3, iv p4, iv p5, iv ((p5 &&& 2147483647) % 5), iv c1, iv c2, iv c3, .unset, .unset, .unset, .unset, .unset, .unset, .unset] [(.int c4)])
  refine og_istore X4 hx #[iv p1, iv p2, iv p3, iv p4, iv p5, iv ((p5 &&& 2147483647) % 5), iv c1, iv c2, iv c3, iv c4, .unset, .unset, .unset, .unset, .unset, .unset] (hb hby at_31) rfl ?_
  show own_Go p e below _ T4 (mkF m 33 #[iv p1, iv p2, iv p3, iv p4, iv p5, iv ((p5 &&& 2147483647) % 5), iv c1, iv c2, iv c3, iv c4, .unset, .unset, .unset, .unset, .unset, .unset] [])
  rcases own_cases p5 with h | h | h | h | h
  · rw [h]
    show own_Go p e below _ T4 (mkF m 33 #[iv p1, iv p2, iv p3, iv p4, iv p5, iv 0, iv c1, iv c2, iv c3, iv c4, .unset, .unset, .unset, .unset, .unset, .unset] [])
    refine og_iload X4 hx (hb hby at_33) rfl ?_
    show own_Go p e below _ T4 (mkF m 35 #[iv p1, iv p2, iv p3, iv p4, iv p5, iv 0, iv c1, iv c2, iv c3, iv c4, .unset, .unset, .unset, .unset, .unset, .unset] [(.int 0)])
    refine og_iload X4 hx (hb hby at_35) rfl ?_
    refine og_iload X4 hx (hb hby at_37) rfl ?_
    refine og_iload X4 hx (hb hby at_39) rfl ?_
    refine og_iload X4 hx (hb hby at_41) rfl ?_
    refine own_callS X4 hx hZ hown (own_hw hw 5 rfl) (own_hw hw 6 rfl) (own_hw hw 3 rfl) (own_hw hw 7 rfl) (by decide) (argsL := [(.int 0), (.int c1), (.int c2), (.int c3), (.int c4)]) (rest := []) (own_mk0 l Z a0 hw c1 c2 c3 c4 h0 n0 hO hc1 hc2 hc3 hc4) e4 (by rw [hml]; rfl) (lenOf own_pd92197 rfl) rfl (hb hby at_43) (W := 0) (Nat.le_of_eq rfl) (by decide) ?_
    intro v5 T5 L5 X5 q5
    obtain ⟨ca5, k5, rfl, N5q, K5q, z5q, g5q, A5q⟩ := q5
    have N5 := Fr.app N4 N5q
    have hk5 := Nat.le_trans hk K5q.1
    have hs5 : ∀ x ∈ ([] : List Addr), Safe Z own_EL s.vm h0 x := sf0
    have C5 := C0.trans (CHr.keep K5q hs5 C0.1)
    have O5 := hO.keep K5q all0
    show own_Go p e below _ T5 (mkF m 46 #[iv p1, iv p2, iv p3, iv p4, iv p5, iv 0, iv c1, iv c2, iv c3, iv c4, .unset, .unset, .unset, .unset, .unset, .unset] [(.ref ca5)])
    refine og_astore X5 hx #[iv p1, iv p2, iv p3, iv p4, iv p5, iv 0, iv c1, iv c2, iv c3, iv c4, rv ca5, .unset, .unset, .unset, .unset, .unset] (hb hby at_46) rfl rfl ?_
    refine own_newO X5 hx hZ hown (own_hw hw 9 rfl) (own_hw hw 10 rfl) (own_hw hw 11 rfl) rfl (hb hby at_48) (by decide) (by decide) ?_
    intro T6 h6 b6 g6 X6 e6 E6 A6 D6
    have ne_ca5_b6 : ca5 ≠ b6 := Nat.ne_of_lt (Nat.lt_of_lt_of_eq A5q.lt g6.symm)
    have ge_b6 : n0 ≤ b6 := Nat.le_trans (own_oldle O5) (Nat.le_of_eq g6.symm)
    have S_b6 : Safe Z own_EL s.vm T5.heap b6 := Safe.new (Nat.le_of_eq g6.symm)
    have hk6 := Nat.le_trans hk5 E6.1
    have A_ca5_6 := A5q.ext E6
    have S_b6_6 := Safe.ext E6 C5.1 S_b6
    have C6 := C5.trans (CHr.ext E6 C5.1)
    have O6 := O5.ext E6
    have F_b6_value_6 : Fld Z h6 b6 "java/lang/String" "value" "[B" .null := D6 (Or.inr (own_hw hw 24 rfl)) (ty := (.array .byte)) (by decide)
    have F_b6_coder_6 : Fld Z h6 b6 "java/lang/String" "coder" "B" (.int 0) := D6 (Or.inr (own_hw hw 25 rfl)) (ty := .byte) (by decide)
    show own_Go p e below _ T6 (mkF m 51 #[iv p1, iv p2, iv p3, iv p4, iv p5, iv 0, iv c1, iv c2, iv c3, iv c4, rv ca5, .unset, .unset, .unset, .unset, .unset] [(.ref b6)])
    refine og_dup X6 hx (hb hby at_51) rfl ?_
    refine og_aload X6 hx (hb hby at_52) rfl rfl ?_
    refine own_callNH X6 hx hZ hown (own_hw hw 12 rfl) (own_hw hw 13 rfl) (own_hw hw 14 rfl) (own_hw hw 11 rfl) (by decide) rfl (b := b6) (argsL := [(.ref ca5)]) (rest := [(.ref b6)]) (own_sz l Z a0 hw b6 ca5 _ _ h6 n0 O6 ge_b6 A6 F_b6_value_6 F_b6_coder_6 (Ne.symm ne_ca5_b6) A_ca5_6) (own_EW hw) C6.1 hS hk6 e6 (by rw [hml]; rfl) (lenOf own_pd46664 rfl) rfl (hb hby at_54) (W := 1) (Nat.le_of_eq rfl) (by decide) ?_
    intro v7 T7 L7 X7 hS7 hZ7 hown7 C7q q7
    obtain ⟨d7, k7, rfl, N7q, K7q, Fv7, Fc7, A7q⟩ := q7
    have N7 := Fr.app N5 N7q
    have C7 := C6.trans C7q
    have A_ca5_7 := A_ca5_6.keep K7q (ninS ne_ca5_b6 nin0)
    have S_b6_7 := CHr.safe C7q A6.lt S_b6_6
    have E_b6_7 := A6.keep K7q
    have O7 := O6.keep K7q (allS ge_b6 all0)
    show own_Go p e below _ T7 (mkF m 57 #[iv p1, iv p2, iv p3, iv p4, iv p5, iv 0, iv c1, iv c2, iv c3, iv c4, rv ca5, .unset, .unset, .unset, .unset, .unset] [(.ref b6)])
    refine og_astore X7 hx #[iv p1, iv p2, iv p3, iv p4, iv p5, iv 0, iv c1, iv c2, iv c3, iv c4, rv ca5, rv b6, .unset, .unset, .unset, .unset] (hb hby at_57) rfl rfl ?_
    refine og_aload X7 hx (hb hby at_59) rfl rfl ?_
    refine own_callS X7 hx hZ7 hown7 (own_hw hw 30 rfl) (own_hw hw 31 rfl) (own_hw hw 32 rfl) (own_hw hw 33 rfl) (by decide) (argsL := [(.ref b6)]) (rest := []) (own_po_0_m1 l Z a0 hw z sf b6 d7 _ _ T7.heap n0 O7 hG E_b6_7 Fv7 Fc7 A7q) rfl (by rw [hml]; rfl) (lenOf own_pd11897 rfl) rfl (hb hby at_61) (W := 0) (Nat.le_of_eq rfl) (by decide) ?_
    intro v8 T8 L8 X8 q8
    obtain ⟨rfl, N8q, e8⟩ := q8
    have N8 := Fr.app N7 N8q
    show own_Go p e below _ T8 (mkF m 64 #[iv p1, iv p2, iv p3, iv p4, iv p5, iv 0, iv c1, iv c2, iv c3, iv c4, rv ca5, rv b6, .unset, .unset, .unset, .unset] [(.ref b6)])
    refine og_astore X8 hx #[iv p1, iv p2, iv p3, iv p4, iv p5, iv 0, iv c1, iv c2, iv c3, iv c4, rv ca5, rv b6, rv b6, .unset, .unset, .unset] (hb hby at_64) rfl rfl ?_
    refine og_iconst X8 hx (hb hby at_66) ?_
    refine og_istore X8 hx #[iv p1, iv p2, iv p3, iv p4, iv p5, iv 0, iv c1, iv c2, iv c3, iv c4, rv ca5, rv b6, rv b6, iv (-1), .unset, .unset] (hb hby at_67) rfl ?_
    refine og_iload X8 hx (hb hby at_69) rfl ?_
    refine og_ifY X8 hx 84 (hb hby at_71) (flt (by decide)).2.2.2 (by decide) (by decide) ?_
    refine og_iload X8 hx (hb hby at_84) rfl ?_
    refine og_iconst X8 hx (hb hby at_86) ?_
    refine og_icY X8 hx 100 (hb hby at_87) (flt (by decide)).2.2.2 (by decide) (by decide) ?_
    refine og_iload X8 hx (hb hby at_100) rfl ?_
    refine og_iconst X8 hx (hb hby at_102) ?_
    refine og_icY X8 hx 116 (hb hby at_103) (flt (by decide)).2.2.2 (by decide) (by decide) ?_
    refine og_iload X8 hx (hb hby at_116) rfl ?_
    refine og_iconst X8 hx (hb hby at_118) ?_
    refine og_icY X8 hx 132 (hb hby at_119) (flt (by decide)).2.2.2 (by decide) (by decide) ?_
    refine og_iload X8 hx (hb hby at_132) rfl ?_
    refine og_iload X8 hx (hb hby at_134) rfl ?_
    refine og_isub X8 hx (hb hby at_136) ?_
    refine og_iconst X8 hx (hb hby at_137) ?_
    refine og_isub X8 hx (hb hby at_138) ?_
    refine og_istore X8 hx #[iv p1, iv p2, iv p3, iv p4, iv p5, iv 0, iv c1, iv c2, iv c3, iv c4, rv ca5, rv b6, rv b6, iv (-1), iv 0, .unset] (hb hby at_139) rfl ?_
    refine og_aload X8 hx (hb hby at_141) rfl rfl ?_
    refine own_callV X8 hx hZ7 hown7 (own_hw hw 89 rfl) (own_hw hw 40 rfl) (notFace_of_selects (args := #[]) (mvT hZ7 (own_hw hw 42 rfl))) (own_hw hw 42 rfl) (own_hw hw 41 rfl) (own_hw hw 43 rfl) (own_hw hw 11 rfl) (by decide) (b := b6) (argsL := []) (rest := []) (own_slen l Z a0 hw z sf b6 d7 _ _ 0 _ T7.heap n0 O7 hG E_b6_7 Fv7 Fc7 A7q) e8 E_b6_7 (by rw [hml]; rfl) (lenOf own_pd13941 rfl) rfl (hb hby at_143) (W := 0) (Nat.le_of_eq rfl) (by decide) ?_
    intro v9 T9 L9 X9 q9
    obtain ⟨rfl, N9q, e9⟩ := q9
    have N9 := Fr.app N8 N9q
    show own_Go p e below _ T9 (mkF m 146 #[iv p1, iv p2, iv p3, iv p4, iv p5, iv 0, iv c1, iv c2, iv c3, iv c4, rv ca5, rv b6, rv b6, iv (-1), iv 0, .unset] [(.int 0)])
    refine og_iload X9 hx (hb hby at_146) rfl ?_
    refine og_icY X9 hx 153 (hb hby at_148) (teq rfl).1 (by decide) (by decide) ?_
    refine og_iconst X9 hx (hb hby at_153) ?_
    refine own_newP X9 hx hZ7 (own_hw hw 8 rfl) e9 (hb hby at_154) (by decide) 4 (by decide) (by decide) (by decide) (by decide) ?_
    intro T10 h10 k10 b10 g10 X10 e10 E10 A10
    have ne_b6_b10 : b6 ≠ b10 := Nat.ne_of_lt (Nat.lt_of_lt_of_eq E_b6_7.lt g10.symm)
    have ne_d7_b10 : d7 ≠ b10 := Nat.ne_of_lt (Nat.lt_of_lt_of_eq A7q.lt g10.symm)
    have ge_b10 : n0 ≤ b10 := Nat.le_trans (own_oldle O7) (Nat.le_of_eq g10.symm)
    have hk10 := Nat.le_trans (Nat.le_refl _) E10.1
    have E_b6_10 := E_b6_7.ext E10
    have F_b6_value_10 := Fv7.ext E10
    have F_b6_coder_10 := Fc7.ext E10
    have A_d7_10 := A7q.ext E10
    have C10 := C7.trans (CHr.ext E10 C7.1)
    have O10 := O7.ext E10
    have A_b10_10 : Arv Z h10 b10 k10 .char 4 [(.int (0 : Int32)), (.int (0 : Int32)), (.int (0 : Int32)), (.int (0 : Int32))] (.int (0 : Int32)) := A10
    show own_Go p e below _ T10 (mkF m 156 #[iv p1, iv p2, iv p3, iv p4, iv p5, iv 0, iv c1, iv c2, iv c3, iv c4, rv ca5, rv b6, rv b6, iv (-1), iv 0, .unset] [(.ref b10)])
    refine og_dup X10 hx (hb hby at_156) rfl ?_
    refine og_iconst X10 hx (hb hby at_157) ?_
    refine og_iload X10 hx (hb hby at_158) rfl ?_
    refine own_stC X10 hx hZ7 e10 A_b10_10 ⟨by decide, by decide⟩ 0 rfl (by show 0 < 4; decide) (hb hby at_160) ?_
    intro T11 h11 X11 e11 W11 A11
    have hk11 := Nat.le_trans hk10 (Keep.of_wr W11).1
    have sf11 := (Safe.arv (EL := own_EL) hZ7.alike A_b10_10 (by decide))
    have C11 := C10.trans (CHr.wr W11 sf11 C10.1)
    have E_b6_11 := E_b6_10.wr W11
    have F_b6_value_11 := F_b6_value_10.other W11 (Or.inl ne_b6_b10)
    have F_b6_coder_11 := F_b6_coder_10.other W11 (Or.inl ne_b6_b10)
    have A_d7_11 := A_d7_10.other W11 ne_d7_b10
    have O11 := O10.wr W11 ge_b10
    have N11 := Fr.snoc X11 N9 ge_b10
    have A_b10_11 : Arv Z h11 b10 k10 .char 4 [(.int c1), (.int (0 : Int32)), (.int (0 : Int32)), (.int (0 : Int32))] (.int (0 : Int32)) := (by have q := A11; rw [show nar .char c1 = c1 from own_ic _ hc1] at q; exact q)
    show own_Go p e below _ T11 (mkF m 161 #[iv p1, iv p2, iv p3, iv p4, iv p5, iv 0, iv c1, iv c2, iv c3, iv c4, rv ca5, rv b6, rv b6, iv (-1), iv 0, .unset] [(.ref b10)])
    refine og_dup X11 hx (hb hby at_161) rfl ?_
    refine og_iconst X11 hx (hb hby at_162) ?_
    refine og_iload X11 hx (hb hby at_163) rfl ?_
    refine own_stC X11 hx hZ7 e11 A_b10_11 ⟨by decide, by decide⟩ 1 rfl (by show 1 < 4; decide) (hb hby at_165) ?_
    intro T12 h12 X12 e12 W12 A12
    have hk12 := Nat.le_trans hk11 (Keep.of_wr W12).1
    have sf12 := (Safe.arv (EL := own_EL) hZ7.alike A_b10_11 (by decide))
    have C12 := C11.trans (CHr.wr W12 sf12 C11.1)
    have E_b6_12 := E_b6_11.wr W12
    have F_b6_value_12 := F_b6_value_11.other W12 (Or.inl ne_b6_b10)
    have F_b6_coder_12 := F_b6_coder_11.other W12 (Or.inl ne_b6_b10)
    have A_d7_12 := A_d7_11.other W12 ne_d7_b10
    have O12 := O11.wr W12 ge_b10
    have N12 := Fr.snoc X12 N11 ge_b10
    have A_b10_12 : Arv Z h12 b10 k10 .char 4 [(.int c1), (.int c2), (.int (0 : Int32)), (.int (0 : Int32))] (.int (0 : Int32)) := (by have q := A12; rw [show nar .char c2 = c2 from own_ic _ hc2] at q; exact q)
    show own_Go p e below _ T12 (mkF m 166 #[iv p1, iv p2, iv p3, iv p4, iv p5, iv 0, iv c1, iv c2, iv c3, iv c4, rv ca5, rv b6, rv b6, iv (-1), iv 0, .unset] [(.ref b10)])
    refine og_dup X12 hx (hb hby at_166) rfl ?_
    refine og_iconst X12 hx (hb hby at_167) ?_
    refine og_iload X12 hx (hb hby at_168) rfl ?_
    refine own_stC X12 hx hZ7 e12 A_b10_12 ⟨by decide, by decide⟩ 2 rfl (by show 2 < 4; decide) (hb hby at_170) ?_
    intro T13 h13 X13 e13 W13 A13
    have hk13 := Nat.le_trans hk12 (Keep.of_wr W13).1
    have sf13 := (Safe.arv (EL := own_EL) hZ7.alike A_b10_12 (by decide))
    have C13 := C12.trans (CHr.wr W13 sf13 C12.1)
    have E_b6_13 := E_b6_12.wr W13
    have F_b6_value_13 := F_b6_value_12.other W13 (Or.inl ne_b6_b10)
    have F_b6_coder_13 := F_b6_coder_12.other W13 (Or.inl ne_b6_b10)
    have A_d7_13 := A_d7_12.other W13 ne_d7_b10
    have O13 := O12.wr W13 ge_b10
    have N13 := Fr.snoc X13 N12 ge_b10
    have A_b10_13 : Arv Z h13 b10 k10 .char 4 [(.int c1), (.int c2), (.int c3), (.int (0 : Int32))] (.int (0 : Int32)) := (by have q := A13; rw [show nar .char c3 = c3 from own_ic _ hc3] at q; exact q)
    show own_Go p e below _ T13 (mkF m 171 #[iv p1, iv p2, iv p3, iv p4, iv p5, iv 0, iv c1, iv c2, iv c3, iv c4, rv ca5, rv b6, rv b6, iv (-1), iv 0, .unset] [(.ref b10)])
    refine og_dup X13 hx (hb hby at_171) rfl ?_
    refine og_iconst X13 hx (hb hby at_172) ?_
    refine og_iload X13 hx (hb hby at_173) rfl ?_
    refine own_stC X13 hx hZ7 e13 A_b10_13 ⟨by decide, by decide⟩ 3 rfl (by show 3 < 4; decide) (hb hby at_175) ?_
    intro T14 h14 X14 e14 W14 A14
    have hk14 := Nat.le_trans hk13 (Keep.of_wr W14).1
    have sf14 := (Safe.arv (EL := own_EL) hZ7.alike A_b10_13 (by decide))
    have C14 := C13.trans (CHr.wr W14 sf14 C13.1)
    have E_b6_14 := E_b6_13.wr W14
    have F_b6_value_14 := F_b6_value_13.other W14 (Or.inl ne_b6_b10)
    have F_b6_coder_14 := F_b6_coder_13.other W14 (Or.inl ne_b6_b10)
    have A_d7_14 := A_d7_13.other W14 ne_d7_b10
    have O14 := O13.wr W14 ge_b10
    have N14 := Fr.snoc X14 N13 ge_b10
    have A_b10_14 : Arv Z h14 b10 k10 .char 4 [(.int c1), (.int c2), (.int c3), (.int c4)] (.int (0 : Int32)) := (by have q := A14; rw [show nar .char c4 = c4 from own_ic _ hc4] at q; exact q)
    show own_Go p e below _ T14 (mkF m 176 #[iv p1, iv p2, iv p3, iv p4, iv p5, iv 0, iv c1, iv c2, iv c3, iv c4, rv ca5, rv b6, rv b6, iv (-1), iv 0, .unset] [(.ref b10)])
    refine og_astore X14 hx #[iv p1, iv p2, iv p3, iv p4, iv p5, iv 0, iv c1, iv c2, iv c3, iv c4, rv ca5, rv b6, rv b6, iv (-1), iv 0, rv b10] (hb hby at_176) rfl rfl ?_
    refine og_aload X14 hx (hb hby at_178) rfl rfl ?_
    refine og_iload X14 hx (hb hby at_180) rfl ?_
    refine og_iconst X14 hx (hb hby at_182) ?_
    refine og_aload X14 hx (hb hby at_183) rfl rfl ?_
    refine og_iload X14 hx (hb hby at_185) rfl ?_
    refine own_callS X14 hx hZ7 hown7 (own_hw hw 90 rfl) (own_hw hw 91 rfl) (own_hw hw 3 rfl) (own_hw hw 92 rfl) (by decide) (argsL := [(.ref b6), (.int 0), (.int 0), (.ref b10), (.int (-1))]) (rest := []) (own_sm_0_0 l Z a0 hw b6 b10 (-1) h14 n0) e14 (by rw [hml]; rfl) (lenOf own_pd39901 rfl) rfl (hb hby at_187) (W := 0) (Nat.le_of_eq rfl) (by decide) ?_
    intro v15 T15 L15 X15 q15
    obtain ⟨rfl, N15q, e15⟩ := q15
    have N15 := Fr.app N14 N15q
    show own_Go p e below _ T15 (mkF m 190 #[iv p1, iv p2, iv p3, iv p4, iv p5, iv 0, iv c1, iv c2, iv c3, iv c4, rv ca5, rv b6, rv b6, iv (-1), iv 0, rv b10] [(.int 1)])
    refine og_ifN X15 hx (hb hby at_190) (feq (by decide)).1 ?_
    refine og_aload X15 hx (hb hby at_193) rfl rfl ?_
    refine og_iload X15 hx (hb hby at_195) rfl ?_
    refine og_iconst X15 hx (hb hby at_197) ?_
    refine og_aload X15 hx (hb hby at_198) rfl rfl ?_
    refine og_iload X15 hx (hb hby at_200) rfl ?_
    refine own_callS X15 hx hZ7 hown7 (own_hw hw 90 rfl) (own_hw hw 91 rfl) (own_hw hw 3 rfl) (own_hw hw 92 rfl) (by decide) (argsL := [(.ref b6), (.int 0), (.int 1), (.ref b10), (.int (-1))]) (rest := []) (own_sm_0_1 l Z a0 hw b6 b10 (-1) h14 n0) e15 (by rw [hml]; rfl) (lenOf own_pd39901 rfl) rfl (hb hby at_202) (W := 0) (Nat.le_of_eq rfl) (by decide) ?_
    intro v16 T16 L16 X16 q16
    obtain ⟨rfl, N16q, e16⟩ := q16
    have N16 := Fr.app N15 N16q
    show own_Go p e below _ T16 (mkF m 205 #[iv p1, iv p2, iv p3, iv p4, iv p5, iv 0, iv c1, iv c2, iv c3, iv c4, rv ca5, rv b6, rv b6, iv (-1), iv 0, rv b10] [(.int 1)])
    refine og_ifN X16 hx (hb hby at_205) (feq (by decide)).1 ?_
    refine og_aload X16 hx (hb hby at_208) rfl rfl ?_
    refine og_iload X16 hx (hb hby at_210) rfl ?_
    refine og_iconst X16 hx (hb hby at_212) ?_
    refine og_aload X16 hx (hb hby at_213) rfl rfl ?_
    refine og_iload X16 hx (hb hby at_215) rfl ?_
    refine own_callS X16 hx hZ7 hown7 (own_hw hw 90 rfl) (own_hw hw 91 rfl) (own_hw hw 3 rfl) (own_hw hw 92 rfl) (by decide) (argsL := [(.ref b6), (.int 0), (.int 2), (.ref b10), (.int (-1))]) (rest := []) (own_sm_0_2 l Z a0 hw b6 b10 (-1) h14 n0) e16 (by rw [hml]; rfl) (lenOf own_pd39901 rfl) rfl (hb hby at_217) (W := 0) (Nat.le_of_eq rfl) (by decide) ?_
    intro v17 T17 L17 X17 q17
    obtain ⟨rfl, N17q, e17⟩ := q17
    have N17 := Fr.app N16 N17q
    show own_Go p e below _ T17 (mkF m 220 #[iv p1, iv p2, iv p3, iv p4, iv p5, iv 0, iv c1, iv c2, iv c3, iv c4, rv ca5, rv b6, rv b6, iv (-1), iv 0, rv b10] [(.int 1)])
    refine og_ifN X17 hx (hb hby at_220) (feq (by decide)).1 ?_
    refine og_aload X17 hx (hb hby at_223) rfl rfl ?_
    refine og_iload X17 hx (hb hby at_225) rfl ?_
    refine og_iconst X17 hx (hb hby at_227) ?_
    refine og_aload X17 hx (hb hby at_228) rfl rfl ?_
    refine og_iload X17 hx (hb hby at_230) rfl ?_
    refine own_callS X17 hx hZ7 hown7 (own_hw hw 90 rfl) (own_hw hw 91 rfl) (own_hw hw 3 rfl) (own_hw hw 92 rfl) (by decide) (argsL := [(.ref b6), (.int 0), (.int 3), (.ref b10), (.int (-1))]) (rest := []) (own_sm_0_3 l Z a0 hw b6 b10 (-1) h14 n0) e17 (by rw [hml]; rfl) (lenOf own_pd39901 rfl) rfl (hb hby at_232) (W := 0) (Nat.le_of_eq rfl) (by decide) ?_
    intro v18 T18 L18 X18 q18
    obtain ⟨rfl, N18q, e18⟩ := q18
    have N18 := Fr.app N17 N18q
    show own_Go p e below _ T18 (mkF m 235 #[iv p1, iv p2, iv p3, iv p4, iv p5, iv 0, iv c1, iv c2, iv c3, iv c4, rv ca5, rv b6, rv b6, iv (-1), iv 0, rv b10] [(.int 1)])
    refine og_ifN X18 hx (hb hby at_235) (feq (by decide)).1 ?_
    refine og_iconst X18 hx (hb hby at_238) ?_
    refine og_goto X18 hx 243 (hb hby at_239) (by decide) (by decide) ?_
    exact own_retIH X18 hx hret hlk (hb hby at_243) rfl (by simp) hZ7 (own_EW hw) C14 e18 hS7 hk14 (by decide) (by decide) (⟨rfl, N18⟩)
  · rw [h]
    show own_Go p e below _ T4 (mkF m 33 #[iv p1, iv p2, iv p3, iv p4, iv p5, iv 1, iv c1, iv c2, iv c3, iv c4, .unset, .unset, .unset, .unset, .unset, .unset] [])
    refine og_iload X4 hx (hb hby at_33) rfl ?_
    show own_Go p e below _ T4 (mkF m 35 #[iv p1, iv p2, iv p3, iv p4, iv p5, iv 1, iv c1, iv c2, iv c3, iv c4, .unset, .unset, .unset, .unset, .unset, .unset] [(.int 1)])
    rcases own_last1 c1 with k0 | ⟨m0, -⟩
    · show own_Go p e below _ T4 (mkF m 35 #[iv p1, iv p2, iv p3, iv p4, iv p5, iv 1, iv c1, iv c2, iv c3, iv c4, .unset, .unset, .unset, .unset, .unset, .unset] [(.int 1)])
      refine og_iload X4 hx (hb hby at_35) rfl ?_
      refine og_iload X4 hx (hb hby at_37) rfl ?_
      refine og_iload X4 hx (hb hby at_39) rfl ?_
      refine og_iload X4 hx (hb hby at_41) rfl ?_
      refine own_callS X4 hx hZ hown (own_hw hw 5 rfl) (own_hw hw 6 rfl) (own_hw hw 3 rfl) (own_hw hw 7 rfl) (by decide) (argsL := [(.int 1), (.int c1), (.int c2), (.int c3), (.int c4)]) (rest := []) (own_mk1 l Z a0 hw c1 c2 c3 c4 h0 n0 hO hc1 hc2 hc3 hc4) e4 (by rw [hml]; rfl) (lenOf own_pd92197 rfl) rfl (hb hby at_43) (W := 0) (Nat.le_of_eq rfl) (by decide) ?_
      intro v19 T19 L19 X19 q19
      obtain ⟨ca19, k19, rfl, N19q, K19q, z19q, g19q, A19q⟩ := q19
      have N19 := Fr.app N4 N19q
      have hk19 := Nat.le_trans hk K19q.1
      have hs19 : ∀ x ∈ ([] : List Addr), Safe Z own_EL s.vm h0 x := sf0
      have C19 := C0.trans (CHr.keep K19q hs19 C0.1)
      have O19 := hO.keep K19q all0
      show own_Go p e below _ T19 (mkF m 46 #[iv p1, iv p2, iv p3, iv p4, iv p5, iv 1, iv c1, iv c2, iv c3, iv c4, .unset, .unset, .unset, .unset, .unset, .unset] [(.ref ca19)])
      refine og_astore X19 hx #[iv p1, iv p2, iv p3, iv p4, iv p5, iv 1, iv c1, iv c2, iv c3, iv c4, rv ca19, .unset, .unset, .unset, .unset, .unset] (hb hby at_46) rfl rfl ?_
      refine own_newO X19 hx hZ hown (own_hw hw 9 rfl) (own_hw hw 10 rfl) (own_hw hw 11 rfl) rfl (hb hby at_48) (by decide) (by decide) ?_
      intro T20 h20 b20 g20 X20 e20 E20 A20 D20
      have ne_ca19_b20 : ca19 ≠ b20 := Nat.ne_of_lt (Nat.lt_of_lt_of_eq A19q.lt g20.symm)
      have ge_b20 : n0 ≤ b20 := Nat.le_trans (own_oldle O19) (Nat.le_of_eq g20.symm)
      have S_b20 : Safe Z own_EL s.vm T19.heap b20 := Safe.new (Nat.le_of_eq g20.symm)
      have hk20 := Nat.le_trans hk19 E20.1
      have A_ca19_20 := A19q.ext E20
      have S_b20_20 := Safe.ext E20 C19.1 S_b20
      have C20 := C19.trans (CHr.ext E20 C19.1)
      have O20 := O19.ext E20
      have F_b20_value_20 : Fld Z h20 b20 "java/lang/String" "value" "[B" .null := D20 (Or.inr (own_hw hw 24 rfl)) (ty := (.array .byte)) (by decide)
      have F_b20_coder_20 : Fld Z h20 b20 "java/lang/String" "coder" "B" (.int 0) := D20 (Or.inr (own_hw hw 25 rfl)) (ty := .byte) (by decide)
      show own_Go p e below _ T20 (mkF m 51 #[iv p1, iv p2, iv p3, iv p4, iv p5, iv 1, iv c1, iv c2, iv c3, iv c4, rv ca19, .unset, .unset, .unset, .unset, .unset] [(.ref b20)])
      refine og_dup X20 hx (hb hby at_51) rfl ?_
      refine og_aload X20 hx (hb hby at_52) rfl rfl ?_
      have hws : ∀ d ∈ StrChars.Road.words, d.before a0 Z = true := fun d hd => hw d ((by decide +kernel : ∀ d ∈ StrChars.Road.words, d ∈ tables_1) d hd)
      have hp21 : ∀ c ∈ ([c1] : List Int32), ¬ c < 0 ∧ ¬ (255 : Int32) < c := by
        intro c hc; simp only [List.mem_cons, List.not_mem_nil, or_false] at hc; rcases hc with rfl <;> assumption
      refine own_callNB X20 hx hZ hown (own_hw hw 12 rfl) (own_hw hw 13 rfl) (own_hw hw 14 rfl) (own_hw hw 11 rfl) (by decide) rfl (b := b20) (argsL := [(.ref ca19)]) (rest := [(.ref b20)]) (StrChars.Road.backV (W := 1) hZ hws (kI := 4) (own_hw hw 10 rfl) (cs := ([c1] : List Int32)) (bs := (([c1] : List Int32)).map (fun c => c.toInt8.toInt32)) (n := 1) ge_b20 (own_oldle O20) A20 F_b20_value_20 F_b20_coder_20 A_ca19_20 (SC.ext O20.2) hz rfl rfl (by decide) (by decide) hp21 rfl (by decide) (by decide)) e20 (by rw [hml]; rfl) (lenOf own_pd46664 rfl) rfl (hb hby at_54) (Nat.le_of_eq rfl) (by decide) (by decide) ?_
      intro v21 T21 L21 X21 q21
      obtain ⟨rfl, N21q, K21q, E21q, C21q, vb21, kb21, ge21, z21q, ne21q, V21q, A21q⟩ := q21
      have N21 := Fr.app N19 N21q
      have ne_b20_vb21 : b20 ≠ vb21 := Nat.ne_of_lt (Nat.lt_of_lt_of_le A20.lt z21q)
      have ne_ca19_vb21 : ca19 ≠ vb21 := Nat.ne_of_lt (Nat.lt_of_lt_of_le A_ca19_20.lt z21q)
      have hk21 := Nat.le_trans hk20 K21q.1
      have hs21 : ∀ x ∈ ([b20] : List Addr), Safe Z own_EL s.vm h20 x := (sfS S_b20_20 sf0)
      have C21 := C20.trans (CHr.keep K21q hs21 C20.1)
      have A_ca19_21 := A_ca19_20.keep K21q (ninS ne_ca19_b20 nin0)
      have S_b20_21 := Safe.keep K21q hs21 C20.1 S_b20_20
      have E_b20_21 := A20.keep K21q
      have O21 := O20.keep K21q (allS ge_b20 all0)
      show own_Go p e below _ T21 (mkF m 57 #[iv p1, iv p2, iv p3, iv p4, iv p5, iv 1, iv c1, iv c2, iv c3, iv c4, rv ca19, .unset, .unset, .unset, .unset, .unset] [(.ref b20)])
      refine og_astore X21 hx #[iv p1, iv p2, iv p3, iv p4, iv p5, iv 1, iv c1, iv c2, iv c3, iv c4, rv ca19, rv b20, .unset, .unset, .unset, .unset] (hb hby at_57) rfl rfl ?_
      refine og_aload X21 hx (hb hby at_59) rfl rfl ?_
      refine own_callSH X21 hx hZ hown (own_hw hw 30 rfl) (own_hw hw 31 rfl) (own_hw hw 32 rfl) (own_hw hw 33 rfl) (by decide) (argsL := [(.ref b20)]) (rest := []) (own_po_1_0 l Z a0 hw z sf b20 vb21 _ _ c1 T21.heap n0 O21 hG k0 E_b20_21 V21q C21q A21q) (own_EW hw) C21.1 hS hk21 rfl (by rw [hml]; rfl) (lenOf own_pd11897 rfl) rfl (hb hby at_61) (W := 0) (Nat.le_of_eq rfl) (by decide) ?_
      intro v22 T22 L22 X22 hS22 hZ22 hown22 C22q q22
      obtain ⟨t22, vb22, k22, rfl, N22q, K22q, Et22, Ft22, Ct22, At22⟩ := q22
      have N22 := Fr.app N21 N22q
      have C22 := C21.trans C22q
      have E_b20_22 := E_b20_21.keep K22q
      have F_b20_value_22 := V21q.keep K22q nin0
      have F_b20_coder_22 := C21q.keep K22q nin0
      have A_vb21_22 := A21q.keep K22q nin0
      have O22 := O21.keep K22q all0
      show own_Go p e below _ T22 (mkF m 64 #[iv p1, iv p2, iv p3, iv p4, iv p5, iv 1, iv c1, iv c2, iv c3, iv c4, rv ca19, rv b20, .unset, .unset, .unset, .unset] [(.ref t22)])
      refine og_astore X22 hx #[iv p1, iv p2, iv p3, iv p4, iv p5, iv 1, iv c1, iv c2, iv c3, iv c4, rv ca19, rv b20, rv t22, .unset, .unset, .unset] (hb hby at_64) rfl rfl ?_
      refine og_iconst X22 hx (hb hby at_66) ?_
      refine og_istore X22 hx #[iv p1, iv p2, iv p3, iv p4, iv p5, iv 1, iv c1, iv c2, iv c3, iv c4, rv ca19, rv b20, rv t22, iv (-1), .unset, .unset] (hb hby at_67) rfl ?_
      refine og_iload X22 hx (hb hby at_69) rfl ?_
      refine og_ifN X22 hx (hb hby at_71) (tlt (by decide)).2.2.2 ?_
      refine og_iload X22 hx (hb hby at_74) rfl ?_
      refine og_bipush X22 hx (hb hby at_76) ?_
      refine og_icN X22 hx (hb hby at_78) (teq k0).2 ?_
      refine og_iconst X22 hx (hb hby at_81) ?_
      refine og_istore X22 hx #[iv p1, iv p2, iv p3, iv p4, iv p5, iv 1, iv c1, iv c2, iv c3, iv c4, rv ca19, rv b20, rv t22, iv 0, .unset, .unset] (hb hby at_82) rfl ?_
      refine og_iload X22 hx (hb hby at_84) rfl ?_
      refine og_iconst X22 hx (hb hby at_86) ?_
      refine og_icY X22 hx 100 (hb hby at_87) (flt (by decide)).2.2.2 (by decide) (by decide) ?_
      refine og_iload X22 hx (hb hby at_100) rfl ?_
      refine og_iconst X22 hx (hb hby at_102) ?_
      refine og_icY X22 hx 116 (hb hby at_103) (flt (by decide)).2.2.2 (by decide) (by decide) ?_
      refine og_iload X22 hx (hb hby at_116) rfl ?_
      refine og_iconst X22 hx (hb hby at_118) ?_
      refine og_icY X22 hx 132 (hb hby at_119) (flt (by decide)).2.2.2 (by decide) (by decide) ?_
      refine og_iload X22 hx (hb hby at_132) rfl ?_
      refine og_iload X22 hx (hb hby at_134) rfl ?_
      refine og_isub X22 hx (hb hby at_136) ?_
      refine og_iconst X22 hx (hb hby at_137) ?_
      refine og_isub X22 hx (hb hby at_138) ?_
      refine og_istore X22 hx #[iv p1, iv p2, iv p3, iv p4, iv p5, iv 1, iv c1, iv c2, iv c3, iv c4, rv ca19, rv b20, rv t22, iv 0, iv 0, .unset] (hb hby at_139) rfl ?_
      refine og_aload X22 hx (hb hby at_141) rfl rfl ?_
      refine own_callV X22 hx hZ22 hown22 (own_hw hw 89 rfl) (own_hw hw 40 rfl) (notFace_of_selects (args := #[]) (mvT hZ22 (own_hw hw 42 rfl))) (own_hw hw 42 rfl) (own_hw hw 41 rfl) (own_hw hw 43 rfl) (own_hw hw 11 rfl) (by decide) (b := t22) (argsL := []) (rest := []) (own_slen l Z a0 hw z sf t22 vb22 _ _ 0 _ T22.heap n0 O22 hG Et22 Ft22 Ct22 At22) rfl Et22 (by rw [hml]; rfl) (lenOf own_pd13941 rfl) rfl (hb hby at_143) (W := 0) (Nat.le_of_eq rfl) (by decide) ?_
      intro v23 T23 L23 X23 q23
      obtain ⟨rfl, N23q, e23⟩ := q23
      have N23 := Fr.app N22 N23q
      show own_Go p e below _ T23 (mkF m 146 #[iv p1, iv p2, iv p3, iv p4, iv p5, iv 1, iv c1, iv c2, iv c3, iv c4, rv ca19, rv b20, rv t22, iv 0, iv 0, .unset] [(.int 0)])
      refine og_iload X23 hx (hb hby at_146) rfl ?_
      refine og_icY X23 hx 153 (hb hby at_148) (teq rfl).1 (by decide) (by decide) ?_
      refine og_iconst X23 hx (hb hby at_153) ?_
      refine own_newP X23 hx hZ22 (own_hw hw 8 rfl) e23 (hb hby at_154) (by decide) 4 (by decide) (by decide) (by decide) (by decide) ?_
      intro T24 h24 k24 b24 g24 X24 e24 E24 A24
      have ne_t22_b24 : t22 ≠ b24 := Nat.ne_of_lt (Nat.lt_of_lt_of_eq Et22.lt g24.symm)
      have ne_vb22_b24 : vb22 ≠ b24 := Nat.ne_of_lt (Nat.lt_of_lt_of_eq At22.lt g24.symm)
      have ge_b24 : n0 ≤ b24 := Nat.le_trans (own_oldle O22) (Nat.le_of_eq g24.symm)
      have hk24 := Nat.le_trans (Nat.le_refl _) E24.1
      have E_t22_24 := Et22.ext E24
      have F_t22_value_24 := Ft22.ext E24
      have F_t22_coder_24 := Ct22.ext E24
      have A_vb22_24 := At22.ext E24
      have C24 := C22.trans (CHr.ext E24 C22.1)
      have O24 := O22.ext E24
      have A_b24_24 : Arv Z h24 b24 k24 .char 4 [(.int (0 : Int32)), (.int (0 : Int32)), (.int (0 : Int32)), (.int (0 : Int32))] (.int (0 : Int32)) := A24
      show own_Go p e below _ T24 (mkF m 156 #[iv p1, iv p2, iv p3, iv p4, iv p5, iv 1, iv c1, iv c2, iv c3, iv c4, rv ca19, rv b20, rv t22, iv 0, iv 0, .unset] [(.ref b24)])
      refine og_dup X24 hx (hb hby at_156) rfl ?_
      refine og_iconst X24 hx (hb hby at_157) ?_
      refine og_iload X24 hx (hb hby at_158) rfl ?_
      refine own_stC X24 hx hZ22 e24 A_b24_24 ⟨by decide, by decide⟩ 0 rfl (by show 0 < 4; decide) (hb hby at_160) ?_
      intro T25 h25 X25 e25 W25 A25
      have hk25 := Nat.le_trans hk24 (Keep.of_wr W25).1
      have sf25 := (Safe.arv (EL := own_EL) hZ22.alike A_b24_24 (by decide))
      have C25 := C24.trans (CHr.wr W25 sf25 C24.1)
      have E_t22_25 := E_t22_24.wr W25
      have F_t22_value_25 := F_t22_value_24.other W25 (Or.inl ne_t22_b24)
      have F_t22_coder_25 := F_t22_coder_24.other W25 (Or.inl ne_t22_b24)
      have A_vb22_25 := A_vb22_24.other W25 ne_vb22_b24
      have O25 := O24.wr W25 ge_b24
      have N25 := Fr.snoc X25 N23 ge_b24
      have A_b24_25 : Arv Z h25 b24 k24 .char 4 [(.int c1), (.int (0 : Int32)), (.int (0 : Int32)), (.int (0 : Int32))] (.int (0 : Int32)) := (by have q := A25; rw [show nar .char c1 = c1 from own_ic _ hc1] at q; exact q)
      show own_Go p e below _ T25 (mkF m 161 #[iv p1, iv p2, iv p3, iv p4, iv p5, iv 1, iv c1, iv c2, iv c3, iv c4, rv ca19, rv b20, rv t22, iv 0, iv 0, .unset] [(.ref b24)])
      refine og_dup X25 hx (hb hby at_161) rfl ?_
      refine og_iconst X25 hx (hb hby at_162) ?_
      refine og_iload X25 hx (hb hby at_163) rfl ?_
      refine own_stC X25 hx hZ22 e25 A_b24_25 ⟨by decide, by decide⟩ 1 rfl (by show 1 < 4; decide) (hb hby at_165) ?_
      intro T26 h26 X26 e26 W26 A26
      have hk26 := Nat.le_trans hk25 (Keep.of_wr W26).1
      have sf26 := (Safe.arv (EL := own_EL) hZ22.alike A_b24_25 (by decide))
      have C26 := C25.trans (CHr.wr W26 sf26 C25.1)
      have E_t22_26 := E_t22_25.wr W26
      have F_t22_value_26 := F_t22_value_25.other W26 (Or.inl ne_t22_b24)
      have F_t22_coder_26 := F_t22_coder_25.other W26 (Or.inl ne_t22_b24)
      have A_vb22_26 := A_vb22_25.other W26 ne_vb22_b24
      have O26 := O25.wr W26 ge_b24
      have N26 := Fr.snoc X26 N25 ge_b24
      have A_b24_26 : Arv Z h26 b24 k24 .char 4 [(.int c1), (.int c2), (.int (0 : Int32)), (.int (0 : Int32))] (.int (0 : Int32)) := (by have q := A26; rw [show nar .char c2 = c2 from own_ic _ hc2] at q; exact q)
      show own_Go p e below _ T26 (mkF m 166 #[iv p1, iv p2, iv p3, iv p4, iv p5, iv 1, iv c1, iv c2, iv c3, iv c4, rv ca19, rv b20, rv t22, iv 0, iv 0, .unset] [(.ref b24)])
      refine og_dup X26 hx (hb hby at_166) rfl ?_
      refine og_iconst X26 hx (hb hby at_167) ?_
      refine og_iload X26 hx (hb hby at_168) rfl ?_
      refine own_stC X26 hx hZ22 e26 A_b24_26 ⟨by decide, by decide⟩ 2 rfl (by show 2 < 4; decide) (hb hby at_170) ?_
      intro T27 h27 X27 e27 W27 A27
      have hk27 := Nat.le_trans hk26 (Keep.of_wr W27).1
      have sf27 := (Safe.arv (EL := own_EL) hZ22.alike A_b24_26 (by decide))
      have C27 := C26.trans (CHr.wr W27 sf27 C26.1)
      have E_t22_27 := E_t22_26.wr W27
      have F_t22_value_27 := F_t22_value_26.other W27 (Or.inl ne_t22_b24)
      have F_t22_coder_27 := F_t22_coder_26.other W27 (Or.inl ne_t22_b24)
      have A_vb22_27 := A_vb22_26.other W27 ne_vb22_b24
      have O27 := O26.wr W27 ge_b24
      have N27 := Fr.snoc X27 N26 ge_b24
      have A_b24_27 : Arv Z h27 b24 k24 .char 4 [(.int c1), (.int c2), (.int c3), (.int (0 : Int32))] (.int (0 : Int32)) := (by have q := A27; rw [show nar .char c3 = c3 from own_ic _ hc3] at q; exact q)
      show own_Go p e below _ T27 (mkF m 171 #[iv p1, iv p2, iv p3, iv p4, iv p5, iv 1, iv c1, iv c2, iv c3, iv c4, rv ca19, rv b20, rv t22, iv 0, iv 0, .unset] [(.ref b24)])
      refine og_dup X27 hx (hb hby at_171) rfl ?_
      refine og_iconst X27 hx (hb hby at_172) ?_
      refine og_iload X27 hx (hb hby at_173) rfl ?_
      refine own_stC X27 hx hZ22 e27 A_b24_27 ⟨by decide, by decide⟩ 3 rfl (by show 3 < 4; decide) (hb hby at_175) ?_
      intro T28 h28 X28 e28 W28 A28
      have hk28 := Nat.le_trans hk27 (Keep.of_wr W28).1
      have sf28 := (Safe.arv (EL := own_EL) hZ22.alike A_b24_27 (by decide))
      have C28 := C27.trans (CHr.wr W28 sf28 C27.1)
      have E_t22_28 := E_t22_27.wr W28
      have F_t22_value_28 := F_t22_value_27.other W28 (Or.inl ne_t22_b24)
      have F_t22_coder_28 := F_t22_coder_27.other W28 (Or.inl ne_t22_b24)
      have A_vb22_28 := A_vb22_27.other W28 ne_vb22_b24
      have O28 := O27.wr W28 ge_b24
      have N28 := Fr.snoc X28 N27 ge_b24
      have A_b24_28 : Arv Z h28 b24 k24 .char 4 [(.int c1), (.int c2), (.int c3), (.int c4)] (.int (0 : Int32)) := (by have q := A28; rw [show nar .char c4 = c4 from own_ic _ hc4] at q; exact q)
      show own_Go p e below _ T28 (mkF m 176 #[iv p1, iv p2, iv p3, iv p4, iv p5, iv 1, iv c1, iv c2, iv c3, iv c4, rv ca19, rv b20, rv t22, iv 0, iv 0, .unset] [(.ref b24)])
      refine og_astore X28 hx #[iv p1, iv p2, iv p3, iv p4, iv p5, iv 1, iv c1, iv c2, iv c3, iv c4, rv ca19, rv b20, rv t22, iv 0, iv 0, rv b24] (hb hby at_176) rfl rfl ?_
      refine og_aload X28 hx (hb hby at_178) rfl rfl ?_
      refine og_iload X28 hx (hb hby at_180) rfl ?_
      refine og_iconst X28 hx (hb hby at_182) ?_
      refine og_aload X28 hx (hb hby at_183) rfl rfl ?_
      refine og_iload X28 hx (hb hby at_185) rfl ?_
      refine own_callS X28 hx hZ22 hown22 (own_hw hw 90 rfl) (own_hw hw 91 rfl) (own_hw hw 3 rfl) (own_hw hw 92 rfl) (by decide) (argsL := [(.ref t22), (.int 0), (.int 0), (.ref b24), (.int 0)]) (rest := []) (own_sm_0_0 l Z a0 hw t22 b24 0 h28 n0) e28 (by rw [hml]; rfl) (lenOf own_pd39901 rfl) rfl (hb hby at_187) (W := 0) (Nat.le_of_eq rfl) (by decide) ?_
      intro v29 T29 L29 X29 q29
      obtain ⟨rfl, N29q, e29⟩ := q29
      have N29 := Fr.app N28 N29q
      show own_Go p e below _ T29 (mkF m 190 #[iv p1, iv p2, iv p3, iv p4, iv p5, iv 1, iv c1, iv c2, iv c3, iv c4, rv ca19, rv b20, rv t22, iv 0, iv 0, rv b24] [(.int 1)])
      refine og_ifN X29 hx (hb hby at_190) (feq (by decide)).1 ?_
      refine og_aload X29 hx (hb hby at_193) rfl rfl ?_
      refine og_iload X29 hx (hb hby at_195) rfl ?_
      refine og_iconst X29 hx (hb hby at_197) ?_
      refine og_aload X29 hx (hb hby at_198) rfl rfl ?_
      refine og_iload X29 hx (hb hby at_200) rfl ?_
      refine own_callS X29 hx hZ22 hown22 (own_hw hw 90 rfl) (own_hw hw 91 rfl) (own_hw hw 3 rfl) (own_hw hw 92 rfl) (by decide) (argsL := [(.ref t22), (.int 0), (.int 1), (.ref b24), (.int 0)]) (rest := []) (own_sm_0_1 l Z a0 hw t22 b24 0 h28 n0) e29 (by rw [hml]; rfl) (lenOf own_pd39901 rfl) rfl (hb hby at_202) (W := 0) (Nat.le_of_eq rfl) (by decide) ?_
      intro v30 T30 L30 X30 q30
      obtain ⟨rfl, N30q, e30⟩ := q30
      have N30 := Fr.app N29 N30q
      show own_Go p e below _ T30 (mkF m 205 #[iv p1, iv p2, iv p3, iv p4, iv p5, iv 1, iv c1, iv c2, iv c3, iv c4, rv ca19, rv b20, rv t22, iv 0, iv 0, rv b24] [(.int 1)])
      refine og_ifN X30 hx (hb hby at_205) (feq (by decide)).1 ?_
      refine og_aload X30 hx (hb hby at_208) rfl rfl ?_
      refine og_iload X30 hx (hb hby at_210) rfl ?_
      refine og_iconst X30 hx (hb hby at_212) ?_
      refine og_aload X30 hx (hb hby at_213) rfl rfl ?_
      refine og_iload X30 hx (hb hby at_215) rfl ?_
      refine own_callS X30 hx hZ22 hown22 (own_hw hw 90 rfl) (own_hw hw 91 rfl) (own_hw hw 3 rfl) (own_hw hw 92 rfl) (by decide) (argsL := [(.ref t22), (.int 0), (.int 2), (.ref b24), (.int 0)]) (rest := []) (own_sm_0_2 l Z a0 hw t22 b24 0 h28 n0) e30 (by rw [hml]; rfl) (lenOf own_pd39901 rfl) rfl (hb hby at_217) (W := 0) (Nat.le_of_eq rfl) (by decide) ?_
      intro v31 T31 L31 X31 q31
      obtain ⟨rfl, N31q, e31⟩ := q31
      have N31 := Fr.app N30 N31q
      show own_Go p e below _ T31 (mkF m 220 #[iv p1, iv p2, iv p3, iv p4, iv p5, iv 1, iv c1, iv c2, iv c3, iv c4, rv ca19, rv b20, rv t22, iv 0, iv 0, rv b24] [(.int 1)])
      refine og_ifN X31 hx (hb hby at_220) (feq (by decide)).1 ?_
      refine og_aload X31 hx (hb hby at_223) rfl rfl ?_
      refine og_iload X31 hx (hb hby at_225) rfl ?_
      refine og_iconst X31 hx (hb hby at_227) ?_
      refine og_aload X31 hx (hb hby at_228) rfl rfl ?_
      refine og_iload X31 hx (hb hby at_230) rfl ?_
      refine own_callS X31 hx hZ22 hown22 (own_hw hw 90 rfl) (own_hw hw 91 rfl) (own_hw hw 3 rfl) (own_hw hw 92 rfl) (by decide) (argsL := [(.ref t22), (.int 0), (.int 3), (.ref b24), (.int 0)]) (rest := []) (own_sm_0_3 l Z a0 hw t22 b24 0 h28 n0) e31 (by rw [hml]; rfl) (lenOf own_pd39901 rfl) rfl (hb hby at_232) (W := 0) (Nat.le_of_eq rfl) (by decide) ?_
      intro v32 T32 L32 X32 q32
      obtain ⟨rfl, N32q, e32⟩ := q32
      have N32 := Fr.app N31 N32q
      show own_Go p e below _ T32 (mkF m 235 #[iv p1, iv p2, iv p3, iv p4, iv p5, iv 1, iv c1, iv c2, iv c3, iv c4, rv ca19, rv b20, rv t22, iv 0, iv 0, rv b24] [(.int 1)])
      refine og_ifN X32 hx (hb hby at_235) (feq (by decide)).1 ?_
      refine og_iconst X32 hx (hb hby at_238) ?_
      refine og_goto X32 hx 243 (hb hby at_239) (by decide) (by decide) ?_
      exact own_retIH X32 hx hret hlk (hb hby at_243) rfl (by simp) hZ22 (own_EW hw) C28 e32 hS22 hk28 (by decide) (by decide) (⟨rfl, N32⟩)
    · show own_Go p e below _ T4 (mkF m 35 #[iv p1, iv p2, iv p3, iv p4, iv p5, iv 1, iv c1, iv c2, iv c3, iv c4, .unset, .unset, .unset, .unset, .unset, .unset] [(.int 1)])
      refine og_iload X4 hx (hb hby at_35) rfl ?_
      refine og_iload X4 hx (hb hby at_37) rfl ?_
      refine og_iload X4 hx (hb hby at_39) rfl ?_
      refine og_iload X4 hx (hb hby at_41) rfl ?_
      refine own_callS X4 hx hZ hown (own_hw hw 5 rfl) (own_hw hw 6 rfl) (own_hw hw 3 rfl) (own_hw hw 7 rfl) (by decide) (argsL := [(.int 1), (.int c1), (.int c2), (.int c3), (.int c4)]) (rest := []) (own_mk1 l Z a0 hw c1 c2 c3 c4 h0 n0 hO hc1 hc2 hc3 hc4) e4 (by rw [hml]; rfl) (lenOf own_pd92197 rfl) rfl (hb hby at_43) (W := 0) (Nat.le_of_eq rfl) (by decide) ?_
      intro v33 T33 L33 X33 q33
      obtain ⟨ca33, k33, rfl, N33q, K33q, z33q, g33q, A33q⟩ := q33
      have N33 := Fr.app N4 N33q
      have hk33 := Nat.le_trans hk K33q.1
      have hs33 : ∀ x ∈ ([] : List Addr), Safe Z own_EL s.vm h0 x := sf0
      have C33 := C0.trans (CHr.keep K33q hs33 C0.1)
      have O33 := hO.keep K33q all0
      show own_Go p e below _ T33 (mkF m 46 #[iv p1, iv p2, iv p3, iv p4, iv p5, iv 1, iv c1, iv c2, iv c3, iv c4, .unset, .unset, .unset, .unset, .unset, .unset] [(.ref ca33)])
      refine og_astore X33 hx #[iv p1, iv p2, iv p3, iv p4, iv p5, iv 1, iv c1, iv c2, iv c3, iv c4, rv ca33, .unset, .unset, .unset, .unset, .unset] (hb hby at_46) rfl rfl ?_
      refine own_newO X33 hx hZ hown (own_hw hw 9 rfl) (own_hw hw 10 rfl) (own_hw hw 11 rfl) rfl (hb hby at_48) (by decide) (by decide) ?_
      intro T34 h34 b34 g34 X34 e34 E34 A34 D34
      have ne_ca33_b34 : ca33 ≠ b34 := Nat.ne_of_lt (Nat.lt_of_lt_of_eq A33q.lt g34.symm)
      have ge_b34 : n0 ≤ b34 := Nat.le_trans (own_oldle O33) (Nat.le_of_eq g34.symm)
      have S_b34 : Safe Z own_EL s.vm T33.heap b34 := Safe.new (Nat.le_of_eq g34.symm)
      have hk34 := Nat.le_trans hk33 E34.1
      have A_ca33_34 := A33q.ext E34
      have S_b34_34 := Safe.ext E34 C33.1 S_b34
      have C34 := C33.trans (CHr.ext E34 C33.1)
      have O34 := O33.ext E34
      have F_b34_value_34 : Fld Z h34 b34 "java/lang/String" "value" "[B" .null := D34 (Or.inr (own_hw hw 24 rfl)) (ty := (.array .byte)) (by decide)
      have F_b34_coder_34 : Fld Z h34 b34 "java/lang/String" "coder" "B" (.int 0) := D34 (Or.inr (own_hw hw 25 rfl)) (ty := .byte) (by decide)
      show own_Go p e below _ T34 (mkF m 51 #[iv p1, iv p2, iv p3, iv p4, iv p5, iv 1, iv c1, iv c2, iv c3, iv c4, rv ca33, .unset, .unset, .unset, .unset, .unset] [(.ref b34)])
      refine og_dup X34 hx (hb hby at_51) rfl ?_
      refine og_aload X34 hx (hb hby at_52) rfl rfl ?_
      have hws : ∀ d ∈ StrChars.Road.words, d.before a0 Z = true := fun d hd => hw d ((by decide +kernel : ∀ d ∈ StrChars.Road.words, d ∈ tables_1) d hd)
      have hp35 : ∀ c ∈ ([c1] : List Int32), ¬ c < 0 ∧ ¬ (255 : Int32) < c := by
        intro c hc; simp only [List.mem_cons, List.not_mem_nil, or_false] at hc; rcases hc with rfl <;> assumption
      refine own_callNB X34 hx hZ hown (own_hw hw 12 rfl) (own_hw hw 13 rfl) (own_hw hw 14 rfl) (own_hw hw 11 rfl) (by decide) rfl (b := b34) (argsL := [(.ref ca33)]) (rest := [(.ref b34)]) (StrChars.Road.backV (W := 1) hZ hws (kI := 4) (own_hw hw 10 rfl) (cs := ([c1] : List Int32)) (bs := (([c1] : List Int32)).map (fun c => c.toInt8.toInt32)) (n := 1) ge_b34 (own_oldle O34) A34 F_b34_value_34 F_b34_coder_34 A_ca33_34 (SC.ext O34.2) hz rfl rfl (by decide) (by decide) hp35 rfl (by decide) (by decide)) e34 (by rw [hml]; rfl) (lenOf own_pd46664 rfl) rfl (hb hby at_54) (Nat.le_of_eq rfl) (by decide) (by decide) ?_
      intro v35 T35 L35 X35 q35
      obtain ⟨rfl, N35q, K35q, E35q, C35q, vb35, kb35, ge35, z35q, ne35q, V35q, A35q⟩ := q35
      have N35 := Fr.app N33 N35q
      have ne_b34_vb35 : b34 ≠ vb35 := Nat.ne_of_lt (Nat.lt_of_lt_of_le A34.lt z35q)
      have ne_ca33_vb35 : ca33 ≠ vb35 := Nat.ne_of_lt (Nat.lt_of_lt_of_le A_ca33_34.lt z35q)
      have hk35 := Nat.le_trans hk34 K35q.1
      have hs35 : ∀ x ∈ ([b34] : List Addr), Safe Z own_EL s.vm h34 x := (sfS S_b34_34 sf0)
      have C35 := C34.trans (CHr.keep K35q hs35 C34.1)
      have A_ca33_35 := A_ca33_34.keep K35q (ninS ne_ca33_b34 nin0)
      have S_b34_35 := Safe.keep K35q hs35 C34.1 S_b34_34
      have E_b34_35 := A34.keep K35q
      have O35 := O34.keep K35q (allS ge_b34 all0)
      show own_Go p e below _ T35 (mkF m 57 #[iv p1, iv p2, iv p3, iv p4, iv p5, iv 1, iv c1, iv c2, iv c3, iv c4, rv ca33, .unset, .unset, .unset, .unset, .unset] [(.ref b34)])
      refine og_astore X35 hx #[iv p1, iv p2, iv p3, iv p4, iv p5, iv 1, iv c1, iv c2, iv c3, iv c4, rv ca33, rv b34, .unset, .unset, .unset, .unset] (hb hby at_57) rfl rfl ?_
      refine og_aload X35 hx (hb hby at_59) rfl rfl ?_
      refine own_callS X35 hx hZ hown (own_hw hw 30 rfl) (own_hw hw 31 rfl) (own_hw hw 32 rfl) (own_hw hw 33 rfl) (by decide) (argsL := [(.ref b34)]) (rest := []) (own_po_1_m1 l Z a0 hw z sf b34 vb35 _ _ c1 T35.heap n0 O35 hG hc1 m0 E_b34_35 V35q C35q A35q) rfl (by rw [hml]; rfl) (lenOf own_pd11897 rfl) rfl (hb hby at_61) (W := 0) (Nat.le_of_eq rfl) (by decide) ?_
      intro v36 T36 L36 X36 q36
      obtain ⟨rfl, N36q, e36⟩ := q36
      have N36 := Fr.app N35 N36q
      show own_Go p e below _ T36 (mkF m 64 #[iv p1, iv p2, iv p3, iv p4, iv p5, iv 1, iv c1, iv c2, iv c3, iv c4, rv ca33, rv b34, .unset, .unset, .unset, .unset] [(.ref b34)])
      refine og_astore X36 hx #[iv p1, iv p2, iv p3, iv p4, iv p5, iv 1, iv c1, iv c2, iv c3, iv c4, rv ca33, rv b34, rv b34, .unset, .unset, .unset] (hb hby at_64) rfl rfl ?_
      refine og_iconst X36 hx (hb hby at_66) ?_
      refine og_istore X36 hx #[iv p1, iv p2, iv p3, iv p4, iv p5, iv 1, iv c1, iv c2, iv c3, iv c4, rv ca33, rv b34, rv b34, iv (-1), .unset, .unset] (hb hby at_67) rfl ?_
      refine og_iload X36 hx (hb hby at_69) rfl ?_
      refine og_ifN X36 hx (hb hby at_71) (tlt (by decide)).2.2.2 ?_
      refine og_iload X36 hx (hb hby at_74) rfl ?_
      refine og_bipush X36 hx (hb hby at_76) ?_
      refine og_icY X36 hx 84 (hb hby at_78) (feq m0).2 (by decide) (by decide) ?_
      refine og_iload X36 hx (hb hby at_84) rfl ?_
      refine og_iconst X36 hx (hb hby at_86) ?_
      refine og_icY X36 hx 100 (hb hby at_87) (flt (by decide)).2.2.2 (by decide) (by decide) ?_
      refine og_iload X36 hx (hb hby at_100) rfl ?_
      refine og_iconst X36 hx (hb hby at_102) ?_
      refine og_icY X36 hx 116 (hb hby at_103) (flt (by decide)).2.2.2 (by decide) (by decide) ?_
      refine og_iload X36 hx (hb hby at_116) rfl ?_
      refine og_iconst X36 hx (hb hby at_118) ?_
      refine og_icY X36 hx 132 (hb hby at_119) (flt (by decide)).2.2.2 (by decide) (by decide) ?_
      refine og_iload X36 hx (hb hby at_132) rfl ?_
      refine og_iload X36 hx (hb hby at_134) rfl ?_
      refine og_isub X36 hx (hb hby at_136) ?_
      refine og_iconst X36 hx (hb hby at_137) ?_
      refine og_isub X36 hx (hb hby at_138) ?_
      refine og_istore X36 hx #[iv p1, iv p2, iv p3, iv p4, iv p5, iv 1, iv c1, iv c2, iv c3, iv c4, rv ca33, rv b34, rv b34, iv (-1), iv 1, .unset] (hb hby at_139) rfl ?_
      refine og_aload X36 hx (hb hby at_141) rfl rfl ?_
      refine own_callV X36 hx hZ hown (own_hw hw 89 rfl) (own_hw hw 40 rfl) (notFace_of_selects (args := #[]) (mvT hZ (own_hw hw 42 rfl))) (own_hw hw 42 rfl) (own_hw hw 41 rfl) (own_hw hw 43 rfl) (own_hw hw 11 rfl) (by decide) (b := b34) (argsL := []) (rest := []) (own_slen l Z a0 hw z sf b34 vb35 _ _ (1 : Int32) _ T35.heap n0 O35 hG E_b34_35 V35q C35q A35q) e36 E_b34_35 (by rw [hml]; rfl) (lenOf own_pd13941 rfl) rfl (hb hby at_143) (W := 0) (Nat.le_of_eq rfl) (by decide) ?_
      intro v37 T37 L37 X37 q37
      obtain ⟨rfl, N37q, e37⟩ := q37
      have N37 := Fr.app N36 N37q
      show own_Go p e below _ T37 (mkF m 146 #[iv p1, iv p2, iv p3, iv p4, iv p5, iv 1, iv c1, iv c2, iv c3, iv c4, rv ca33, rv b34, rv b34, iv (-1), iv 1, .unset] [(.int (1 : Int32))])
      refine og_iload X37 hx (hb hby at_146) rfl ?_
      refine og_icY X37 hx 153 (hb hby at_148) (teq (by decide)).1 (by decide) (by decide) ?_
      refine og_iconst X37 hx (hb hby at_153) ?_
      refine own_newP X37 hx hZ (own_hw hw 8 rfl) e37 (hb hby at_154) (by decide) 4 (by decide) (by decide) (by decide) (by decide) ?_
      intro T38 h38 k38 b38 g38 X38 e38 E38 A38
      have ne_b34_b38 : b34 ≠ b38 := Nat.ne_of_lt (Nat.lt_of_lt_of_eq E_b34_35.lt g38.symm)
      have ne_vb35_b38 : vb35 ≠ b38 := Nat.ne_of_lt (Nat.lt_of_lt_of_eq A35q.lt g38.symm)
      have ge_b38 : n0 ≤ b38 := Nat.le_trans (own_oldle O35) (Nat.le_of_eq g38.symm)
      have hk38 := Nat.le_trans hk35 E38.1
      have E_b34_38 := E_b34_35.ext E38
      have F_b34_value_38 := V35q.ext E38
      have F_b34_coder_38 := C35q.ext E38
      have A_vb35_38 := A35q.ext E38
      have C38 := C35.trans (CHr.ext E38 C35.1)
      have O38 := O35.ext E38
      have A_b38_38 : Arv Z h38 b38 k38 .char 4 [(.int (0 : Int32)), (.int (0 : Int32)), (.int (0 : Int32)), (.int (0 : Int32))] (.int (0 : Int32)) := A38
      show own_Go p e below _ T38 (mkF m 156 #[iv p1, iv p2, iv p3, iv p4, iv p5, iv 1, iv c1, iv c2, iv c3, iv c4, rv ca33, rv b34, rv b34, iv (-1), iv 1, .unset] [(.ref b38)])
      refine og_dup X38 hx (hb hby at_156) rfl ?_
      refine og_iconst X38 hx (hb hby at_157) ?_
      refine og_iload X38 hx (hb hby at_158) rfl ?_
      refine own_stC X38 hx hZ e38 A_b38_38 ⟨by decide, by decide⟩ 0 rfl (by show 0 < 4; decide) (hb hby at_160) ?_
      intro T39 h39 X39 e39 W39 A39
      have hk39 := Nat.le_trans hk38 (Keep.of_wr W39).1
      have sf39 := (Safe.arv (EL := own_EL) hZ.alike A_b38_38 (by decide))
      have C39 := C38.trans (CHr.wr W39 sf39 C38.1)
      have E_b34_39 := E_b34_38.wr W39
      have F_b34_value_39 := F_b34_value_38.other W39 (Or.inl ne_b34_b38)
      have F_b34_coder_39 := F_b34_coder_38.other W39 (Or.inl ne_b34_b38)
      have A_vb35_39 := A_vb35_38.other W39 ne_vb35_b38
      have O39 := O38.wr W39 ge_b38
      have N39 := Fr.snoc X39 N37 ge_b38
      have A_b38_39 : Arv Z h39 b38 k38 .char 4 [(.int c1), (.int (0 : Int32)), (.int (0 : Int32)), (.int (0 : Int32))] (.int (0 : Int32)) := (by have q := A39; rw [show nar .char c1 = c1 from own_ic _ hc1] at q; exact q)
      show own_Go p e below _ T39 (mkF m 161 #[iv p1, iv p2, iv p3, iv p4, iv p5, iv 1, iv c1, iv c2, iv c3, iv c4, rv ca33, rv b34, rv b34, iv (-1), iv 1, .unset] [(.ref b38)])
      refine og_dup X39 hx (hb hby at_161) rfl ?_
      refine og_iconst X39 hx (hb hby at_162) ?_
      refine og_iload X39 hx (hb hby at_163) rfl ?_
      refine own_stC X39 hx hZ e39 A_b38_39 ⟨by decide, by decide⟩ 1 rfl (by show 1 < 4; decide) (hb hby at_165) ?_
      intro T40 h40 X40 e40 W40 A40
      have hk40 := Nat.le_trans hk39 (Keep.of_wr W40).1
      have sf40 := (Safe.arv (EL := own_EL) hZ.alike A_b38_39 (by decide))
      have C40 := C39.trans (CHr.wr W40 sf40 C39.1)
      have E_b34_40 := E_b34_39.wr W40
      have F_b34_value_40 := F_b34_value_39.other W40 (Or.inl ne_b34_b38)
      have F_b34_coder_40 := F_b34_coder_39.other W40 (Or.inl ne_b34_b38)
      have A_vb35_40 := A_vb35_39.other W40 ne_vb35_b38
      have O40 := O39.wr W40 ge_b38
      have N40 := Fr.snoc X40 N39 ge_b38
      have A_b38_40 : Arv Z h40 b38 k38 .char 4 [(.int c1), (.int c2), (.int (0 : Int32)), (.int (0 : Int32))] (.int (0 : Int32)) := (by have q := A40; rw [show nar .char c2 = c2 from own_ic _ hc2] at q; exact q)
      show own_Go p e below _ T40 (mkF m 166 #[iv p1, iv p2, iv p3, iv p4, iv p5, iv 1, iv c1, iv c2, iv c3, iv c4, rv ca33, rv b34, rv b34, iv (-1), iv 1, .unset] [(.ref b38)])
      refine og_dup X40 hx (hb hby at_166) rfl ?_
      refine og_iconst X40 hx (hb hby at_167) ?_
      refine og_iload X40 hx (hb hby at_168) rfl ?_
      refine own_stC X40 hx hZ e40 A_b38_40 ⟨by decide, by decide⟩ 2 rfl (by show 2 < 4; decide) (hb hby at_170) ?_
      intro T41 h41 X41 e41 W41 A41
      have hk41 := Nat.le_trans hk40 (Keep.of_wr W41).1
      have sf41 := (Safe.arv (EL := own_EL) hZ.alike A_b38_40 (by decide))
      have C41 := C40.trans (CHr.wr W41 sf41 C40.1)
      have E_b34_41 := E_b34_40.wr W41
      have F_b34_value_41 := F_b34_value_40.other W41 (Or.inl ne_b34_b38)
      have F_b34_coder_41 := F_b34_coder_40.other W41 (Or.inl ne_b34_b38)
      have A_vb35_41 := A_vb35_40.other W41 ne_vb35_b38
      have O41 := O40.wr W41 ge_b38
      have N41 := Fr.snoc X41 N40 ge_b38
      have A_b38_41 : Arv Z h41 b38 k38 .char 4 [(.int c1), (.int c2), (.int c3), (.int (0 : Int32))] (.int (0 : Int32)) := (by have q := A41; rw [show nar .char c3 = c3 from own_ic _ hc3] at q; exact q)
      show own_Go p e below _ T41 (mkF m 171 #[iv p1, iv p2, iv p3, iv p4, iv p5, iv 1, iv c1, iv c2, iv c3, iv c4, rv ca33, rv b34, rv b34, iv (-1), iv 1, .unset] [(.ref b38)])
      refine og_dup X41 hx (hb hby at_171) rfl ?_
      refine og_iconst X41 hx (hb hby at_172) ?_
      refine og_iload X41 hx (hb hby at_173) rfl ?_
      refine own_stC X41 hx hZ e41 A_b38_41 ⟨by decide, by decide⟩ 3 rfl (by show 3 < 4; decide) (hb hby at_175) ?_
      intro T42 h42 X42 e42 W42 A42
      have hk42 := Nat.le_trans hk41 (Keep.of_wr W42).1
      have sf42 := (Safe.arv (EL := own_EL) hZ.alike A_b38_41 (by decide))
      have C42 := C41.trans (CHr.wr W42 sf42 C41.1)
      have E_b34_42 := E_b34_41.wr W42
      have F_b34_value_42 := F_b34_value_41.other W42 (Or.inl ne_b34_b38)
      have F_b34_coder_42 := F_b34_coder_41.other W42 (Or.inl ne_b34_b38)
      have A_vb35_42 := A_vb35_41.other W42 ne_vb35_b38
      have O42 := O41.wr W42 ge_b38
      have N42 := Fr.snoc X42 N41 ge_b38
      have A_b38_42 : Arv Z h42 b38 k38 .char 4 [(.int c1), (.int c2), (.int c3), (.int c4)] (.int (0 : Int32)) := (by have q := A42; rw [show nar .char c4 = c4 from own_ic _ hc4] at q; exact q)
      show own_Go p e below _ T42 (mkF m 176 #[iv p1, iv p2, iv p3, iv p4, iv p5, iv 1, iv c1, iv c2, iv c3, iv c4, rv ca33, rv b34, rv b34, iv (-1), iv 1, .unset] [(.ref b38)])
      refine og_astore X42 hx #[iv p1, iv p2, iv p3, iv p4, iv p5, iv 1, iv c1, iv c2, iv c3, iv c4, rv ca33, rv b34, rv b34, iv (-1), iv 1, rv b38] (hb hby at_176) rfl rfl ?_
      refine og_aload X42 hx (hb hby at_178) rfl rfl ?_
      refine og_iload X42 hx (hb hby at_180) rfl ?_
      refine og_iconst X42 hx (hb hby at_182) ?_
      refine og_aload X42 hx (hb hby at_183) rfl rfl ?_
      refine og_iload X42 hx (hb hby at_185) rfl ?_
      refine own_callS X42 hx hZ hown (own_hw hw 90 rfl) (own_hw hw 91 rfl) (own_hw hw 3 rfl) (own_hw hw 92 rfl) (by decide) (argsL := [(.ref b34), (.int 1), (.int 0), (.ref b38), (.int (-1))]) (rest := []) (own_sm_1_0_m1 l Z a0 hw z sf b34 vb35 _ _ b38 _ _ c1 c2 c3 c4 h42 n0 O42 hG hc1 E_b34_42 F_b34_value_42 F_b34_coder_42 A_vb35_42 A_b38_42) e42 (by rw [hml]; rfl) (lenOf own_pd39901 rfl) rfl (hb hby at_187) (W := 0) (Nat.le_of_eq rfl) (by decide) ?_
      intro v43 T43 L43 X43 q43
      obtain ⟨rfl, N43q, e43⟩ := q43
      have N43 := Fr.app N42 N43q
      show own_Go p e below _ T43 (mkF m 190 #[iv p1, iv p2, iv p3, iv p4, iv p5, iv 1, iv c1, iv c2, iv c3, iv c4, rv ca33, rv b34, rv b34, iv (-1), iv 1, rv b38] [(.int 1)])
      refine og_ifN X43 hx (hb hby at_190) (feq (by decide)).1 ?_
      refine og_aload X43 hx (hb hby at_193) rfl rfl ?_
      refine og_iload X43 hx (hb hby at_195) rfl ?_
      refine og_iconst X43 hx (hb hby at_197) ?_
      refine og_aload X43 hx (hb hby at_198) rfl rfl ?_
      refine og_iload X43 hx (hb hby at_200) rfl ?_
      refine own_callS X43 hx hZ hown (own_hw hw 90 rfl) (own_hw hw 91 rfl) (own_hw hw 3 rfl) (own_hw hw 92 rfl) (by decide) (argsL := [(.ref b34), (.int 1), (.int 1), (.ref b38), (.int (-1))]) (rest := []) (own_sm_1_1 l Z a0 hw b34 b38 (-1) h42 n0) e43 (by rw [hml]; rfl) (lenOf own_pd39901 rfl) rfl (hb hby at_202) (W := 0) (Nat.le_of_eq rfl) (by decide) ?_
      intro v44 T44 L44 X44 q44
      obtain ⟨rfl, N44q, e44⟩ := q44
      have N44 := Fr.app N43 N44q
      show own_Go p e below _ T44 (mkF m 205 #[iv p1, iv p2, iv p3, iv p4, iv p5, iv 1, iv c1, iv c2, iv c3, iv c4, rv ca33, rv b34, rv b34, iv (-1), iv 1, rv b38] [(.int 1)])
      refine og_ifN X44 hx (hb hby at_205) (feq (by decide)).1 ?_
      refine og_aload X44 hx (hb hby at_208) rfl rfl ?_
      refine og_iload X44 hx (hb hby at_210) rfl ?_
      refine og_iconst X44 hx (hb hby at_212) ?_
      refine og_aload X44 hx (hb hby at_213) rfl rfl ?_
      refine og_iload X44 hx (hb hby at_215) rfl ?_
      refine own_callS X44 hx hZ hown (own_hw hw 90 rfl) (own_hw hw 91 rfl) (own_hw hw 3 rfl) (own_hw hw 92 rfl) (by decide) (argsL := [(.ref b34), (.int 1), (.int 2), (.ref b38), (.int (-1))]) (rest := []) (own_sm_1_2 l Z a0 hw b34 b38 (-1) h42 n0) e44 (by rw [hml]; rfl) (lenOf own_pd39901 rfl) rfl (hb hby at_217) (W := 0) (Nat.le_of_eq rfl) (by decide) ?_
      intro v45 T45 L45 X45 q45
      obtain ⟨rfl, N45q, e45⟩ := q45
      have N45 := Fr.app N44 N45q
      show own_Go p e below _ T45 (mkF m 220 #[iv p1, iv p2, iv p3, iv p4, iv p5, iv 1, iv c1, iv c2, iv c3, iv c4, rv ca33, rv b34, rv b34, iv (-1), iv 1, rv b38] [(.int 1)])
      refine og_ifN X45 hx (hb hby at_220) (feq (by decide)).1 ?_
      refine og_aload X45 hx (hb hby at_223) rfl rfl ?_
      refine og_iload X45 hx (hb hby at_225) rfl ?_
      refine og_iconst X45 hx (hb hby at_227) ?_
      refine og_aload X45 hx (hb hby at_228) rfl rfl ?_
      refine og_iload X45 hx (hb hby at_230) rfl ?_
      refine own_callS X45 hx hZ hown (own_hw hw 90 rfl) (own_hw hw 91 rfl) (own_hw hw 3 rfl) (own_hw hw 92 rfl) (by decide) (argsL := [(.ref b34), (.int 1), (.int 3), (.ref b38), (.int (-1))]) (rest := []) (own_sm_1_3 l Z a0 hw b34 b38 (-1) h42 n0) e45 (by rw [hml]; rfl) (lenOf own_pd39901 rfl) rfl (hb hby at_232) (W := 0) (Nat.le_of_eq rfl) (by decide) ?_
      intro v46 T46 L46 X46 q46
      obtain ⟨rfl, N46q, e46⟩ := q46
      have N46 := Fr.app N45 N46q
      show own_Go p e below _ T46 (mkF m 235 #[iv p1, iv p2, iv p3, iv p4, iv p5, iv 1, iv c1, iv c2, iv c3, iv c4, rv ca33, rv b34, rv b34, iv (-1), iv 1, rv b38] [(.int 1)])
      refine og_ifN X46 hx (hb hby at_235) (feq (by decide)).1 ?_
      refine og_iconst X46 hx (hb hby at_238) ?_
      refine og_goto X46 hx 243 (hb hby at_239) (by decide) (by decide) ?_
      exact own_retIH X46 hx hret hlk (hb hby at_243) rfl (by simp) hZ (own_EW hw) C42 e46 hS hk42 (by decide) (by decide) (⟨rfl, N46⟩)
  · rw [h]
    show own_Go p e below _ T4 (mkF m 33 #[iv p1, iv p2, iv p3, iv p4, iv p5, iv 2, iv c1, iv c2, iv c3, iv c4, .unset, .unset, .unset, .unset, .unset, .unset] [])
    refine og_iload X4 hx (hb hby at_33) rfl ?_
    show own_Go p e below _ T4 (mkF m 35 #[iv p1, iv p2, iv p3, iv p4, iv p5, iv 2, iv c1, iv c2, iv c3, iv c4, .unset, .unset, .unset, .unset, .unset, .unset] [(.int 2)])
    rcases own_last2 c1 c2 with k1 | ⟨m1, k0⟩ | ⟨m1, m0, -⟩
    · show own_Go p e below _ T4 (mkF m 35 #[iv p1, iv p2, iv p3, iv p4, iv p5, iv 2, iv c1, iv c2, iv c3, iv c4, .unset, .unset, .unset, .unset, .unset, .unset] [(.int 2)])
      refine og_iload X4 hx (hb hby at_35) rfl ?_
      refine og_iload X4 hx (hb hby at_37) rfl ?_
      refine og_iload X4 hx (hb hby at_39) rfl ?_
      refine og_iload X4 hx (hb hby at_41) rfl ?_
      refine own_callS X4 hx hZ hown (own_hw hw 5 rfl) (own_hw hw 6 rfl) (own_hw hw 3 rfl) (own_hw hw 7 rfl) (by decide) (argsL := [(.int 2), (.int c1), (.int c2), (.int c3), (.int c4)]) (rest := []) (own_mk2 l Z a0 hw c1 c2 c3 c4 h0 n0 hO hc1 hc2 hc3 hc4) e4 (by rw [hml]; rfl) (lenOf own_pd92197 rfl) rfl (hb hby at_43) (W := 0) (Nat.le_of_eq rfl) (by decide) ?_
      intro v47 T47 L47 X47 q47
      obtain ⟨ca47, k47, rfl, N47q, K47q, z47q, g47q, A47q⟩ := q47
      have N47 := Fr.app N4 N47q
      have hk47 := Nat.le_trans hk K47q.1
      have hs47 : ∀ x ∈ ([] : List Addr), Safe Z own_EL s.vm h0 x := sf0
      have C47 := C0.trans (CHr.keep K47q hs47 C0.1)
      have O47 := hO.keep K47q all0
      show own_Go p e below _ T47 (mkF m 46 #[iv p1, iv p2, iv p3, iv p4, iv p5, iv 2, iv c1, iv c2, iv c3, iv c4, .unset, .unset, .unset, .unset, .unset, .unset] [(.ref ca47)])
      refine og_astore X47 hx #[iv p1, iv p2, iv p3, iv p4, iv p5, iv 2, iv c1, iv c2, iv c3, iv c4, rv ca47, .unset, .unset, .unset, .unset, .unset] (hb hby at_46) rfl rfl ?_
      refine own_newO X47 hx hZ hown (own_hw hw 9 rfl) (own_hw hw 10 rfl) (own_hw hw 11 rfl) rfl (hb hby at_48) (by decide) (by decide) ?_
      intro T48 h48 b48 g48 X48 e48 E48 A48 D48
      have ne_ca47_b48 : ca47 ≠ b48 := Nat.ne_of_lt (Nat.lt_of_lt_of_eq A47q.lt g48.symm)
      have ge_b48 : n0 ≤ b48 := Nat.le_trans (own_oldle O47) (Nat.le_of_eq g48.symm)
      have S_b48 : Safe Z own_EL s.vm T47.heap b48 := Safe.new (Nat.le_of_eq g48.symm)
      have hk48 := Nat.le_trans hk47 E48.1
      have A_ca47_48 := A47q.ext E48
      have S_b48_48 := Safe.ext E48 C47.1 S_b48
      have C48 := C47.trans (CHr.ext E48 C47.1)
      have O48 := O47.ext E48
      have F_b48_value_48 : Fld Z h48 b48 "java/lang/String" "value" "[B" .null := D48 (Or.inr (own_hw hw 24 rfl)) (ty := (.array .byte)) (by decide)
      have F_b48_coder_48 : Fld Z h48 b48 "java/lang/String" "coder" "B" (.int 0) := D48 (Or.inr (own_hw hw 25 rfl)) (ty := .byte) (by decide)
      show own_Go p e below _ T48 (mkF m 51 #[iv p1, iv p2, iv p3, iv p4, iv p5, iv 2, iv c1, iv c2, iv c3, iv c4, rv ca47, .unset, .unset, .unset, .unset, .unset] [(.ref b48)])
      refine og_dup X48 hx (hb hby at_51) rfl ?_
      refine og_aload X48 hx (hb hby at_52) rfl rfl ?_
      have hws : ∀ d ∈ StrChars.Road.words, d.before a0 Z = true := fun d hd => hw d ((by decide +kernel : ∀ d ∈ StrChars.Road.words, d ∈ tables_1) d hd)
      have hp49 : ∀ c ∈ ([c1, c2] : List Int32), ¬ c < 0 ∧ ¬ (255 : Int32) < c := by
        intro c hc; simp only [List.mem_cons, List.not_mem_nil, or_false] at hc; rcases hc with rfl | rfl <;> assumption
      refine own_callNB X48 hx hZ hown (own_hw hw 12 rfl) (own_hw hw 13 rfl) (own_hw hw 14 rfl) (own_hw hw 11 rfl) (by decide) rfl (b := b48) (argsL := [(.ref ca47)]) (rest := [(.ref b48)]) (StrChars.Road.backV (W := 1) hZ hws (kI := 4) (own_hw hw 10 rfl) (cs := ([c1, c2] : List Int32)) (bs := (([c1, c2] : List Int32)).map (fun c => c.toInt8.toInt32)) (n := 2) ge_b48 (own_oldle O48) A48 F_b48_value_48 F_b48_coder_48 A_ca47_48 (SC.ext O48.2) hz rfl rfl (by decide) (by decide) hp49 rfl (by decide) (by decide)) e48 (by rw [hml]; rfl) (lenOf own_pd46664 rfl) rfl (hb hby at_54) (Nat.le_of_eq rfl) (by decide) (by decide) ?_
      intro v49 T49 L49 X49 q49
      obtain ⟨rfl, N49q, K49q, E49q, C49q, vb49, kb49, ge49, z49q, ne49q, V49q, A49q⟩ := q49
      have N49 := Fr.app N47 N49q
      have ne_b48_vb49 : b48 ≠ vb49 := Nat.ne_of_lt (Nat.lt_of_lt_of_le A48.lt z49q)
      have ne_ca47_vb49 : ca47 ≠ vb49 := Nat.ne_of_lt (Nat.lt_of_lt_of_le A_ca47_48.lt z49q)
      have hk49 := Nat.le_trans hk48 K49q.1
      have hs49 : ∀ x ∈ ([b48] : List Addr), Safe Z own_EL s.vm h48 x := (sfS S_b48_48 sf0)
      have C49 := C48.trans (CHr.keep K49q hs49 C48.1)
      have A_ca47_49 := A_ca47_48.keep K49q (ninS ne_ca47_b48 nin0)
      have S_b48_49 := Safe.keep K49q hs49 C48.1 S_b48_48
      have E_b48_49 := A48.keep K49q
      have O49 := O48.keep K49q (allS ge_b48 all0)
      show own_Go p e below _ T49 (mkF m 57 #[iv p1, iv p2, iv p3, iv p4, iv p5, iv 2, iv c1, iv c2, iv c3, iv c4, rv ca47, .unset, .unset, .unset, .unset, .unset] [(.ref b48)])
      refine og_astore X49 hx #[iv p1, iv p2, iv p3, iv p4, iv p5, iv 2, iv c1, iv c2, iv c3, iv c4, rv ca47, rv b48, .unset, .unset, .unset, .unset] (hb hby at_57) rfl rfl ?_
      refine og_aload X49 hx (hb hby at_59) rfl rfl ?_
      refine own_callSH X49 hx hZ hown (own_hw hw 30 rfl) (own_hw hw 31 rfl) (own_hw hw 32 rfl) (own_hw hw 33 rfl) (by decide) (argsL := [(.ref b48)]) (rest := []) (own_po_2_1 l Z a0 hw z sf b48 vb49 _ _ c1 c2 T49.heap n0 O49 hG k1 E_b48_49 V49q C49q A49q) (own_EW hw) C49.1 hS hk49 rfl (by rw [hml]; rfl) (lenOf own_pd11897 rfl) rfl (hb hby at_61) (W := 0) (Nat.le_of_eq rfl) (by decide) ?_
      intro v50 T50 L50 X50 hS50 hZ50 hown50 C50q q50
      obtain ⟨t50, vb50, k50, rfl, N50q, K50q, Et50, Ft50, Ct50, At50⟩ := q50
      have N50 := Fr.app N49 N50q
      have C50 := C49.trans C50q
      have E_b48_50 := E_b48_49.keep K50q
      have F_b48_value_50 := V49q.keep K50q nin0
      have F_b48_coder_50 := C49q.keep K50q nin0
      have A_vb49_50 := A49q.keep K50q nin0
      have O50 := O49.keep K50q all0
      show own_Go p e below _ T50 (mkF m 64 #[iv p1, iv p2, iv p3, iv p4, iv p5, iv 2, iv c1, iv c2, iv c3, iv c4, rv ca47, rv b48, .unset, .unset, .unset, .unset] [(.ref t50)])
      refine og_astore X50 hx #[iv p1, iv p2, iv p3, iv p4, iv p5, iv 2, iv c1, iv c2, iv c3, iv c4, rv ca47, rv b48, rv t50, .unset, .unset, .unset] (hb hby at_64) rfl rfl ?_
      refine og_iconst X50 hx (hb hby at_66) ?_
      refine og_istore X50 hx #[iv p1, iv p2, iv p3, iv p4, iv p5, iv 2, iv c1, iv c2, iv c3, iv c4, rv ca47, rv b48, rv t50, iv (-1), .unset, .unset] (hb hby at_67) rfl ?_
      refine own_cut (F := fun v51 : Int32 => (mkF m 84 #[iv p1, iv p2, iv p3, iv p4, iv p5, iv 2, iv c1, iv c2, iv c3, iv c4, rv ca47, rv b48, rv t50, iv v51, .unset, .unset] [])) ?_ ?_
      · intro v51
        show own_Go p e below _ T50 (mkF m 84 #[iv p1, iv p2, iv p3, iv p4, iv p5, iv 2, iv c1, iv c2, iv c3, iv c4, rv ca47, rv b48, rv t50, iv v51, .unset, .unset] [])
        refine og_iload X50 hx (hb hby at_84) rfl ?_
        refine og_iconst X50 hx (hb hby at_86) ?_
        refine og_icN X50 hx (hb hby at_87) (tlt (by decide)).2.2.2 ?_
        refine og_iload X50 hx (hb hby at_90) rfl ?_
        refine og_bipush X50 hx (hb hby at_92) ?_
        refine og_icN X50 hx (hb hby at_94) (teq k1).2 ?_
        refine og_iconst X50 hx (hb hby at_97) ?_
        refine og_istore X50 hx #[iv p1, iv p2, iv p3, iv p4, iv p5, iv 2, iv c1, iv c2, iv c3, iv c4, rv ca47, rv b48, rv t50, iv 1, .unset, .unset] (hb hby at_98) rfl ?_
        refine og_iload X50 hx (hb hby at_100) rfl ?_
        refine og_iconst X50 hx (hb hby at_102) ?_
        refine og_icY X50 hx 116 (hb hby at_103) (flt (by decide)).2.2.2 (by decide) (by decide) ?_
        refine og_iload X50 hx (hb hby at_116) rfl ?_
        refine og_iconst X50 hx (hb hby at_118) ?_
        refine og_icY X50 hx 132 (hb hby at_119) (flt (by decide)).2.2.2 (by decide) (by decide) ?_
        refine og_iload X50 hx (hb hby at_132) rfl ?_
        refine og_iload X50 hx (hb hby at_134) rfl ?_
        refine og_isub X50 hx (hb hby at_136) ?_
        refine og_iconst X50 hx (hb hby at_137) ?_
        refine og_isub X50 hx (hb hby at_138) ?_
        refine og_istore X50 hx #[iv p1, iv p2, iv p3, iv p4, iv p5, iv 2, iv c1, iv c2, iv c3, iv c4, rv ca47, rv b48, rv t50, iv 1, iv 0, .unset] (hb hby at_139) rfl ?_
        refine og_aload X50 hx (hb hby at_141) rfl rfl ?_
        refine own_callV X50 hx hZ50 hown50 (own_hw hw 89 rfl) (own_hw hw 40 rfl) (notFace_of_selects (args := #[]) (mvT hZ50 (own_hw hw 42 rfl))) (own_hw hw 42 rfl) (own_hw hw 41 rfl) (own_hw hw 43 rfl) (own_hw hw 11 rfl) (by decide) (b := t50) (argsL := []) (rest := []) (own_slen l Z a0 hw z sf t50 vb50 _ _ 0 _ T50.heap n0 O50 hG Et50 Ft50 Ct50 At50) rfl Et50 (by rw [hml]; rfl) (lenOf own_pd13941 rfl) rfl (hb hby at_143) (W := 0) (Nat.le_of_eq rfl) (by decide) ?_
        intro v52 T52 L52 X52 q52
        obtain ⟨rfl, N52q, e52⟩ := q52
        have N52 := Fr.app N50 N52q
        show own_Go p e below _ T52 (mkF m 146 #[iv p1, iv p2, iv p3, iv p4, iv p5, iv 2, iv c1, iv c2, iv c3, iv c4, rv ca47, rv b48, rv t50, iv 1, iv 0, .unset] [(.int 0)])
        refine og_iload X52 hx (hb hby at_146) rfl ?_
        refine og_icY X52 hx 153 (hb hby at_148) (teq rfl).1 (by decide) (by decide) ?_
        refine og_iconst X52 hx (hb hby at_153) ?_
        refine own_newP X52 hx hZ50 (own_hw hw 8 rfl) e52 (hb hby at_154) (by decide) 4 (by decide) (by decide) (by decide) (by decide) ?_
        intro T53 h53 k53 b53 g53 X53 e53 E53 A53
        have ne_t50_b53 : t50 ≠ b53 := Nat.ne_of_lt (Nat.lt_of_lt_of_eq Et50.lt g53.symm)
        have ne_vb50_b53 : vb50 ≠ b53 := Nat.ne_of_lt (Nat.lt_of_lt_of_eq At50.lt g53.symm)
        have ge_b53 : n0 ≤ b53 := Nat.le_trans (own_oldle O50) (Nat.le_of_eq g53.symm)
        have hk53 := Nat.le_trans (Nat.le_refl _) E53.1
        have E_t50_53 := Et50.ext E53
        have F_t50_value_53 := Ft50.ext E53
        have F_t50_coder_53 := Ct50.ext E53
        have A_vb50_53 := At50.ext E53
        have C53 := C50.trans (CHr.ext E53 C50.1)
        have O53 := O50.ext E53
        have A_b53_53 : Arv Z h53 b53 k53 .char 4 [(.int (0 : Int32)), (.int (0 : Int32)), (.int (0 : Int32)), (.int (0 : Int32))] (.int (0 : Int32)) := A53
        show own_Go p e below _ T53 (mkF m 156 #[iv p1, iv p2, iv p3, iv p4, iv p5, iv 2, iv c1, iv c2, iv c3, iv c4, rv ca47, rv b48, rv t50, iv 1, iv 0, .unset] [(.ref b53)])
        refine og_dup X53 hx (hb hby at_156) rfl ?_
        refine og_iconst X53 hx (hb hby at_157) ?_
        refine og_iload X53 hx (hb hby at_158) rfl ?_
        refine own_stC X53 hx hZ50 e53 A_b53_53 ⟨by decide, by decide⟩ 0 rfl (by show 0 < 4; decide) (hb hby at_160) ?_
        intro T54 h54 X54 e54 W54 A54
        have hk54 := Nat.le_trans hk53 (Keep.of_wr W54).1
        have sf54 := (Safe.arv (EL := own_EL) hZ50.alike A_b53_53 (by decide))
        have C54 := C53.trans (CHr.wr W54 sf54 C53.1)
        have E_t50_54 := E_t50_53.wr W54
        have F_t50_value_54 := F_t50_value_53.other W54 (Or.inl ne_t50_b53)
        have F_t50_coder_54 := F_t50_coder_53.other W54 (Or.inl ne_t50_b53)
        have A_vb50_54 := A_vb50_53.other W54 ne_vb50_b53
        have O54 := O53.wr W54 ge_b53
        have N54 := Fr.snoc X54 N52 ge_b53
        have A_b53_54 : Arv Z h54 b53 k53 .char 4 [(.int c1), (.int (0 : Int32)), (.int (0 : Int32)), (.int (0 : Int32))] (.int (0 : Int32)) := (by have q := A54; rw [show nar .char c1 = c1 from own_ic _ hc1] at q; exact q)
        show own_Go p e below _ T54 (mkF m 161 #[iv p1, iv p2, iv p3, iv p4, iv p5, iv 2, iv c1, iv c2, iv c3, iv c4, rv ca47, rv b48, rv t50, iv 1, iv 0, .unset] [(.ref b53)])
        refine og_dup X54 hx (hb hby at_161) rfl ?_
        refine og_iconst X54 hx (hb hby at_162) ?_
        refine og_iload X54 hx (hb hby at_163) rfl ?_
        refine own_stC X54 hx hZ50 e54 A_b53_54 ⟨by decide, by decide⟩ 1 rfl (by show 1 < 4; decide) (hb hby at_165) ?_
        intro T55 h55 X55 e55 W55 A55
        have hk55 := Nat.le_trans hk54 (Keep.of_wr W55).1
        have sf55 := (Safe.arv (EL := own_EL) hZ50.alike A_b53_54 (by decide))
        have C55 := C54.trans (CHr.wr W55 sf55 C54.1)
        have E_t50_55 := E_t50_54.wr W55
        have F_t50_value_55 := F_t50_value_54.other W55 (Or.inl ne_t50_b53)
        have F_t50_coder_55 := F_t50_coder_54.other W55 (Or.inl ne_t50_b53)
        have A_vb50_55 := A_vb50_54.other W55 ne_vb50_b53
        have O55 := O54.wr W55 ge_b53
        have N55 := Fr.snoc X55 N54 ge_b53
        have A_b53_55 : Arv Z h55 b53 k53 .char 4 [(.int c1), (.int c2), (.int (0 : Int32)), (.int (0 : Int32))] (.int (0 : Int32)) := (by have q := A55; rw [show nar .char c2 = c2 from own_ic _ hc2] at q; exact q)
        show own_Go p e below _ T55 (mkF m 166 #[iv p1, iv p2, iv p3, iv p4, iv p5, iv 2, iv c1, iv c2, iv c3, iv c4, rv ca47, rv b48, rv t50, iv 1, iv 0, .unset] [(.ref b53)])
        refine og_dup X55 hx (hb hby at_166) rfl ?_
        refine og_iconst X55 hx (hb hby at_167) ?_
        refine og_iload X55 hx (hb hby at_168) rfl ?_
        refine own_stC X55 hx hZ50 e55 A_b53_55 ⟨by decide, by decide⟩ 2 rfl (by show 2 < 4; decide) (hb hby at_170) ?_
        intro T56 h56 X56 e56 W56 A56
        have hk56 := Nat.le_trans hk55 (Keep.of_wr W56).1
        have sf56 := (Safe.arv (EL := own_EL) hZ50.alike A_b53_55 (by decide))
        have C56 := C55.trans (CHr.wr W56 sf56 C55.1)
        have E_t50_56 := E_t50_55.wr W56
        have F_t50_value_56 := F_t50_value_55.other W56 (Or.inl ne_t50_b53)
        have F_t50_coder_56 := F_t50_coder_55.other W56 (Or.inl ne_t50_b53)
        have A_vb50_56 := A_vb50_55.other W56 ne_vb50_b53
        have O56 := O55.wr W56 ge_b53
        have N56 := Fr.snoc X56 N55 ge_b53
        have A_b53_56 : Arv Z h56 b53 k53 .char 4 [(.int c1), (.int c2), (.int c3), (.int (0 : Int32))] (.int (0 : Int32)) := (by have q := A56; rw [show nar .char c3 = c3 from own_ic _ hc3] at q; exact q)
        show own_Go p e below _ T56 (mkF m 171 #[iv p1, iv p2, iv p3, iv p4, iv p5, iv 2, iv c1, iv c2, iv c3, iv c4, rv ca47, rv b48, rv t50, iv 1, iv 0, .unset] [(.ref b53)])
        refine og_dup X56 hx (hb hby at_171) rfl ?_
        refine og_iconst X56 hx (hb hby at_172) ?_
        refine og_iload X56 hx (hb hby at_173) rfl ?_
        refine own_stC X56 hx hZ50 e56 A_b53_56 ⟨by decide, by decide⟩ 3 rfl (by show 3 < 4; decide) (hb hby at_175) ?_
        intro T57 h57 X57 e57 W57 A57
        have hk57 := Nat.le_trans hk56 (Keep.of_wr W57).1
        have sf57 := (Safe.arv (EL := own_EL) hZ50.alike A_b53_56 (by decide))
        have C57 := C56.trans (CHr.wr W57 sf57 C56.1)
        have E_t50_57 := E_t50_56.wr W57
        have F_t50_value_57 := F_t50_value_56.other W57 (Or.inl ne_t50_b53)
        have F_t50_coder_57 := F_t50_coder_56.other W57 (Or.inl ne_t50_b53)
        have A_vb50_57 := A_vb50_56.other W57 ne_vb50_b53
        have O57 := O56.wr W57 ge_b53
        have N57 := Fr.snoc X57 N56 ge_b53
        have A_b53_57 : Arv Z h57 b53 k53 .char 4 [(.int c1), (.int c2), (.int c3), (.int c4)] (.int (0 : Int32)) := (by have q := A57; rw [show nar .char c4 = c4 from own_ic _ hc4] at q; exact q)
        show own_Go p e below _ T57 (mkF m 176 #[iv p1, iv p2, iv p3, iv p4, iv p5, iv 2, iv c1, iv c2, iv c3, iv c4, rv ca47, rv b48, rv t50, iv 1, iv 0, .unset] [(.ref b53)])
        refine og_astore X57 hx #[iv p1, iv p2, iv p3, iv p4, iv p5, iv 2, iv c1, iv c2, iv c3, iv c4, rv ca47, rv b48, rv t50, iv 1, iv 0, rv b53] (hb hby at_176) rfl rfl ?_
        refine og_aload X57 hx (hb hby at_178) rfl rfl ?_
        refine og_iload X57 hx (hb hby at_180) rfl ?_
        refine og_iconst X57 hx (hb hby at_182) ?_
        refine og_aload X57 hx (hb hby at_183) rfl rfl ?_
        refine og_iload X57 hx (hb hby at_185) rfl ?_
        refine own_callS X57 hx hZ50 hown50 (own_hw hw 90 rfl) (own_hw hw 91 rfl) (own_hw hw 3 rfl) (own_hw hw 92 rfl) (by decide) (argsL := [(.ref t50), (.int 0), (.int 0), (.ref b53), (.int 1)]) (rest := []) (own_sm_0_0 l Z a0 hw t50 b53 1 h57 n0) e57 (by rw [hml]; rfl) (lenOf own_pd39901 rfl) rfl (hb hby at_187) (W := 0) (Nat.le_of_eq rfl) (by decide) ?_
        intro v58 T58 L58 X58 q58
        obtain ⟨rfl, N58q, e58⟩ := q58
        have N58 := Fr.app N57 N58q
        show own_Go p e below _ T58 (mkF m 190 #[iv p1, iv p2, iv p3, iv p4, iv p5, iv 2, iv c1, iv c2, iv c3, iv c4, rv ca47, rv b48, rv t50, iv 1, iv 0, rv b53] [(.int 1)])
        refine og_ifN X58 hx (hb hby at_190) (feq (by decide)).1 ?_
        refine og_aload X58 hx (hb hby at_193) rfl rfl ?_
        refine og_iload X58 hx (hb hby at_195) rfl ?_
        refine og_iconst X58 hx (hb hby at_197) ?_
        refine og_aload X58 hx (hb hby at_198) rfl rfl ?_
        refine og_iload X58 hx (hb hby at_200) rfl ?_
        refine own_callS X58 hx hZ50 hown50 (own_hw hw 90 rfl) (own_hw hw 91 rfl) (own_hw hw 3 rfl) (own_hw hw 92 rfl) (by decide) (argsL := [(.ref t50), (.int 0), (.int 1), (.ref b53), (.int 1)]) (rest := []) (own_sm_0_1 l Z a0 hw t50 b53 1 h57 n0) e58 (by rw [hml]; rfl) (lenOf own_pd39901 rfl) rfl (hb hby at_202) (W := 0) (Nat.le_of_eq rfl) (by decide) ?_
        intro v59 T59 L59 X59 q59
        obtain ⟨rfl, N59q, e59⟩ := q59
        have N59 := Fr.app N58 N59q
        show own_Go p e below _ T59 (mkF m 205 #[iv p1, iv p2, iv p3, iv p4, iv p5, iv 2, iv c1, iv c2, iv c3, iv c4, rv ca47, rv b48, rv t50, iv 1, iv 0, rv b53] [(.int 1)])
        refine og_ifN X59 hx (hb hby at_205) (feq (by decide)).1 ?_
        refine og_aload X59 hx (hb hby at_208) rfl rfl ?_
        refine og_iload X59 hx (hb hby at_210) rfl ?_
        refine og_iconst X59 hx (hb hby at_212) ?_
        refine og_aload X59 hx (hb hby at_213) rfl rfl ?_
        refine og_iload X59 hx (hb hby at_215) rfl ?_
        refine own_callS X59 hx hZ50 hown50 (own_hw hw 90 rfl) (own_hw hw 91 rfl) (own_hw hw 3 rfl) (own_hw hw 92 rfl) (by decide) (argsL := [(.ref t50), (.int 0), (.int 2), (.ref b53), (.int 1)]) (rest := []) (own_sm_0_2 l Z a0 hw t50 b53 1 h57 n0) e59 (by rw [hml]; rfl) (lenOf own_pd39901 rfl) rfl (hb hby at_217) (W := 0) (Nat.le_of_eq rfl) (by decide) ?_
        intro v60 T60 L60 X60 q60
        obtain ⟨rfl, N60q, e60⟩ := q60
        have N60 := Fr.app N59 N60q
        show own_Go p e below _ T60 (mkF m 220 #[iv p1, iv p2, iv p3, iv p4, iv p5, iv 2, iv c1, iv c2, iv c3, iv c4, rv ca47, rv b48, rv t50, iv 1, iv 0, rv b53] [(.int 1)])
        refine og_ifN X60 hx (hb hby at_220) (feq (by decide)).1 ?_
        refine og_aload X60 hx (hb hby at_223) rfl rfl ?_
        refine og_iload X60 hx (hb hby at_225) rfl ?_
        refine og_iconst X60 hx (hb hby at_227) ?_
        refine og_aload X60 hx (hb hby at_228) rfl rfl ?_
        refine og_iload X60 hx (hb hby at_230) rfl ?_
        refine own_callS X60 hx hZ50 hown50 (own_hw hw 90 rfl) (own_hw hw 91 rfl) (own_hw hw 3 rfl) (own_hw hw 92 rfl) (by decide) (argsL := [(.ref t50), (.int 0), (.int 3), (.ref b53), (.int 1)]) (rest := []) (own_sm_0_3 l Z a0 hw t50 b53 1 h57 n0) e60 (by rw [hml]; rfl) (lenOf own_pd39901 rfl) rfl (hb hby at_232) (W := 0) (Nat.le_of_eq rfl) (by decide) ?_
        intro v61 T61 L61 X61 q61
        obtain ⟨rfl, N61q, e61⟩ := q61
        have N61 := Fr.app N60 N61q
        show own_Go p e below _ T61 (mkF m 235 #[iv p1, iv p2, iv p3, iv p4, iv p5, iv 2, iv c1, iv c2, iv c3, iv c4, rv ca47, rv b48, rv t50, iv 1, iv 0, rv b53] [(.int 1)])
        refine og_ifN X61 hx (hb hby at_235) (feq (by decide)).1 ?_
        refine og_iconst X61 hx (hb hby at_238) ?_
        refine og_goto X61 hx 243 (hb hby at_239) (by decide) (by decide) ?_
        exact own_retIH X61 hx hret hlk (hb hby at_243) rfl (by simp) hZ50 (own_EW hw) C57 e61 hS50 hk57 (by decide) (by decide) (⟨rfl, N61⟩)
      intro tl51
      refine og_iload X50 hx (hb hby at_69) rfl ?_
      refine og_ifN X50 hx (hb hby at_71) (tlt (by decide)).2.2.2 ?_
      refine og_iload X50 hx (hb hby at_74) rfl ?_
      refine og_bipush X50 hx (hb hby at_76) ?_
      by_cases hc78 : c1 = 47
      · refine og_icN X50 hx (hb hby at_78) (teq hc78).2 ?_
        refine og_iconst X50 hx (hb hby at_81) ?_
        refine og_istore X50 hx #[iv p1, iv p2, iv p3, iv p4, iv p5, iv 2, iv c1, iv c2, iv c3, iv c4, rv ca47, rv b48, rv t50, iv 0, .unset, .unset] (hb hby at_82) rfl ?_
        exact tl51 _
      · refine og_icY X50 hx 84 (hb hby at_78) (feq hc78).2 (by decide) (by decide) ?_
        exact tl51 _
    · show own_Go p e below _ T4 (mkF m 35 #[iv p1, iv p2, iv p3, iv p4, iv p5, iv 2, iv c1, iv c2, iv c3, iv c4, .unset, .unset, .unset, .unset, .unset, .unset] [(.int 2)])
      refine og_iload X4 hx (hb hby at_35) rfl ?_
      refine og_iload X4 hx (hb hby at_37) rfl ?_
      refine og_iload X4 hx (hb hby at_39) rfl ?_
      refine og_iload X4 hx (hb hby at_41) rfl ?_
      refine own_callS X4 hx hZ hown (own_hw hw 5 rfl) (own_hw hw 6 rfl) (own_hw hw 3 rfl) (own_hw hw 7 rfl) (by decide) (argsL := [(.int 2), (.int c1), (.int c2), (.int c3), (.int c4)]) (rest := []) (own_mk2 l Z a0 hw c1 c2 c3 c4 h0 n0 hO hc1 hc2 hc3 hc4) e4 (by rw [hml]; rfl) (lenOf own_pd92197 rfl) rfl (hb hby at_43) (W := 0) (Nat.le_of_eq rfl) (by decide) ?_
      intro v62 T62 L62 X62 q62
      obtain ⟨ca62, k62, rfl, N62q, K62q, z62q, g62q, A62q⟩ := q62
      have N62 := Fr.app N4 N62q
      have hk62 := Nat.le_trans hk K62q.1
      have hs62 : ∀ x ∈ ([] : List Addr), Safe Z own_EL s.vm h0 x := sf0
      have C62 := C0.trans (CHr.keep K62q hs62 C0.1)
      have O62 := hO.keep K62q all0
      show own_Go p e below _ T62 (mkF m 46 #[iv p1, iv p2, iv p3, iv p4, iv p5, iv 2, iv c1, iv c2, iv c3, iv c4, .unset, .unset, .unset, .unset, .unset, .unset] [(.ref ca62)])
      refine og_astore X62 hx #[iv p1, iv p2, iv p3, iv p4, iv p5, iv 2, iv c1, iv c2, iv c3, iv c4, rv ca62, .unset, .unset, .unset, .unset, .unset] (hb hby at_46) rfl rfl ?_
      refine own_newO X62 hx hZ hown (own_hw hw 9 rfl) (own_hw hw 10 rfl) (own_hw hw 11 rfl) rfl (hb hby at_48) (by decide) (by decide) ?_
      intro T63 h63 b63 g63 X63 e63 E63 A63 D63
      have ne_ca62_b63 : ca62 ≠ b63 := Nat.ne_of_lt (Nat.lt_of_lt_of_eq A62q.lt g63.symm)
      have ge_b63 : n0 ≤ b63 := Nat.le_trans (own_oldle O62) (Nat.le_of_eq g63.symm)
      have S_b63 : Safe Z own_EL s.vm T62.heap b63 := Safe.new (Nat.le_of_eq g63.symm)
      have hk63 := Nat.le_trans hk62 E63.1
      have A_ca62_63 := A62q.ext E63
      have S_b63_63 := Safe.ext E63 C62.1 S_b63
      have C63 := C62.trans (CHr.ext E63 C62.1)
      have O63 := O62.ext E63
      have F_b63_value_63 : Fld Z h63 b63 "java/lang/String" "value" "[B" .null := D63 (Or.inr (own_hw hw 24 rfl)) (ty := (.array .byte)) (by decide)
      have F_b63_coder_63 : Fld Z h63 b63 "java/lang/String" "coder" "B" (.int 0) := D63 (Or.inr (own_hw hw 25 rfl)) (ty := .byte) (by decide)
      show own_Go p e below _ T63 (mkF m 51 #[iv p1, iv p2, iv p3, iv p4, iv p5, iv 2, iv c1, iv c2, iv c3, iv c4, rv ca62, .unset, .unset, .unset, .unset, .unset] [(.ref b63)])
      refine og_dup X63 hx (hb hby at_51) rfl ?_
      refine og_aload X63 hx (hb hby at_52) rfl rfl ?_
      have hws : ∀ d ∈ StrChars.Road.words, d.before a0 Z = true := fun d hd => hw d ((by decide +kernel : ∀ d ∈ StrChars.Road.words, d ∈ tables_1) d hd)
      have hp64 : ∀ c ∈ ([c1, c2] : List Int32), ¬ c < 0 ∧ ¬ (255 : Int32) < c := by
        intro c hc; simp only [List.mem_cons, List.not_mem_nil, or_false] at hc; rcases hc with rfl | rfl <;> assumption
      refine own_callNB X63 hx hZ hown (own_hw hw 12 rfl) (own_hw hw 13 rfl) (own_hw hw 14 rfl) (own_hw hw 11 rfl) (by decide) rfl (b := b63) (argsL := [(.ref ca62)]) (rest := [(.ref b63)]) (StrChars.Road.backV (W := 1) hZ hws (kI := 4) (own_hw hw 10 rfl) (cs := ([c1, c2] : List Int32)) (bs := (([c1, c2] : List Int32)).map (fun c => c.toInt8.toInt32)) (n := 2) ge_b63 (own_oldle O63) A63 F_b63_value_63 F_b63_coder_63 A_ca62_63 (SC.ext O63.2) hz rfl rfl (by decide) (by decide) hp64 rfl (by decide) (by decide)) e63 (by rw [hml]; rfl) (lenOf own_pd46664 rfl) rfl (hb hby at_54) (Nat.le_of_eq rfl) (by decide) (by decide) ?_
      intro v64 T64 L64 X64 q64
      obtain ⟨rfl, N64q, K64q, E64q, C64q, vb64, kb64, ge64, z64q, ne64q, V64q, A64q⟩ := q64
      have N64 := Fr.app N62 N64q
      have ne_b63_vb64 : b63 ≠ vb64 := Nat.ne_of_lt (Nat.lt_of_lt_of_le A63.lt z64q)
      have ne_ca62_vb64 : ca62 ≠ vb64 := Nat.ne_of_lt (Nat.lt_of_lt_of_le A_ca62_63.lt z64q)
      have hk64 := Nat.le_trans hk63 K64q.1
      have hs64 : ∀ x ∈ ([b63] : List Addr), Safe Z own_EL s.vm h63 x := (sfS S_b63_63 sf0)
      have C64 := C63.trans (CHr.keep K64q hs64 C63.1)
      have A_ca62_64 := A_ca62_63.keep K64q (ninS ne_ca62_b63 nin0)
      have S_b63_64 := Safe.keep K64q hs64 C63.1 S_b63_63
      have E_b63_64 := A63.keep K64q
      have O64 := O63.keep K64q (allS ge_b63 all0)
      show own_Go p e below _ T64 (mkF m 57 #[iv p1, iv p2, iv p3, iv p4, iv p5, iv 2, iv c1, iv c2, iv c3, iv c4, rv ca62, .unset, .unset, .unset, .unset, .unset] [(.ref b63)])
      refine og_astore X64 hx #[iv p1, iv p2, iv p3, iv p4, iv p5, iv 2, iv c1, iv c2, iv c3, iv c4, rv ca62, rv b63, .unset, .unset, .unset, .unset] (hb hby at_57) rfl rfl ?_
      refine og_aload X64 hx (hb hby at_59) rfl rfl ?_
      refine own_callS X64 hx hZ hown (own_hw hw 30 rfl) (own_hw hw 31 rfl) (own_hw hw 32 rfl) (own_hw hw 33 rfl) (by decide) (argsL := [(.ref b63)]) (rest := []) (own_po_2_0 l Z a0 hw z sf b63 vb64 _ _ c1 c2 T64.heap n0 O64 hG hc2 m1 k0 E_b63_64 V64q C64q A64q) rfl (by rw [hml]; rfl) (lenOf own_pd11897 rfl) rfl (hb hby at_61) (W := 0) (Nat.le_of_eq rfl) (by decide) ?_
      intro v65 T65 L65 X65 q65
      obtain ⟨t65, vb65, k65, rfl, N65q, K65q, zt65, gt65, zb65, gb65, ne_t65_vb65, Et65, Ft65, Ct65, At65⟩ := q65
      have N65 := Fr.app N64 N65q
      have ne_b63_t65 : b63 ≠ t65 := Nat.ne_of_lt (Nat.lt_of_lt_of_le E_b63_64.lt zt65)
      have ne_vb64_t65 : vb64 ≠ t65 := Nat.ne_of_lt (Nat.lt_of_lt_of_le A64q.lt zt65)
      have ne_b63_vb65 : b63 ≠ vb65 := Nat.ne_of_lt (Nat.lt_of_lt_of_le E_b63_64.lt zb65)
      have ne_vb64_vb65 : vb64 ≠ vb65 := Nat.ne_of_lt (Nat.lt_of_lt_of_le A64q.lt zb65)
      have hk65 := Nat.le_trans hk64 K65q.1
      have hs65 : ∀ x ∈ ([] : List Addr), Safe Z own_EL s.vm T64.heap x := sf0
      have C65 := C64.trans (CHr.keep K65q hs65 C64.1)
      have E_b63_65 := E_b63_64.keep K65q
      have F_b63_value_65 := V64q.keep K65q nin0
      have F_b63_coder_65 := C64q.keep K65q nin0
      have A_vb64_65 := A64q.keep K65q nin0
      have O65 := O64.keep K65q all0
      show own_Go p e below _ T65 (mkF m 64 #[iv p1, iv p2, iv p3, iv p4, iv p5, iv 2, iv c1, iv c2, iv c3, iv c4, rv ca62, rv b63, .unset, .unset, .unset, .unset] [(.ref t65)])
      refine og_astore X65 hx #[iv p1, iv p2, iv p3, iv p4, iv p5, iv 2, iv c1, iv c2, iv c3, iv c4, rv ca62, rv b63, rv t65, .unset, .unset, .unset] (hb hby at_64) rfl rfl ?_
      refine og_iconst X65 hx (hb hby at_66) ?_
      refine og_istore X65 hx #[iv p1, iv p2, iv p3, iv p4, iv p5, iv 2, iv c1, iv c2, iv c3, iv c4, rv ca62, rv b63, rv t65, iv (-1), .unset, .unset] (hb hby at_67) rfl ?_
      refine og_iload X65 hx (hb hby at_69) rfl ?_
      refine og_ifN X65 hx (hb hby at_71) (tlt (by decide)).2.2.2 ?_
      refine og_iload X65 hx (hb hby at_74) rfl ?_
      refine og_bipush X65 hx (hb hby at_76) ?_
      refine og_icN X65 hx (hb hby at_78) (teq k0).2 ?_
      refine og_iconst X65 hx (hb hby at_81) ?_
      refine og_istore X65 hx #[iv p1, iv p2, iv p3, iv p4, iv p5, iv 2, iv c1, iv c2, iv c3, iv c4, rv ca62, rv b63, rv t65, iv 0, .unset, .unset] (hb hby at_82) rfl ?_
      refine og_iload X65 hx (hb hby at_84) rfl ?_
      refine og_iconst X65 hx (hb hby at_86) ?_
      refine og_icN X65 hx (hb hby at_87) (tlt (by decide)).2.2.2 ?_
      refine og_iload X65 hx (hb hby at_90) rfl ?_
      refine og_bipush X65 hx (hb hby at_92) ?_
      refine og_icY X65 hx 100 (hb hby at_94) (feq m1).2 (by decide) (by decide) ?_
      refine og_iload X65 hx (hb hby at_100) rfl ?_
      refine og_iconst X65 hx (hb hby at_102) ?_
      refine og_icY X65 hx 116 (hb hby at_103) (flt (by decide)).2.2.2 (by decide) (by decide) ?_
      refine og_iload X65 hx (hb hby at_116) rfl ?_
      refine og_iconst X65 hx (hb hby at_118) ?_
      refine og_icY X65 hx 132 (hb hby at_119) (flt (by decide)).2.2.2 (by decide) (by decide) ?_
      refine og_iload X65 hx (hb hby at_132) rfl ?_
      refine og_iload X65 hx (hb hby at_134) rfl ?_
      refine og_isub X65 hx (hb hby at_136) ?_
      refine og_iconst X65 hx (hb hby at_137) ?_
      refine og_isub X65 hx (hb hby at_138) ?_
      refine og_istore X65 hx #[iv p1, iv p2, iv p3, iv p4, iv p5, iv 2, iv c1, iv c2, iv c3, iv c4, rv ca62, rv b63, rv t65, iv 0, iv 1, .unset] (hb hby at_139) rfl ?_
      refine og_aload X65 hx (hb hby at_141) rfl rfl ?_
      refine own_callV X65 hx hZ hown (own_hw hw 89 rfl) (own_hw hw 40 rfl) (notFace_of_selects (args := #[]) (mvT hZ (own_hw hw 42 rfl))) (own_hw hw 42 rfl) (own_hw hw 41 rfl) (own_hw hw 43 rfl) (own_hw hw 11 rfl) (by decide) (b := t65) (argsL := []) (rest := []) (own_slen l Z a0 hw z sf t65 vb65 _ _ 1 _ T65.heap n0 O65 hG Et65 Ft65 Ct65 At65) rfl Et65 (by rw [hml]; rfl) (lenOf own_pd13941 rfl) rfl (hb hby at_143) (W := 0) (Nat.le_of_eq rfl) (by decide) ?_
      intro v66 T66 L66 X66 q66
      obtain ⟨rfl, N66q, e66⟩ := q66
      have N66 := Fr.app N65 N66q
      show own_Go p e below _ T66 (mkF m 146 #[iv p1, iv p2, iv p3, iv p4, iv p5, iv 2, iv c1, iv c2, iv c3, iv c4, rv ca62, rv b63, rv t65, iv 0, iv 1, .unset] [(.int 1)])
      refine og_iload X66 hx (hb hby at_146) rfl ?_
      refine og_icY X66 hx 153 (hb hby at_148) (teq rfl).1 (by decide) (by decide) ?_
      refine og_iconst X66 hx (hb hby at_153) ?_
      refine own_newP X66 hx hZ (own_hw hw 8 rfl) e66 (hb hby at_154) (by decide) 4 (by decide) (by decide) (by decide) (by decide) ?_
      intro T67 h67 k67 b67 g67 X67 e67 E67 A67
      have ne_t65_b67 : t65 ≠ b67 := Nat.ne_of_lt (Nat.lt_of_lt_of_eq Et65.lt g67.symm)
      have ne_vb65_b67 : vb65 ≠ b67 := Nat.ne_of_lt (Nat.lt_of_lt_of_eq At65.lt g67.symm)
      have ge_b67 : n0 ≤ b67 := Nat.le_trans (own_oldle O65) (Nat.le_of_eq g67.symm)
      have hk67 := Nat.le_trans hk65 E67.1
      have E_t65_67 := Et65.ext E67
      have F_t65_value_67 := Ft65.ext E67
      have F_t65_coder_67 := Ct65.ext E67
      have A_vb65_67 := At65.ext E67
      have C67 := C65.trans (CHr.ext E67 C65.1)
      have O67 := O65.ext E67
      have A_b67_67 : Arv Z h67 b67 k67 .char 4 [(.int (0 : Int32)), (.int (0 : Int32)), (.int (0 : Int32)), (.int (0 : Int32))] (.int (0 : Int32)) := A67
      show own_Go p e below _ T67 (mkF m 156 #[iv p1, iv p2, iv p3, iv p4, iv p5, iv 2, iv c1, iv c2, iv c3, iv c4, rv ca62, rv b63, rv t65, iv 0, iv 1, .unset] [(.ref b67)])
      refine og_dup X67 hx (hb hby at_156) rfl ?_
      refine og_iconst X67 hx (hb hby at_157) ?_
      refine og_iload X67 hx (hb hby at_158) rfl ?_
      refine own_stC X67 hx hZ e67 A_b67_67 ⟨by decide, by decide⟩ 0 rfl (by show 0 < 4; decide) (hb hby at_160) ?_
      intro T68 h68 X68 e68 W68 A68
      have hk68 := Nat.le_trans hk67 (Keep.of_wr W68).1
      have sf68 := (Safe.arv (EL := own_EL) hZ.alike A_b67_67 (by decide))
      have C68 := C67.trans (CHr.wr W68 sf68 C67.1)
      have E_t65_68 := E_t65_67.wr W68
      have F_t65_value_68 := F_t65_value_67.other W68 (Or.inl ne_t65_b67)
      have F_t65_coder_68 := F_t65_coder_67.other W68 (Or.inl ne_t65_b67)
      have A_vb65_68 := A_vb65_67.other W68 ne_vb65_b67
      have O68 := O67.wr W68 ge_b67
      have N68 := Fr.snoc X68 N66 ge_b67
      have A_b67_68 : Arv Z h68 b67 k67 .char 4 [(.int c1), (.int (0 : Int32)), (.int (0 : Int32)), (.int (0 : Int32))] (.int (0 : Int32)) := (by have q := A68; rw [show nar .char c1 = c1 from own_ic _ hc1] at q; exact q)
      show own_Go p e below _ T68 (mkF m 161 #[iv p1, iv p2, iv p3, iv p4, iv p5, iv 2, iv c1, iv c2, iv c3, iv c4, rv ca62, rv b63, rv t65, iv 0, iv 1, .unset] [(.ref b67)])
      refine og_dup X68 hx (hb hby at_161) rfl ?_
      refine og_iconst X68 hx (hb hby at_162) ?_
      refine og_iload X68 hx (hb hby at_163) rfl ?_
      refine own_stC X68 hx hZ e68 A_b67_68 ⟨by decide, by decide⟩ 1 rfl (by show 1 < 4; decide) (hb hby at_165) ?_
      intro T69 h69 X69 e69 W69 A69
      have hk69 := Nat.le_trans hk68 (Keep.of_wr W69).1
      have sf69 := (Safe.arv (EL := own_EL) hZ.alike A_b67_68 (by decide))
      have C69 := C68.trans (CHr.wr W69 sf69 C68.1)
      have E_t65_69 := E_t65_68.wr W69
      have F_t65_value_69 := F_t65_value_68.other W69 (Or.inl ne_t65_b67)
      have F_t65_coder_69 := F_t65_coder_68.other W69 (Or.inl ne_t65_b67)
      have A_vb65_69 := A_vb65_68.other W69 ne_vb65_b67
      have O69 := O68.wr W69 ge_b67
      have N69 := Fr.snoc X69 N68 ge_b67
      have A_b67_69 : Arv Z h69 b67 k67 .char 4 [(.int c1), (.int c2), (.int (0 : Int32)), (.int (0 : Int32))] (.int (0 : Int32)) := (by have q := A69; rw [show nar .char c2 = c2 from own_ic _ hc2] at q; exact q)
      show own_Go p e below _ T69 (mkF m 166 #[iv p1, iv p2, iv p3, iv p4, iv p5, iv 2, iv c1, iv c2, iv c3, iv c4, rv ca62, rv b63, rv t65, iv 0, iv 1, .unset] [(.ref b67)])
      refine og_dup X69 hx (hb hby at_166) rfl ?_
      refine og_iconst X69 hx (hb hby at_167) ?_
      refine og_iload X69 hx (hb hby at_168) rfl ?_
      refine own_stC X69 hx hZ e69 A_b67_69 ⟨by decide, by decide⟩ 2 rfl (by show 2 < 4; decide) (hb hby at_170) ?_
      intro T70 h70 X70 e70 W70 A70
      have hk70 := Nat.le_trans hk69 (Keep.of_wr W70).1
      have sf70 := (Safe.arv (EL := own_EL) hZ.alike A_b67_69 (by decide))
      have C70 := C69.trans (CHr.wr W70 sf70 C69.1)
      have E_t65_70 := E_t65_69.wr W70
      have F_t65_value_70 := F_t65_value_69.other W70 (Or.inl ne_t65_b67)
      have F_t65_coder_70 := F_t65_coder_69.other W70 (Or.inl ne_t65_b67)
      have A_vb65_70 := A_vb65_69.other W70 ne_vb65_b67
      have O70 := O69.wr W70 ge_b67
      have N70 := Fr.snoc X70 N69 ge_b67
      have A_b67_70 : Arv Z h70 b67 k67 .char 4 [(.int c1), (.int c2), (.int c3), (.int (0 : Int32))] (.int (0 : Int32)) := (by have q := A70; rw [show nar .char c3 = c3 from own_ic _ hc3] at q; exact q)
      show own_Go p e below _ T70 (mkF m 171 #[iv p1, iv p2, iv p3, iv p4, iv p5, iv 2, iv c1, iv c2, iv c3, iv c4, rv ca62, rv b63, rv t65, iv 0, iv 1, .unset] [(.ref b67)])
      refine og_dup X70 hx (hb hby at_171) rfl ?_
      refine og_iconst X70 hx (hb hby at_172) ?_
      refine og_iload X70 hx (hb hby at_173) rfl ?_
      refine own_stC X70 hx hZ e70 A_b67_70 ⟨by decide, by decide⟩ 3 rfl (by show 3 < 4; decide) (hb hby at_175) ?_
      intro T71 h71 X71 e71 W71 A71
      have hk71 := Nat.le_trans hk70 (Keep.of_wr W71).1
      have sf71 := (Safe.arv (EL := own_EL) hZ.alike A_b67_70 (by decide))
      have C71 := C70.trans (CHr.wr W71 sf71 C70.1)
      have E_t65_71 := E_t65_70.wr W71
      have F_t65_value_71 := F_t65_value_70.other W71 (Or.inl ne_t65_b67)
      have F_t65_coder_71 := F_t65_coder_70.other W71 (Or.inl ne_t65_b67)
      have A_vb65_71 := A_vb65_70.other W71 ne_vb65_b67
      have O71 := O70.wr W71 ge_b67
      have N71 := Fr.snoc X71 N70 ge_b67
      have A_b67_71 : Arv Z h71 b67 k67 .char 4 [(.int c1), (.int c2), (.int c3), (.int c4)] (.int (0 : Int32)) := (by have q := A71; rw [show nar .char c4 = c4 from own_ic _ hc4] at q; exact q)
      show own_Go p e below _ T71 (mkF m 176 #[iv p1, iv p2, iv p3, iv p4, iv p5, iv 2, iv c1, iv c2, iv c3, iv c4, rv ca62, rv b63, rv t65, iv 0, iv 1, .unset] [(.ref b67)])
      refine og_astore X71 hx #[iv p1, iv p2, iv p3, iv p4, iv p5, iv 2, iv c1, iv c2, iv c3, iv c4, rv ca62, rv b63, rv t65, iv 0, iv 1, rv b67] (hb hby at_176) rfl rfl ?_
      refine og_aload X71 hx (hb hby at_178) rfl rfl ?_
      refine og_iload X71 hx (hb hby at_180) rfl ?_
      refine og_iconst X71 hx (hb hby at_182) ?_
      refine og_aload X71 hx (hb hby at_183) rfl rfl ?_
      refine og_iload X71 hx (hb hby at_185) rfl ?_
      refine own_callS X71 hx hZ hown (own_hw hw 90 rfl) (own_hw hw 91 rfl) (own_hw hw 3 rfl) (own_hw hw 92 rfl) (by decide) (argsL := [(.ref t65), (.int 1), (.int 0), (.ref b67), (.int 0)]) (rest := []) (own_sm_1_0_0 l Z a0 hw z sf t65 vb65 _ _ b67 _ _ c1 c2 c3 c4 h71 n0 O71 hG hc2 E_t65_71 F_t65_value_71 F_t65_coder_71 A_vb65_71 A_b67_71) e71 (by rw [hml]; rfl) (lenOf own_pd39901 rfl) rfl (hb hby at_187) (W := 0) (Nat.le_of_eq rfl) (by decide) ?_
      intro v72 T72 L72 X72 q72
      obtain ⟨rfl, N72q, e72⟩ := q72
      have N72 := Fr.app N71 N72q
      show own_Go p e below _ T72 (mkF m 190 #[iv p1, iv p2, iv p3, iv p4, iv p5, iv 2, iv c1, iv c2, iv c3, iv c4, rv ca62, rv b63, rv t65, iv 0, iv 1, rv b67] [(.int 1)])
      refine og_ifN X72 hx (hb hby at_190) (feq (by decide)).1 ?_
      refine og_aload X72 hx (hb hby at_193) rfl rfl ?_
      refine og_iload X72 hx (hb hby at_195) rfl ?_
      refine og_iconst X72 hx (hb hby at_197) ?_
      refine og_aload X72 hx (hb hby at_198) rfl rfl ?_
      refine og_iload X72 hx (hb hby at_200) rfl ?_
      refine own_callS X72 hx hZ hown (own_hw hw 90 rfl) (own_hw hw 91 rfl) (own_hw hw 3 rfl) (own_hw hw 92 rfl) (by decide) (argsL := [(.ref t65), (.int 1), (.int 1), (.ref b67), (.int 0)]) (rest := []) (own_sm_1_1 l Z a0 hw t65 b67 0 h71 n0) e72 (by rw [hml]; rfl) (lenOf own_pd39901 rfl) rfl (hb hby at_202) (W := 0) (Nat.le_of_eq rfl) (by decide) ?_
      intro v73 T73 L73 X73 q73
      obtain ⟨rfl, N73q, e73⟩ := q73
      have N73 := Fr.app N72 N73q
      show own_Go p e below _ T73 (mkF m 205 #[iv p1, iv p2, iv p3, iv p4, iv p5, iv 2, iv c1, iv c2, iv c3, iv c4, rv ca62, rv b63, rv t65, iv 0, iv 1, rv b67] [(.int 1)])
      refine og_ifN X73 hx (hb hby at_205) (feq (by decide)).1 ?_
      refine og_aload X73 hx (hb hby at_208) rfl rfl ?_
      refine og_iload X73 hx (hb hby at_210) rfl ?_
      refine og_iconst X73 hx (hb hby at_212) ?_
      refine og_aload X73 hx (hb hby at_213) rfl rfl ?_
      refine og_iload X73 hx (hb hby at_215) rfl ?_
      refine own_callS X73 hx hZ hown (own_hw hw 90 rfl) (own_hw hw 91 rfl) (own_hw hw 3 rfl) (own_hw hw 92 rfl) (by decide) (argsL := [(.ref t65), (.int 1), (.int 2), (.ref b67), (.int 0)]) (rest := []) (own_sm_1_2 l Z a0 hw t65 b67 0 h71 n0) e73 (by rw [hml]; rfl) (lenOf own_pd39901 rfl) rfl (hb hby at_217) (W := 0) (Nat.le_of_eq rfl) (by decide) ?_
      intro v74 T74 L74 X74 q74
      obtain ⟨rfl, N74q, e74⟩ := q74
      have N74 := Fr.app N73 N74q
      show own_Go p e below _ T74 (mkF m 220 #[iv p1, iv p2, iv p3, iv p4, iv p5, iv 2, iv c1, iv c2, iv c3, iv c4, rv ca62, rv b63, rv t65, iv 0, iv 1, rv b67] [(.int 1)])
      refine og_ifN X74 hx (hb hby at_220) (feq (by decide)).1 ?_
      refine og_aload X74 hx (hb hby at_223) rfl rfl ?_
      refine og_iload X74 hx (hb hby at_225) rfl ?_
      refine og_iconst X74 hx (hb hby at_227) ?_
      refine og_aload X74 hx (hb hby at_228) rfl rfl ?_
      refine og_iload X74 hx (hb hby at_230) rfl ?_
      refine own_callS X74 hx hZ hown (own_hw hw 90 rfl) (own_hw hw 91 rfl) (own_hw hw 3 rfl) (own_hw hw 92 rfl) (by decide) (argsL := [(.ref t65), (.int 1), (.int 3), (.ref b67), (.int 0)]) (rest := []) (own_sm_1_3 l Z a0 hw t65 b67 0 h71 n0) e74 (by rw [hml]; rfl) (lenOf own_pd39901 rfl) rfl (hb hby at_232) (W := 0) (Nat.le_of_eq rfl) (by decide) ?_
      intro v75 T75 L75 X75 q75
      obtain ⟨rfl, N75q, e75⟩ := q75
      have N75 := Fr.app N74 N75q
      show own_Go p e below _ T75 (mkF m 235 #[iv p1, iv p2, iv p3, iv p4, iv p5, iv 2, iv c1, iv c2, iv c3, iv c4, rv ca62, rv b63, rv t65, iv 0, iv 1, rv b67] [(.int 1)])
      refine og_ifN X75 hx (hb hby at_235) (feq (by decide)).1 ?_
      refine og_iconst X75 hx (hb hby at_238) ?_
      refine og_goto X75 hx 243 (hb hby at_239) (by decide) (by decide) ?_
      exact own_retIH X75 hx hret hlk (hb hby at_243) rfl (by simp) hZ (own_EW hw) C71 e75 hS hk71 (by decide) (by decide) (⟨rfl, N75⟩)
    · show own_Go p e below _ T4 (mkF m 35 #[iv p1, iv p2, iv p3, iv p4, iv p5, iv 2, iv c1, iv c2, iv c3, iv c4, .unset, .unset, .unset, .unset, .unset, .unset] [(.int 2)])
      refine og_iload X4 hx (hb hby at_35) rfl ?_
      refine og_iload X4 hx (hb hby at_37) rfl ?_
      refine og_iload X4 hx (hb hby at_39) rfl ?_
      refine og_iload X4 hx (hb hby at_41) rfl ?_
      refine own_callS X4 hx hZ hown (own_hw hw 5 rfl) (own_hw hw 6 rfl) (own_hw hw 3 rfl) (own_hw hw 7 rfl) (by decide) (argsL := [(.int 2), (.int c1), (.int c2), (.int c3), (.int c4)]) (rest := []) (own_mk2 l Z a0 hw c1 c2 c3 c4 h0 n0 hO hc1 hc2 hc3 hc4) e4 (by rw [hml]; rfl) (lenOf own_pd92197 rfl) rfl (hb hby at_43) (W := 0) (Nat.le_of_eq rfl) (by decide) ?_
      intro v76 T76 L76 X76 q76
      obtain ⟨ca76, k76, rfl, N76q, K76q, z76q, g76q, A76q⟩ := q76
      have N76 := Fr.app N4 N76q
      have hk76 := Nat.le_trans hk K76q.1
      have hs76 : ∀ x ∈ ([] : List Addr), Safe Z own_EL s.vm h0 x := sf0
      have C76 := C0.trans (CHr.keep K76q hs76 C0.1)
      have O76 := hO.keep K76q all0
      show own_Go p e below _ T76 (mkF m 46 #[iv p1, iv p2, iv p3, iv p4, iv p5, iv 2, iv c1, iv c2, iv c3, iv c4, .unset, .unset, .unset, .unset, .unset, .unset] [(.ref ca76)])
      refine og_astore X76 hx #[iv p1, iv p2, iv p3, iv p4, iv p5, iv 2, iv c1, iv c2, iv c3, iv c4, rv ca76, .unset, .unset, .unset, .unset, .unset] (hb hby at_46) rfl rfl ?_
      refine own_newO X76 hx hZ hown (own_hw hw 9 rfl) (own_hw hw 10 rfl) (own_hw hw 11 rfl) rfl (hb hby at_48) (by decide) (by decide) ?_
      intro T77 h77 b77 g77 X77 e77 E77 A77 D77
      have ne_ca76_b77 : ca76 ≠ b77 := Nat.ne_of_lt (Nat.lt_of_lt_of_eq A76q.lt g77.symm)
      have ge_b77 : n0 ≤ b77 := Nat.le_trans (own_oldle O76) (Nat.le_of_eq g77.symm)
      have S_b77 : Safe Z own_EL s.vm T76.heap b77 := Safe.new (Nat.le_of_eq g77.symm)
      have hk77 := Nat.le_trans hk76 E77.1
      have A_ca76_77 := A76q.ext E77
      have S_b77_77 := Safe.ext E77 C76.1 S_b77
      have C77 := C76.trans (CHr.ext E77 C76.1)
      have O77 := O76.ext E77
      have F_b77_value_77 : Fld Z h77 b77 "java/lang/String" "value" "[B" .null := D77 (Or.inr (own_hw hw 24 rfl)) (ty := (.array .byte)) (by decide)
      have F_b77_coder_77 : Fld Z h77 b77 "java/lang/String" "coder" "B" (.int 0) := D77 (Or.inr (own_hw hw 25 rfl)) (ty := .byte) (by decide)
      show own_Go p e below _ T77 (mkF m 51 #[iv p1, iv p2, iv p3, iv p4, iv p5, iv 2, iv c1, iv c2, iv c3, iv c4, rv ca76, .unset, .unset, .unset, .unset, .unset] [(.ref b77)])
      refine og_dup X77 hx (hb hby at_51) rfl ?_
      refine og_aload X77 hx (hb hby at_52) rfl rfl ?_
      have hws : ∀ d ∈ StrChars.Road.words, d.before a0 Z = true := fun d hd => hw d ((by decide +kernel : ∀ d ∈ StrChars.Road.words, d ∈ tables_1) d hd)
      have hp78 : ∀ c ∈ ([c1, c2] : List Int32), ¬ c < 0 ∧ ¬ (255 : Int32) < c := by
        intro c hc; simp only [List.mem_cons, List.not_mem_nil, or_false] at hc; rcases hc with rfl | rfl <;> assumption
      refine own_callNB X77 hx hZ hown (own_hw hw 12 rfl) (own_hw hw 13 rfl) (own_hw hw 14 rfl) (own_hw hw 11 rfl) (by decide) rfl (b := b77) (argsL := [(.ref ca76)]) (rest := [(.ref b77)]) (StrChars.Road.backV (W := 1) hZ hws (kI := 4) (own_hw hw 10 rfl) (cs := ([c1, c2] : List Int32)) (bs := (([c1, c2] : List Int32)).map (fun c => c.toInt8.toInt32)) (n := 2) ge_b77 (own_oldle O77) A77 F_b77_value_77 F_b77_coder_77 A_ca76_77 (SC.ext O77.2) hz rfl rfl (by decide) (by decide) hp78 rfl (by decide) (by decide)) e77 (by rw [hml]; rfl) (lenOf own_pd46664 rfl) rfl (hb hby at_54) (Nat.le_of_eq rfl) (by decide) (by decide) ?_
      intro v78 T78 L78 X78 q78
      obtain ⟨rfl, N78q, K78q, E78q, C78q, vb78, kb78, ge78, z78q, ne78q, V78q, A78q⟩ := q78
      have N78 := Fr.app N76 N78q
      have ne_b77_vb78 : b77 ≠ vb78 := Nat.ne_of_lt (Nat.lt_of_lt_of_le A77.lt z78q)
      have ne_ca76_vb78 : ca76 ≠ vb78 := Nat.ne_of_lt (Nat.lt_of_lt_of_le A_ca76_77.lt z78q)
      have hk78 := Nat.le_trans hk77 K78q.1
      have hs78 : ∀ x ∈ ([b77] : List Addr), Safe Z own_EL s.vm h77 x := (sfS S_b77_77 sf0)
      have C78 := C77.trans (CHr.keep K78q hs78 C77.1)
      have A_ca76_78 := A_ca76_77.keep K78q (ninS ne_ca76_b77 nin0)
      have S_b77_78 := Safe.keep K78q hs78 C77.1 S_b77_77
      have E_b77_78 := A77.keep K78q
      have O78 := O77.keep K78q (allS ge_b77 all0)
      show own_Go p e below _ T78 (mkF m 57 #[iv p1, iv p2, iv p3, iv p4, iv p5, iv 2, iv c1, iv c2, iv c3, iv c4, rv ca76, .unset, .unset, .unset, .unset, .unset] [(.ref b77)])
      refine og_astore X78 hx #[iv p1, iv p2, iv p3, iv p4, iv p5, iv 2, iv c1, iv c2, iv c3, iv c4, rv ca76, rv b77, .unset, .unset, .unset, .unset] (hb hby at_57) rfl rfl ?_
      refine og_aload X78 hx (hb hby at_59) rfl rfl ?_
      refine own_callS X78 hx hZ hown (own_hw hw 30 rfl) (own_hw hw 31 rfl) (own_hw hw 32 rfl) (own_hw hw 33 rfl) (by decide) (argsL := [(.ref b77)]) (rest := []) (own_po_2_m1 l Z a0 hw z sf b77 vb78 _ _ c1 c2 T78.heap n0 O78 hG hc1 m0 hc2 m1 E_b77_78 V78q C78q A78q) rfl (by rw [hml]; rfl) (lenOf own_pd11897 rfl) rfl (hb hby at_61) (W := 0) (Nat.le_of_eq rfl) (by decide) ?_
      intro v79 T79 L79 X79 q79
      obtain ⟨rfl, N79q, e79⟩ := q79
      have N79 := Fr.app N78 N79q
      show own_Go p e below _ T79 (mkF m 64 #[iv p1, iv p2, iv p3, iv p4, iv p5, iv 2, iv c1, iv c2, iv c3, iv c4, rv ca76, rv b77, .unset, .unset, .unset, .unset] [(.ref b77)])
      refine og_astore X79 hx #[iv p1, iv p2, iv p3, iv p4, iv p5, iv 2, iv c1, iv c2, iv c3, iv c4, rv ca76, rv b77, rv b77, .unset, .unset, .unset] (hb hby at_64) rfl rfl ?_
      refine og_iconst X79 hx (hb hby at_66) ?_
      refine og_istore X79 hx #[iv p1, iv p2, iv p3, iv p4, iv p5, iv 2, iv c1, iv c2, iv c3, iv c4, rv ca76, rv b77, rv b77, iv (-1), .unset, .unset] (hb hby at_67) rfl ?_
      refine og_iload X79 hx (hb hby at_69) rfl ?_
      refine og_ifN X79 hx (hb hby at_71) (tlt (by decide)).2.2.2 ?_
      refine og_iload X79 hx (hb hby at_74) rfl ?_
      refine og_bipush X79 hx (hb hby at_76) ?_
      refine og_icY X79 hx 84 (hb hby at_78) (feq m0).2 (by decide) (by decide) ?_
      refine og_iload X79 hx (hb hby at_84) rfl ?_
      refine og_iconst X79 hx (hb hby at_86) ?_
      refine og_icN X79 hx (hb hby at_87) (tlt (by decide)).2.2.2 ?_
      refine og_iload X79 hx (hb hby at_90) rfl ?_
      refine og_bipush X79 hx (hb hby at_92) ?_
      refine og_icY X79 hx 100 (hb hby at_94) (feq m1).2 (by decide) (by decide) ?_
      refine og_iload X79 hx (hb hby at_100) rfl ?_
      refine og_iconst X79 hx (hb hby at_102) ?_
      refine og_icY X79 hx 116 (hb hby at_103) (flt (by decide)).2.2.2 (by decide) (by decide) ?_
      refine og_iload X79 hx (hb hby at_116) rfl ?_
      refine og_iconst X79 hx (hb hby at_118) ?_
      refine og_icY X79 hx 132 (hb hby at_119) (flt (by decide)).2.2.2 (by decide) (by decide) ?_
      refine og_iload X79 hx (hb hby at_132) rfl ?_
      refine og_iload X79 hx (hb hby at_134) rfl ?_
      refine og_isub X79 hx (hb hby at_136) ?_
      refine og_iconst X79 hx (hb hby at_137) ?_
      refine og_isub X79 hx (hb hby at_138) ?_
      refine og_istore X79 hx #[iv p1, iv p2, iv p3, iv p4, iv p5, iv 2, iv c1, iv c2, iv c3, iv c4, rv ca76, rv b77, rv b77, iv (-1), iv 2, .unset] (hb hby at_139) rfl ?_
      refine og_aload X79 hx (hb hby at_141) rfl rfl ?_
      refine own_callV X79 hx hZ hown (own_hw hw 89 rfl) (own_hw hw 40 rfl) (notFace_of_selects (args := #[]) (mvT hZ (own_hw hw 42 rfl))) (own_hw hw 42 rfl) (own_hw hw 41 rfl) (own_hw hw 43 rfl) (own_hw hw 11 rfl) (by decide) (b := b77) (argsL := []) (rest := []) (own_slen l Z a0 hw z sf b77 vb78 _ _ (2 : Int32) _ T78.heap n0 O78 hG E_b77_78 V78q C78q A78q) e79 E_b77_78 (by rw [hml]; rfl) (lenOf own_pd13941 rfl) rfl (hb hby at_143) (W := 0) (Nat.le_of_eq rfl) (by decide) ?_
      intro v80 T80 L80 X80 q80
      obtain ⟨rfl, N80q, e80⟩ := q80
      have N80 := Fr.app N79 N80q
      show own_Go p e below _ T80 (mkF m 146 #[iv p1, iv p2, iv p3, iv p4, iv p5, iv 2, iv c1, iv c2, iv c3, iv c4, rv ca76, rv b77, rv b77, iv (-1), iv 2, .unset] [(.int (2 : Int32))])
      refine og_iload X80 hx (hb hby at_146) rfl ?_
      refine og_icY X80 hx 153 (hb hby at_148) (teq (by decide)).1 (by decide) (by decide) ?_
      refine og_iconst X80 hx (hb hby at_153) ?_
      refine own_newP X80 hx hZ (own_hw hw 8 rfl) e80 (hb hby at_154) (by decide) 4 (by decide) (by decide) (by decide) (by decide) ?_
      intro T81 h81 k81 b81 g81 X81 e81 E81 A81
      have ne_b77_b81 : b77 ≠ b81 := Nat.ne_of_lt (Nat.lt_of_lt_of_eq E_b77_78.lt g81.symm)
      have ne_vb78_b81 : vb78 ≠ b81 := Nat.ne_of_lt (Nat.lt_of_lt_of_eq A78q.lt g81.symm)
      have ge_b81 : n0 ≤ b81 := Nat.le_trans (own_oldle O78) (Nat.le_of_eq g81.symm)
      have hk81 := Nat.le_trans hk78 E81.1
      have E_b77_81 := E_b77_78.ext E81
      have F_b77_value_81 := V78q.ext E81
      have F_b77_coder_81 := C78q.ext E81
      have A_vb78_81 := A78q.ext E81
      have C81 := C78.trans (CHr.ext E81 C78.1)
      have O81 := O78.ext E81
      have A_b81_81 : Arv Z h81 b81 k81 .char 4 [(.int (0 : Int32)), (.int (0 : Int32)), (.int (0 : Int32)), (.int (0 : Int32))] (.int (0 : Int32)) := A81
      show own_Go p e below _ T81 (mkF m 156 #[iv p1, iv p2, iv p3, iv p4, iv p5, iv 2, iv c1, iv c2, iv c3, iv c4, rv ca76, rv b77, rv b77, iv (-1), iv 2, .unset] [(.ref b81)])
      refine og_dup X81 hx (hb hby at_156) rfl ?_
      refine og_iconst X81 hx (hb hby at_157) ?_
      refine og_iload X81 hx (hb hby at_158) rfl ?_
      refine own_stC X81 hx hZ e81 A_b81_81 ⟨by decide, by decide⟩ 0 rfl (by show 0 < 4; decide) (hb hby at_160) ?_
      intro T82 h82 X82 e82 W82 A82
      have hk82 := Nat.le_trans hk81 (Keep.of_wr W82).1
      have sf82 := (Safe.arv (EL := own_EL) hZ.alike A_b81_81 (by decide))
      have C82 := C81.trans (CHr.wr W82 sf82 C81.1)
      have E_b77_82 := E_b77_81.wr W82
      have F_b77_value_82 := F_b77_value_81.other W82 (Or.inl ne_b77_b81)
      have F_b77_coder_82 := F_b77_coder_81.other W82 (Or.inl ne_b77_b81)
      have A_vb78_82 := A_vb78_81.other W82 ne_vb78_b81
      have O82 := O81.wr W82 ge_b81
      have N82 := Fr.snoc X82 N80 ge_b81
      have A_b81_82 : Arv Z h82 b81 k81 .char 4 [(.int c1), (.int (0 : Int32)), (.int (0 : Int32)), (.int (0 : Int32))] (.int (0 : Int32)) := (by have q := A82; rw [show nar .char c1 = c1 from own_ic _ hc1] at q; exact q)
      show own_Go p e below _ T82 (mkF m 161 #[iv p1, iv p2, iv p3, iv p4, iv p5, iv 2, iv c1, iv c2, iv c3, iv c4, rv ca76, rv b77, rv b77, iv (-1), iv 2, .unset] [(.ref b81)])
      refine og_dup X82 hx (hb hby at_161) rfl ?_
      refine og_iconst X82 hx (hb hby at_162) ?_
      refine og_iload X82 hx (hb hby at_163) rfl ?_
      refine own_stC X82 hx hZ e82 A_b81_82 ⟨by decide, by decide⟩ 1 rfl (by show 1 < 4; decide) (hb hby at_165) ?_
      intro T83 h83 X83 e83 W83 A83
      have hk83 := Nat.le_trans hk82 (Keep.of_wr W83).1
      have sf83 := (Safe.arv (EL := own_EL) hZ.alike A_b81_82 (by decide))
      have C83 := C82.trans (CHr.wr W83 sf83 C82.1)
      have E_b77_83 := E_b77_82.wr W83
      have F_b77_value_83 := F_b77_value_82.other W83 (Or.inl ne_b77_b81)
      have F_b77_coder_83 := F_b77_coder_82.other W83 (Or.inl ne_b77_b81)
      have A_vb78_83 := A_vb78_82.other W83 ne_vb78_b81
      have O83 := O82.wr W83 ge_b81
      have N83 := Fr.snoc X83 N82 ge_b81
      have A_b81_83 : Arv Z h83 b81 k81 .char 4 [(.int c1), (.int c2), (.int (0 : Int32)), (.int (0 : Int32))] (.int (0 : Int32)) := (by have q := A83; rw [show nar .char c2 = c2 from own_ic _ hc2] at q; exact q)
      show own_Go p e below _ T83 (mkF m 166 #[iv p1, iv p2, iv p3, iv p4, iv p5, iv 2, iv c1, iv c2, iv c3, iv c4, rv ca76, rv b77, rv b77, iv (-1), iv 2, .unset] [(.ref b81)])
      refine og_dup X83 hx (hb hby at_166) rfl ?_
      refine og_iconst X83 hx (hb hby at_167) ?_
      refine og_iload X83 hx (hb hby at_168) rfl ?_
      refine own_stC X83 hx hZ e83 A_b81_83 ⟨by decide, by decide⟩ 2 rfl (by show 2 < 4; decide) (hb hby at_170) ?_
      intro T84 h84 X84 e84 W84 A84
      have hk84 := Nat.le_trans hk83 (Keep.of_wr W84).1
      have sf84 := (Safe.arv (EL := own_EL) hZ.alike A_b81_83 (by decide))
      have C84 := C83.trans (CHr.wr W84 sf84 C83.1)
      have E_b77_84 := E_b77_83.wr W84
      have F_b77_value_84 := F_b77_value_83.other W84 (Or.inl ne_b77_b81)
      have F_b77_coder_84 := F_b77_coder_83.other W84 (Or.inl ne_b77_b81)
      have A_vb78_84 := A_vb78_83.other W84 ne_vb78_b81
      have O84 := O83.wr W84 ge_b81
      have N84 := Fr.snoc X84 N83 ge_b81
      have A_b81_84 : Arv Z h84 b81 k81 .char 4 [(.int c1), (.int c2), (.int c3), (.int (0 : Int32))] (.int (0 : Int32)) := (by have q := A84; rw [show nar .char c3 = c3 from own_ic _ hc3] at q; exact q)
      show own_Go p e below _ T84 (mkF m 171 #[iv p1, iv p2, iv p3, iv p4, iv p5, iv 2, iv c1, iv c2, iv c3, iv c4, rv ca76, rv b77, rv b77, iv (-1), iv 2, .unset] [(.ref b81)])
      refine og_dup X84 hx (hb hby at_171) rfl ?_
      refine og_iconst X84 hx (hb hby at_172) ?_
      refine og_iload X84 hx (hb hby at_173) rfl ?_
      refine own_stC X84 hx hZ e84 A_b81_84 ⟨by decide, by decide⟩ 3 rfl (by show 3 < 4; decide) (hb hby at_175) ?_
      intro T85 h85 X85 e85 W85 A85
      have hk85 := Nat.le_trans hk84 (Keep.of_wr W85).1
      have sf85 := (Safe.arv (EL := own_EL) hZ.alike A_b81_84 (by decide))
      have C85 := C84.trans (CHr.wr W85 sf85 C84.1)
      have E_b77_85 := E_b77_84.wr W85
      have F_b77_value_85 := F_b77_value_84.other W85 (Or.inl ne_b77_b81)
      have F_b77_coder_85 := F_b77_coder_84.other W85 (Or.inl ne_b77_b81)
      have A_vb78_85 := A_vb78_84.other W85 ne_vb78_b81
      have O85 := O84.wr W85 ge_b81
      have N85 := Fr.snoc X85 N84 ge_b81
      have A_b81_85 : Arv Z h85 b81 k81 .char 4 [(.int c1), (.int c2), (.int c3), (.int c4)] (.int (0 : Int32)) := (by have q := A85; rw [show nar .char c4 = c4 from own_ic _ hc4] at q; exact q)
      show own_Go p e below _ T85 (mkF m 176 #[iv p1, iv p2, iv p3, iv p4, iv p5, iv 2, iv c1, iv c2, iv c3, iv c4, rv ca76, rv b77, rv b77, iv (-1), iv 2, .unset] [(.ref b81)])
      refine og_astore X85 hx #[iv p1, iv p2, iv p3, iv p4, iv p5, iv 2, iv c1, iv c2, iv c3, iv c4, rv ca76, rv b77, rv b77, iv (-1), iv 2, rv b81] (hb hby at_176) rfl rfl ?_
      refine og_aload X85 hx (hb hby at_178) rfl rfl ?_
      refine og_iload X85 hx (hb hby at_180) rfl ?_
      refine og_iconst X85 hx (hb hby at_182) ?_
      refine og_aload X85 hx (hb hby at_183) rfl rfl ?_
      refine og_iload X85 hx (hb hby at_185) rfl ?_
      refine own_callS X85 hx hZ hown (own_hw hw 90 rfl) (own_hw hw 91 rfl) (own_hw hw 3 rfl) (own_hw hw 92 rfl) (by decide) (argsL := [(.ref b77), (.int 2), (.int 0), (.ref b81), (.int (-1))]) (rest := []) (own_sm_2_0_m1 l Z a0 hw z sf b77 vb78 _ _ b81 _ _ c1 c2 c3 c4 h85 n0 O85 hG hc1 E_b77_85 F_b77_value_85 F_b77_coder_85 A_vb78_85 A_b81_85) e85 (by rw [hml]; rfl) (lenOf own_pd39901 rfl) rfl (hb hby at_187) (W := 0) (Nat.le_of_eq rfl) (by decide) ?_
      intro v86 T86 L86 X86 q86
      obtain ⟨rfl, N86q, e86⟩ := q86
      have N86 := Fr.app N85 N86q
      show own_Go p e below _ T86 (mkF m 190 #[iv p1, iv p2, iv p3, iv p4, iv p5, iv 2, iv c1, iv c2, iv c3, iv c4, rv ca76, rv b77, rv b77, iv (-1), iv 2, rv b81] [(.int 1)])
      refine og_ifN X86 hx (hb hby at_190) (feq (by decide)).1 ?_
      refine og_aload X86 hx (hb hby at_193) rfl rfl ?_
      refine og_iload X86 hx (hb hby at_195) rfl ?_
      refine og_iconst X86 hx (hb hby at_197) ?_
      refine og_aload X86 hx (hb hby at_198) rfl rfl ?_
      refine og_iload X86 hx (hb hby at_200) rfl ?_
      refine own_callS X86 hx hZ hown (own_hw hw 90 rfl) (own_hw hw 91 rfl) (own_hw hw 3 rfl) (own_hw hw 92 rfl) (by decide) (argsL := [(.ref b77), (.int 2), (.int 1), (.ref b81), (.int (-1))]) (rest := []) (own_sm_2_1_m1 l Z a0 hw z sf b77 vb78 _ _ b81 _ _ c1 c2 c3 c4 h85 n0 O85 hG hc2 E_b77_85 F_b77_value_85 F_b77_coder_85 A_vb78_85 A_b81_85) e86 (by rw [hml]; rfl) (lenOf own_pd39901 rfl) rfl (hb hby at_202) (W := 0) (Nat.le_of_eq rfl) (by decide) ?_
      intro v87 T87 L87 X87 q87
      obtain ⟨rfl, N87q, e87⟩ := q87
      have N87 := Fr.app N86 N87q
      show own_Go p e below _ T87 (mkF m 205 #[iv p1, iv p2, iv p3, iv p4, iv p5, iv 2, iv c1, iv c2, iv c3, iv c4, rv ca76, rv b77, rv b77, iv (-1), iv 2, rv b81] [(.int 1)])
      refine og_ifN X87 hx (hb hby at_205) (feq (by decide)).1 ?_
      refine og_aload X87 hx (hb hby at_208) rfl rfl ?_
      refine og_iload X87 hx (hb hby at_210) rfl ?_
      refine og_iconst X87 hx (hb hby at_212) ?_
      refine og_aload X87 hx (hb hby at_213) rfl rfl ?_
      refine og_iload X87 hx (hb hby at_215) rfl ?_
      refine own_callS X87 hx hZ hown (own_hw hw 90 rfl) (own_hw hw 91 rfl) (own_hw hw 3 rfl) (own_hw hw 92 rfl) (by decide) (argsL := [(.ref b77), (.int 2), (.int 2), (.ref b81), (.int (-1))]) (rest := []) (own_sm_2_2 l Z a0 hw b77 b81 (-1) h85 n0) e87 (by rw [hml]; rfl) (lenOf own_pd39901 rfl) rfl (hb hby at_217) (W := 0) (Nat.le_of_eq rfl) (by decide) ?_
      intro v88 T88 L88 X88 q88
      obtain ⟨rfl, N88q, e88⟩ := q88
      have N88 := Fr.app N87 N88q
      show own_Go p e below _ T88 (mkF m 220 #[iv p1, iv p2, iv p3, iv p4, iv p5, iv 2, iv c1, iv c2, iv c3, iv c4, rv ca76, rv b77, rv b77, iv (-1), iv 2, rv b81] [(.int 1)])
      refine og_ifN X88 hx (hb hby at_220) (feq (by decide)).1 ?_
      refine og_aload X88 hx (hb hby at_223) rfl rfl ?_
      refine og_iload X88 hx (hb hby at_225) rfl ?_
      refine og_iconst X88 hx (hb hby at_227) ?_
      refine og_aload X88 hx (hb hby at_228) rfl rfl ?_
      refine og_iload X88 hx (hb hby at_230) rfl ?_
      refine own_callS X88 hx hZ hown (own_hw hw 90 rfl) (own_hw hw 91 rfl) (own_hw hw 3 rfl) (own_hw hw 92 rfl) (by decide) (argsL := [(.ref b77), (.int 2), (.int 3), (.ref b81), (.int (-1))]) (rest := []) (own_sm_2_3 l Z a0 hw b77 b81 (-1) h85 n0) e88 (by rw [hml]; rfl) (lenOf own_pd39901 rfl) rfl (hb hby at_232) (W := 0) (Nat.le_of_eq rfl) (by decide) ?_
      intro v89 T89 L89 X89 q89
      obtain ⟨rfl, N89q, e89⟩ := q89
      have N89 := Fr.app N88 N89q
      show own_Go p e below _ T89 (mkF m 235 #[iv p1, iv p2, iv p3, iv p4, iv p5, iv 2, iv c1, iv c2, iv c3, iv c4, rv ca76, rv b77, rv b77, iv (-1), iv 2, rv b81] [(.int 1)])
      refine og_ifN X89 hx (hb hby at_235) (feq (by decide)).1 ?_
      refine og_iconst X89 hx (hb hby at_238) ?_
      refine og_goto X89 hx 243 (hb hby at_239) (by decide) (by decide) ?_
      exact own_retIH X89 hx hret hlk (hb hby at_243) rfl (by simp) hZ (own_EW hw) C85 e89 hS hk85 (by decide) (by decide) (⟨rfl, N89⟩)
  · rw [h]
    show own_Go p e below _ T4 (mkF m 33 #[iv p1, iv p2, iv p3, iv p4, iv p5, iv 3, iv c1, iv c2, iv c3, iv c4, .unset, .unset, .unset, .unset, .unset, .unset] [])
    refine og_iload X4 hx (hb hby at_33) rfl ?_
    show own_Go p e below _ T4 (mkF m 35 #[iv p1, iv p2, iv p3, iv p4, iv p5, iv 3, iv c1, iv c2, iv c3, iv c4, .unset, .unset, .unset, .unset, .unset, .unset] [(.int 3)])
    rcases own_last3 c1 c2 c3 with k2 | ⟨m2, k1⟩ | ⟨m2, m1, k0⟩ | ⟨m2, m1, m0, -⟩
    · show own_Go p e below _ T4 (mkF m 35 #[iv p1, iv p2, iv p3, iv p4, iv p5, iv 3, iv c1, iv c2, iv c3, iv c4, .unset, .unset, .unset, .unset, .unset, .unset] [(.int 3)])
      refine og_iload X4 hx (hb hby at_35) rfl ?_
      refine og_iload X4 hx (hb hby at_37) rfl ?_
      refine og_iload X4 hx (hb hby at_39) rfl ?_
      refine og_iload X4 hx (hb hby at_41) rfl ?_
      refine own_callS X4 hx hZ hown (own_hw hw 5 rfl) (own_hw hw 6 rfl) (own_hw hw 3 rfl) (own_hw hw 7 rfl) (by decide) (argsL := [(.int 3), (.int c1), (.int c2), (.int c3), (.int c4)]) (rest := []) (own_mk3 l Z a0 hw c1 c2 c3 c4 h0 n0 hO hc1 hc2 hc3 hc4) e4 (by rw [hml]; rfl) (lenOf own_pd92197 rfl) rfl (hb hby at_43) (W := 0) (Nat.le_of_eq rfl) (by decide) ?_
      intro v90 T90 L90 X90 q90
      obtain ⟨ca90, k90, rfl, N90q, K90q, z90q, g90q, A90q⟩ := q90
      have N90 := Fr.app N4 N90q
      have hk90 := Nat.le_trans hk K90q.1
      have hs90 : ∀ x ∈ ([] : List Addr), Safe Z own_EL s.vm h0 x := sf0
      have C90 := C0.trans (CHr.keep K90q hs90 C0.1)
      have O90 := hO.keep K90q all0
      show own_Go p e below _ T90 (mkF m 46 #[iv p1, iv p2, iv p3, iv p4, iv p5, iv 3, iv c1, iv c2, iv c3, iv c4, .unset, .unset, .unset, .unset, .unset, .unset] [(.ref ca90)])
      refine og_astore X90 hx #[iv p1, iv p2, iv p3, iv p4, iv p5, iv 3, iv c1, iv c2, iv c3, iv c4, rv ca90, .unset, .unset, .unset, .unset, .unset] (hb hby at_46) rfl rfl ?_
      refine own_newO X90 hx hZ hown (own_hw hw 9 rfl) (own_hw hw 10 rfl) (own_hw hw 11 rfl) rfl (hb hby at_48) (by decide) (by decide) ?_
      intro T91 h91 b91 g91 X91 e91 E91 A91 D91
      have ne_ca90_b91 : ca90 ≠ b91 := Nat.ne_of_lt (Nat.lt_of_lt_of_eq A90q.lt g91.symm)
      have ge_b91 : n0 ≤ b91 := Nat.le_trans (own_oldle O90) (Nat.le_of_eq g91.symm)
      have S_b91 : Safe Z own_EL s.vm T90.heap b91 := Safe.new (Nat.le_of_eq g91.symm)
      have hk91 := Nat.le_trans hk90 E91.1
      have A_ca90_91 := A90q.ext E91
      have S_b91_91 := Safe.ext E91 C90.1 S_b91
      have C91 := C90.trans (CHr.ext E91 C90.1)
      have O91 := O90.ext E91
      have F_b91_value_91 : Fld Z h91 b91 "java/lang/String" "value" "[B" .null := D91 (Or.inr (own_hw hw 24 rfl)) (ty := (.array .byte)) (by decide)
      have F_b91_coder_91 : Fld Z h91 b91 "java/lang/String" "coder" "B" (.int 0) := D91 (Or.inr (own_hw hw 25 rfl)) (ty := .byte) (by decide)
      show own_Go p e below _ T91 (mkF m 51 #[iv p1, iv p2, iv p3, iv p4, iv p5, iv 3, iv c1, iv c2, iv c3, iv c4, rv ca90, .unset, .unset, .unset, .unset, .unset] [(.ref b91)])
      refine og_dup X91 hx (hb hby at_51) rfl ?_
      refine og_aload X91 hx (hb hby at_52) rfl rfl ?_
      have hws : ∀ d ∈ StrChars.Road.words, d.before a0 Z = true := fun d hd => hw d ((by decide +kernel : ∀ d ∈ StrChars.Road.words, d ∈ tables_1) d hd)
      have hp92 : ∀ c ∈ ([c1, c2, c3] : List Int32), ¬ c < 0 ∧ ¬ (255 : Int32) < c := by
        intro c hc; simp only [List.mem_cons, List.not_mem_nil, or_false] at hc; rcases hc with rfl | rfl | rfl <;> assumption
      refine own_callNB X91 hx hZ hown (own_hw hw 12 rfl) (own_hw hw 13 rfl) (own_hw hw 14 rfl) (own_hw hw 11 rfl) (by decide) rfl (b := b91) (argsL := [(.ref ca90)]) (rest := [(.ref b91)]) (StrChars.Road.backV (W := 1) hZ hws (kI := 4) (own_hw hw 10 rfl) (cs := ([c1, c2, c3] : List Int32)) (bs := (([c1, c2, c3] : List Int32)).map (fun c => c.toInt8.toInt32)) (n := 3) ge_b91 (own_oldle O91) A91 F_b91_value_91 F_b91_coder_91 A_ca90_91 (SC.ext O91.2) hz rfl rfl (by decide) (by decide) hp92 rfl (by decide) (by decide)) e91 (by rw [hml]; rfl) (lenOf own_pd46664 rfl) rfl (hb hby at_54) (Nat.le_of_eq rfl) (by decide) (by decide) ?_
      intro v92 T92 L92 X92 q92
      obtain ⟨rfl, N92q, K92q, E92q, C92q, vb92, kb92, ge92, z92q, ne92q, V92q, A92q⟩ := q92
      have N92 := Fr.app N90 N92q
      have ne_b91_vb92 : b91 ≠ vb92 := Nat.ne_of_lt (Nat.lt_of_lt_of_le A91.lt z92q)
      have ne_ca90_vb92 : ca90 ≠ vb92 := Nat.ne_of_lt (Nat.lt_of_lt_of_le A_ca90_91.lt z92q)
      have hk92 := Nat.le_trans hk91 K92q.1
      have hs92 : ∀ x ∈ ([b91] : List Addr), Safe Z own_EL s.vm h91 x := (sfS S_b91_91 sf0)
      have C92 := C91.trans (CHr.keep K92q hs92 C91.1)
      have A_ca90_92 := A_ca90_91.keep K92q (ninS ne_ca90_b91 nin0)
      have S_b91_92 := Safe.keep K92q hs92 C91.1 S_b91_91
      have E_b91_92 := A91.keep K92q
      have O92 := O91.keep K92q (allS ge_b91 all0)
      show own_Go p e below _ T92 (mkF m 57 #[iv p1, iv p2, iv p3, iv p4, iv p5, iv 3, iv c1, iv c2, iv c3, iv c4, rv ca90, .unset, .unset, .unset, .unset, .unset] [(.ref b91)])
      refine og_astore X92 hx #[iv p1, iv p2, iv p3, iv p4, iv p5, iv 3, iv c1, iv c2, iv c3, iv c4, rv ca90, rv b91, .unset, .unset, .unset, .unset] (hb hby at_57) rfl rfl ?_
      refine og_aload X92 hx (hb hby at_59) rfl rfl ?_
      refine own_callSH X92 hx hZ hown (own_hw hw 30 rfl) (own_hw hw 31 rfl) (own_hw hw 32 rfl) (own_hw hw 33 rfl) (by decide) (argsL := [(.ref b91)]) (rest := []) (own_po_3_2 l Z a0 hw z sf b91 vb92 _ _ c1 c2 c3 T92.heap n0 O92 hG k2 E_b91_92 V92q C92q A92q) (own_EW hw) C92.1 hS hk92 rfl (by rw [hml]; rfl) (lenOf own_pd11897 rfl) rfl (hb hby at_61) (W := 0) (Nat.le_of_eq rfl) (by decide) ?_
      intro v93 T93 L93 X93 hS93 hZ93 hown93 C93q q93
      obtain ⟨t93, vb93, k93, rfl, N93q, K93q, Et93, Ft93, Ct93, At93⟩ := q93
      have N93 := Fr.app N92 N93q
      have C93 := C92.trans C93q
      have E_b91_93 := E_b91_92.keep K93q
      have F_b91_value_93 := V92q.keep K93q nin0
      have F_b91_coder_93 := C92q.keep K93q nin0
      have A_vb92_93 := A92q.keep K93q nin0
      have O93 := O92.keep K93q all0
      show own_Go p e below _ T93 (mkF m 64 #[iv p1, iv p2, iv p3, iv p4, iv p5, iv 3, iv c1, iv c2, iv c3, iv c4, rv ca90, rv b91, .unset, .unset, .unset, .unset] [(.ref t93)])
      refine og_astore X93 hx #[iv p1, iv p2, iv p3, iv p4, iv p5, iv 3, iv c1, iv c2, iv c3, iv c4, rv ca90, rv b91, rv t93, .unset, .unset, .unset] (hb hby at_64) rfl rfl ?_
      refine og_iconst X93 hx (hb hby at_66) ?_
      refine og_istore X93 hx #[iv p1, iv p2, iv p3, iv p4, iv p5, iv 3, iv c1, iv c2, iv c3, iv c4, rv ca90, rv b91, rv t93, iv (-1), .unset, .unset] (hb hby at_67) rfl ?_
      refine own_cut (F := fun v94 : Int32 => (mkF m 100 #[iv p1, iv p2, iv p3, iv p4, iv p5, iv 3, iv c1, iv c2, iv c3, iv c4, rv ca90, rv b91, rv t93, iv v94, .unset, .unset] [])) ?_ ?_
      · intro v94
        show own_Go p e below _ T93 (mkF m 100 #[iv p1, iv p2, iv p3, iv p4, iv p5, iv 3, iv c1, iv c2, iv c3, iv c4, rv ca90, rv b91, rv t93, iv v94, .unset, .unset] [])
        refine og_iload X93 hx (hb hby at_100) rfl ?_
        refine og_iconst X93 hx (hb hby at_102) ?_
        refine og_icN X93 hx (hb hby at_103) (tlt (by decide)).2.2.2 ?_
        refine og_iload X93 hx (hb hby at_106) rfl ?_
        refine og_bipush X93 hx (hb hby at_108) ?_
        refine og_icN X93 hx (hb hby at_110) (teq k2).2 ?_
        refine og_iconst X93 hx (hb hby at_113) ?_
        refine og_istore X93 hx #[iv p1, iv p2, iv p3, iv p4, iv p5, iv 3, iv c1, iv c2, iv c3, iv c4, rv ca90, rv b91, rv t93, iv 2, .unset, .unset] (hb hby at_114) rfl ?_
        refine og_iload X93 hx (hb hby at_116) rfl ?_
        refine og_iconst X93 hx (hb hby at_118) ?_
        refine og_icY X93 hx 132 (hb hby at_119) (flt (by decide)).2.2.2 (by decide) (by decide) ?_
        refine og_iload X93 hx (hb hby at_132) rfl ?_
        refine og_iload X93 hx (hb hby at_134) rfl ?_
        refine og_isub X93 hx (hb hby at_136) ?_
        refine og_iconst X93 hx (hb hby at_137) ?_
        refine og_isub X93 hx (hb hby at_138) ?_
        refine og_istore X93 hx #[iv p1, iv p2, iv p3, iv p4, iv p5, iv 3, iv c1, iv c2, iv c3, iv c4, rv ca90, rv b91, rv t93, iv 2, iv 0, .unset] (hb hby at_139) rfl ?_
        refine og_aload X93 hx (hb hby at_141) rfl rfl ?_
        refine own_callV X93 hx hZ93 hown93 (own_hw hw 89 rfl) (own_hw hw 40 rfl) (notFace_of_selects (args := #[]) (mvT hZ93 (own_hw hw 42 rfl))) (own_hw hw 42 rfl) (own_hw hw 41 rfl) (own_hw hw 43 rfl) (own_hw hw 11 rfl) (by decide) (b := t93) (argsL := []) (rest := []) (own_slen l Z a0 hw z sf t93 vb93 _ _ 0 _ T93.heap n0 O93 hG Et93 Ft93 Ct93 At93) rfl Et93 (by rw [hml]; rfl) (lenOf own_pd13941 rfl) rfl (hb hby at_143) (W := 0) (Nat.le_of_eq rfl) (by decide) ?_
        intro v95 T95 L95 X95 q95
        obtain ⟨rfl, N95q, e95⟩ := q95
        have N95 := Fr.app N93 N95q
        show own_Go p e below _ T95 (mkF m 146 #[iv p1, iv p2, iv p3, iv p4, iv p5, iv 3, iv c1, iv c2, iv c3, iv c4, rv ca90, rv b91, rv t93, iv 2, iv 0, .unset] [(.int 0)])
        refine og_iload X95 hx (hb hby at_146) rfl ?_
        refine og_icY X95 hx 153 (hb hby at_148) (teq rfl).1 (by decide) (by decide) ?_
        refine og_iconst X95 hx (hb hby at_153) ?_
        refine own_newP X95 hx hZ93 (own_hw hw 8 rfl) e95 (hb hby at_154) (by decide) 4 (by decide) (by decide) (by decide) (by decide) ?_
        intro T96 h96 k96 b96 g96 X96 e96 E96 A96
        have ne_t93_b96 : t93 ≠ b96 := Nat.ne_of_lt (Nat.lt_of_lt_of_eq Et93.lt g96.symm)
        have ne_vb93_b96 : vb93 ≠ b96 := Nat.ne_of_lt (Nat.lt_of_lt_of_eq At93.lt g96.symm)
        have ge_b96 : n0 ≤ b96 := Nat.le_trans (own_oldle O93) (Nat.le_of_eq g96.symm)
        have hk96 := Nat.le_trans (Nat.le_refl _) E96.1
        have E_t93_96 := Et93.ext E96
        have F_t93_value_96 := Ft93.ext E96
        have F_t93_coder_96 := Ct93.ext E96
        have A_vb93_96 := At93.ext E96
        have C96 := C93.trans (CHr.ext E96 C93.1)
        have O96 := O93.ext E96
        have A_b96_96 : Arv Z h96 b96 k96 .char 4 [(.int (0 : Int32)), (.int (0 : Int32)), (.int (0 : Int32)), (.int (0 : Int32))] (.int (0 : Int32)) := A96
        show own_Go p e below _ T96 (mkF m 156 #[iv p1, iv p2, iv p3, iv p4, iv p5, iv 3, iv c1, iv c2, iv c3, iv c4, rv ca90, rv b91, rv t93, iv 2, iv 0, .unset] [(.ref b96)])
        refine og_dup X96 hx (hb hby at_156) rfl ?_
        refine og_iconst X96 hx (hb hby at_157) ?_
        refine og_iload X96 hx (hb hby at_158) rfl ?_
        refine own_stC X96 hx hZ93 e96 A_b96_96 ⟨by decide, by decide⟩ 0 rfl (by show 0 < 4; decide) (hb hby at_160) ?_
        intro T97 h97 X97 e97 W97 A97
        have hk97 := Nat.le_trans hk96 (Keep.of_wr W97).1
        have sf97 := (Safe.arv (EL := own_EL) hZ93.alike A_b96_96 (by decide))
        have C97 := C96.trans (CHr.wr W97 sf97 C96.1)
        have E_t93_97 := E_t93_96.wr W97
        have F_t93_value_97 := F_t93_value_96.other W97 (Or.inl ne_t93_b96)
        have F_t93_coder_97 := F_t93_coder_96.other W97 (Or.inl ne_t93_b96)
        have A_vb93_97 := A_vb93_96.other W97 ne_vb93_b96
        have O97 := O96.wr W97 ge_b96
        have N97 := Fr.snoc X97 N95 ge_b96
        have A_b96_97 : Arv Z h97 b96 k96 .char 4 [(.int c1), (.int (0 : Int32)), (.int (0 : Int32)), (.int (0 : Int32))] (.int (0 : Int32)) := (by have q := A97; rw [show nar .char c1 = c1 from own_ic _ hc1] at q; exact q)
        show own_Go p e below _ T97 (mkF m 161 #[iv p1, iv p2, iv p3, iv p4, iv p5, iv 3, iv c1, iv c2, iv c3, iv c4, rv ca90, rv b91, rv t93, iv 2, iv 0, .unset] [(.ref b96)])
        refine og_dup X97 hx (hb hby at_161) rfl ?_
        refine og_iconst X97 hx (hb hby at_162) ?_
        refine og_iload X97 hx (hb hby at_163) rfl ?_
        refine own_stC X97 hx hZ93 e97 A_b96_97 ⟨by decide, by decide⟩ 1 rfl (by show 1 < 4; decide) (hb hby at_165) ?_
        intro T98 h98 X98 e98 W98 A98
        have hk98 := Nat.le_trans hk97 (Keep.of_wr W98).1
        have sf98 := (Safe.arv (EL := own_EL) hZ93.alike A_b96_97 (by decide))
        have C98 := C97.trans (CHr.wr W98 sf98 C97.1)
        have E_t93_98 := E_t93_97.wr W98
        have F_t93_value_98 := F_t93_value_97.other W98 (Or.inl ne_t93_b96)
        have F_t93_coder_98 := F_t93_coder_97.other W98 (Or.inl ne_t93_b96)
        have A_vb93_98 := A_vb93_97.other W98 ne_vb93_b96
        have O98 := O97.wr W98 ge_b96
        have N98 := Fr.snoc X98 N97 ge_b96
        have A_b96_98 : Arv Z h98 b96 k96 .char 4 [(.int c1), (.int c2), (.int (0 : Int32)), (.int (0 : Int32))] (.int (0 : Int32)) := (by have q := A98; rw [show nar .char c2 = c2 from own_ic _ hc2] at q; exact q)
        show own_Go p e below _ T98 (mkF m 166 #[iv p1, iv p2, iv p3, iv p4, iv p5, iv 3, iv c1, iv c2, iv c3, iv c4, rv ca90, rv b91, rv t93, iv 2, iv 0, .unset] [(.ref b96)])
        refine og_dup X98 hx (hb hby at_166) rfl ?_
        refine og_iconst X98 hx (hb hby at_167) ?_
        refine og_iload X98 hx (hb hby at_168) rfl ?_
        refine own_stC X98 hx hZ93 e98 A_b96_98 ⟨by decide, by decide⟩ 2 rfl (by show 2 < 4; decide) (hb hby at_170) ?_
        intro T99 h99 X99 e99 W99 A99
        have hk99 := Nat.le_trans hk98 (Keep.of_wr W99).1
        have sf99 := (Safe.arv (EL := own_EL) hZ93.alike A_b96_98 (by decide))
        have C99 := C98.trans (CHr.wr W99 sf99 C98.1)
        have E_t93_99 := E_t93_98.wr W99
        have F_t93_value_99 := F_t93_value_98.other W99 (Or.inl ne_t93_b96)
        have F_t93_coder_99 := F_t93_coder_98.other W99 (Or.inl ne_t93_b96)
        have A_vb93_99 := A_vb93_98.other W99 ne_vb93_b96
        have O99 := O98.wr W99 ge_b96
        have N99 := Fr.snoc X99 N98 ge_b96
        have A_b96_99 : Arv Z h99 b96 k96 .char 4 [(.int c1), (.int c2), (.int c3), (.int (0 : Int32))] (.int (0 : Int32)) := (by have q := A99; rw [show nar .char c3 = c3 from own_ic _ hc3] at q; exact q)
        show own_Go p e below _ T99 (mkF m 171 #[iv p1, iv p2, iv p3, iv p4, iv p5, iv 3, iv c1, iv c2, iv c3, iv c4, rv ca90, rv b91, rv t93, iv 2, iv 0, .unset] [(.ref b96)])
        refine og_dup X99 hx (hb hby at_171) rfl ?_
        refine og_iconst X99 hx (hb hby at_172) ?_
        refine og_iload X99 hx (hb hby at_173) rfl ?_
        refine own_stC X99 hx hZ93 e99 A_b96_99 ⟨by decide, by decide⟩ 3 rfl (by show 3 < 4; decide) (hb hby at_175) ?_
        intro T100 h100 X100 e100 W100 A100
        have hk100 := Nat.le_trans hk99 (Keep.of_wr W100).1
        have sf100 := (Safe.arv (EL := own_EL) hZ93.alike A_b96_99 (by decide))
        have C100 := C99.trans (CHr.wr W100 sf100 C99.1)
        have E_t93_100 := E_t93_99.wr W100
        have F_t93_value_100 := F_t93_value_99.other W100 (Or.inl ne_t93_b96)
        have F_t93_coder_100 := F_t93_coder_99.other W100 (Or.inl ne_t93_b96)
        have A_vb93_100 := A_vb93_99.other W100 ne_vb93_b96
        have O100 := O99.wr W100 ge_b96
        have N100 := Fr.snoc X100 N99 ge_b96
        have A_b96_100 : Arv Z h100 b96 k96 .char 4 [(.int c1), (.int c2), (.int c3), (.int c4)] (.int (0 : Int32)) := (by have q := A100; rw [show nar .char c4 = c4 from own_ic _ hc4] at q; exact q)
        show own_Go p e below _ T100 (mkF m 176 #[iv p1, iv p2, iv p3, iv p4, iv p5, iv 3, iv c1, iv c2, iv c3, iv c4, rv ca90, rv b91, rv t93, iv 2, iv 0, .unset] [(.ref b96)])
        refine og_astore X100 hx #[iv p1, iv p2, iv p3, iv p4, iv p5, iv 3, iv c1, iv c2, iv c3, iv c4, rv ca90, rv b91, rv t93, iv 2, iv 0, rv b96] (hb hby at_176) rfl rfl ?_
        refine og_aload X100 hx (hb hby at_178) rfl rfl ?_
        refine og_iload X100 hx (hb hby at_180) rfl ?_
        refine og_iconst X100 hx (hb hby at_182) ?_
        refine og_aload X100 hx (hb hby at_183) rfl rfl ?_
        refine og_iload X100 hx (hb hby at_185) rfl ?_
        refine own_callS X100 hx hZ93 hown93 (own_hw hw 90 rfl) (own_hw hw 91 rfl) (own_hw hw 3 rfl) (own_hw hw 92 rfl) (by decide) (argsL := [(.ref t93), (.int 0), (.int 0), (.ref b96), (.int 2)]) (rest := []) (own_sm_0_0 l Z a0 hw t93 b96 2 h100 n0) e100 (by rw [hml]; rfl) (lenOf own_pd39901 rfl) rfl (hb hby at_187) (W := 0) (Nat.le_of_eq rfl) (by decide) ?_
        intro v101 T101 L101 X101 q101
        obtain ⟨rfl, N101q, e101⟩ := q101
        have N101 := Fr.app N100 N101q
        show own_Go p e below _ T101 (mkF m 190 #[iv p1, iv p2, iv p3, iv p4, iv p5, iv 3, iv c1, iv c2, iv c3, iv c4, rv ca90, rv b91, rv t93, iv 2, iv 0, rv b96] [(.int 1)])
        refine og_ifN X101 hx (hb hby at_190) (feq (by decide)).1 ?_
        refine og_aload X101 hx (hb hby at_193) rfl rfl ?_
        refine og_iload X101 hx (hb hby at_195) rfl ?_
        refine og_iconst X101 hx (hb hby at_197) ?_
        refine og_aload X101 hx (hb hby at_198) rfl rfl ?_
        refine og_iload X101 hx (hb hby at_200) rfl ?_
        refine own_callS X101 hx hZ93 hown93 (own_hw hw 90 rfl) (own_hw hw 91 rfl) (own_hw hw 3 rfl) (own_hw hw 92 rfl) (by decide) (argsL := [(.ref t93), (.int 0), (.int 1), (.ref b96), (.int 2)]) (rest := []) (own_sm_0_1 l Z a0 hw t93 b96 2 h100 n0) e101 (by rw [hml]; rfl) (lenOf own_pd39901 rfl) rfl (hb hby at_202) (W := 0) (Nat.le_of_eq rfl) (by decide) ?_
        intro v102 T102 L102 X102 q102
        obtain ⟨rfl, N102q, e102⟩ := q102
        have N102 := Fr.app N101 N102q
        show own_Go p e below _ T102 (mkF m 205 #[iv p1, iv p2, iv p3, iv p4, iv p5, iv 3, iv c1, iv c2, iv c3, iv c4, rv ca90, rv b91, rv t93, iv 2, iv 0, rv b96] [(.int 1)])
        refine og_ifN X102 hx (hb hby at_205) (feq (by decide)).1 ?_
        refine og_aload X102 hx (hb hby at_208) rfl rfl ?_
        refine og_iload X102 hx (hb hby at_210) rfl ?_
        refine og_iconst X102 hx (hb hby at_212) ?_
        refine og_aload X102 hx (hb hby at_213) rfl rfl ?_
        refine og_iload X102 hx (hb hby at_215) rfl ?_
        refine own_callS X102 hx hZ93 hown93 (own_hw hw 90 rfl) (own_hw hw 91 rfl) (own_hw hw 3 rfl) (own_hw hw 92 rfl) (by decide) (argsL := [(.ref t93), (.int 0), (.int 2), (.ref b96), (.int 2)]) (rest := []) (own_sm_0_2 l Z a0 hw t93 b96 2 h100 n0) e102 (by rw [hml]; rfl) (lenOf own_pd39901 rfl) rfl (hb hby at_217) (W := 0) (Nat.le_of_eq rfl) (by decide) ?_
        intro v103 T103 L103 X103 q103
        obtain ⟨rfl, N103q, e103⟩ := q103
        have N103 := Fr.app N102 N103q
        show own_Go p e below _ T103 (mkF m 220 #[iv p1, iv p2, iv p3, iv p4, iv p5, iv 3, iv c1, iv c2, iv c3, iv c4, rv ca90, rv b91, rv t93, iv 2, iv 0, rv b96] [(.int 1)])
        refine og_ifN X103 hx (hb hby at_220) (feq (by decide)).1 ?_
        refine og_aload X103 hx (hb hby at_223) rfl rfl ?_
        refine og_iload X103 hx (hb hby at_225) rfl ?_
        refine og_iconst X103 hx (hb hby at_227) ?_
        refine og_aload X103 hx (hb hby at_228) rfl rfl ?_
        refine og_iload X103 hx (hb hby at_230) rfl ?_
        refine own_callS X103 hx hZ93 hown93 (own_hw hw 90 rfl) (own_hw hw 91 rfl) (own_hw hw 3 rfl) (own_hw hw 92 rfl) (by decide) (argsL := [(.ref t93), (.int 0), (.int 3), (.ref b96), (.int 2)]) (rest := []) (own_sm_0_3 l Z a0 hw t93 b96 2 h100 n0) e103 (by rw [hml]; rfl) (lenOf own_pd39901 rfl) rfl (hb hby at_232) (W := 0) (Nat.le_of_eq rfl) (by decide) ?_
        intro v104 T104 L104 X104 q104
        obtain ⟨rfl, N104q, e104⟩ := q104
        have N104 := Fr.app N103 N104q
        show own_Go p e below _ T104 (mkF m 235 #[iv p1, iv p2, iv p3, iv p4, iv p5, iv 3, iv c1, iv c2, iv c3, iv c4, rv ca90, rv b91, rv t93, iv 2, iv 0, rv b96] [(.int 1)])
        refine og_ifN X104 hx (hb hby at_235) (feq (by decide)).1 ?_
        refine og_iconst X104 hx (hb hby at_238) ?_
        refine og_goto X104 hx 243 (hb hby at_239) (by decide) (by decide) ?_
        exact own_retIH X104 hx hret hlk (hb hby at_243) rfl (by simp) hZ93 (own_EW hw) C100 e104 hS93 hk100 (by decide) (by decide) (⟨rfl, N104⟩)
      intro tl94
      refine og_iload X93 hx (hb hby at_69) rfl ?_
      refine og_ifN X93 hx (hb hby at_71) (tlt (by decide)).2.2.2 ?_
      refine og_iload X93 hx (hb hby at_74) rfl ?_
      refine og_bipush X93 hx (hb hby at_76) ?_
      by_cases hc78 : c1 = 47
      · refine og_icN X93 hx (hb hby at_78) (teq hc78).2 ?_
        refine og_iconst X93 hx (hb hby at_81) ?_
        refine og_istore X93 hx #[iv p1, iv p2, iv p3, iv p4, iv p5, iv 3, iv c1, iv c2, iv c3, iv c4, rv ca90, rv b91, rv t93, iv 0, .unset, .unset] (hb hby at_82) rfl ?_
        refine og_iload X93 hx (hb hby at_84) rfl ?_
        refine og_iconst X93 hx (hb hby at_86) ?_
        refine og_icN X93 hx (hb hby at_87) (tlt (by decide)).2.2.2 ?_
        refine og_iload X93 hx (hb hby at_90) rfl ?_
        refine og_bipush X93 hx (hb hby at_92) ?_
        by_cases hc94 : c2 = 47
        · refine og_icN X93 hx (hb hby at_94) (teq hc94).2 ?_
          refine og_iconst X93 hx (hb hby at_97) ?_
          refine og_istore X93 hx #[iv p1, iv p2, iv p3, iv p4, iv p5, iv 3, iv c1, iv c2, iv c3, iv c4, rv ca90, rv b91, rv t93, iv 1, .unset, .unset] (hb hby at_98) rfl ?_
          exact tl94 _
        · refine og_icY X93 hx 100 (hb hby at_94) (feq hc94).2 (by decide) (by decide) ?_
          exact tl94 _
      · refine og_icY X93 hx 84 (hb hby at_78) (feq hc78).2 (by decide) (by decide) ?_
        refine og_iload X93 hx (hb hby at_84) rfl ?_
        refine og_iconst X93 hx (hb hby at_86) ?_
        refine og_icN X93 hx (hb hby at_87) (tlt (by decide)).2.2.2 ?_
        refine og_iload X93 hx (hb hby at_90) rfl ?_
        refine og_bipush X93 hx (hb hby at_92) ?_
        by_cases hc94 : c2 = 47
        · refine og_icN X93 hx (hb hby at_94) (teq hc94).2 ?_
          refine og_iconst X93 hx (hb hby at_97) ?_
          refine og_istore X93 hx #[iv p1, iv p2, iv p3, iv p4, iv p5, iv 3, iv c1, iv c2, iv c3, iv c4, rv ca90, rv b91, rv t93, iv 1, .unset, .unset] (hb hby at_98) rfl ?_
          exact tl94 _
        · refine og_icY X93 hx 100 (hb hby at_94) (feq hc94).2 (by decide) (by decide) ?_
          exact tl94 _
    · show own_Go p e below _ T4 (mkF m 35 #[iv p1, iv p2, iv p3, iv p4, iv p5, iv 3, iv c1, iv c2, iv c3, iv c4, .unset, .unset, .unset, .unset, .unset, .unset] [(.int 3)])
      refine og_iload X4 hx (hb hby at_35) rfl ?_
      refine og_iload X4 hx (hb hby at_37) rfl ?_
      refine og_iload X4 hx (hb hby at_39) rfl ?_
      refine og_iload X4 hx (hb hby at_41) rfl ?_
      refine own_callS X4 hx hZ hown (own_hw hw 5 rfl) (own_hw hw 6 rfl) (own_hw hw 3 rfl) (own_hw hw 7 rfl) (by decide) (argsL := [(.int 3), (.int c1), (.int c2), (.int c3), (.int c4)]) (rest := []) (own_mk3 l Z a0 hw c1 c2 c3 c4 h0 n0 hO hc1 hc2 hc3 hc4) e4 (by rw [hml]; rfl) (lenOf own_pd92197 rfl) rfl (hb hby at_43) (W := 0) (Nat.le_of_eq rfl) (by decide) ?_
      intro v105 T105 L105 X105 q105
      obtain ⟨ca105, k105, rfl, N105q, K105q, z105q, g105q, A105q⟩ := q105
      have N105 := Fr.app N4 N105q
      have hk105 := Nat.le_trans hk K105q.1
      have hs105 : ∀ x ∈ ([] : List Addr), Safe Z own_EL s.vm h0 x := sf0
      have C105 := C0.trans (CHr.keep K105q hs105 C0.1)
      have O105 := hO.keep K105q all0
      show own_Go p e below _ T105 (mkF m 46 #[iv p1, iv p2, iv p3, iv p4, iv p5, iv 3, iv c1, iv c2, iv c3, iv c4, .unset, .unset, .unset, .unset, .unset, .unset] [(.ref ca105)])
      refine og_astore X105 hx #[iv p1, iv p2, iv p3, iv p4, iv p5, iv 3, iv c1, iv c2, iv c3, iv c4, rv ca105, .unset, .unset, .unset, .unset, .unset] (hb hby at_46) rfl rfl ?_
      refine own_newO X105 hx hZ hown (own_hw hw 9 rfl) (own_hw hw 10 rfl) (own_hw hw 11 rfl) rfl (hb hby at_48) (by decide) (by decide) ?_
      intro T106 h106 b106 g106 X106 e106 E106 A106 D106
      have ne_ca105_b106 : ca105 ≠ b106 := Nat.ne_of_lt (Nat.lt_of_lt_of_eq A105q.lt g106.symm)
      have ge_b106 : n0 ≤ b106 := Nat.le_trans (own_oldle O105) (Nat.le_of_eq g106.symm)
      have S_b106 : Safe Z own_EL s.vm T105.heap b106 := Safe.new (Nat.le_of_eq g106.symm)
      have hk106 := Nat.le_trans hk105 E106.1
      have A_ca105_106 := A105q.ext E106
      have S_b106_106 := Safe.ext E106 C105.1 S_b106
      have C106 := C105.trans (CHr.ext E106 C105.1)
      have O106 := O105.ext E106
      have F_b106_value_106 : Fld Z h106 b106 "java/lang/String" "value" "[B" .null := D106 (Or.inr (own_hw hw 24 rfl)) (ty := (.array .byte)) (by decide)
      have F_b106_coder_106 : Fld Z h106 b106 "java/lang/String" "coder" "B" (.int 0) := D106 (Or.inr (own_hw hw 25 rfl)) (ty := .byte) (by decide)
      show own_Go p e below _ T106 (mkF m 51 #[iv p1, iv p2, iv p3, iv p4, iv p5, iv 3, iv c1, iv c2, iv c3, iv c4, rv ca105, .unset, .unset, .unset, .unset, .unset] [(.ref b106)])
      refine og_dup X106 hx (hb hby at_51) rfl ?_
      refine og_aload X106 hx (hb hby at_52) rfl rfl ?_
      have hws : ∀ d ∈ StrChars.Road.words, d.before a0 Z = true := fun d hd => hw d ((by decide +kernel : ∀ d ∈ StrChars.Road.words, d ∈ tables_1) d hd)
      have hp107 : ∀ c ∈ ([c1, c2, c3] : List Int32), ¬ c < 0 ∧ ¬ (255 : Int32) < c := by
        intro c hc; simp only [List.mem_cons, List.not_mem_nil, or_false] at hc; rcases hc with rfl | rfl | rfl <;> assumption
      refine own_callNB X106 hx hZ hown (own_hw hw 12 rfl) (own_hw hw 13 rfl) (own_hw hw 14 rfl) (own_hw hw 11 rfl) (by decide) rfl (b := b106) (argsL := [(.ref ca105)]) (rest := [(.ref b106)]) (StrChars.Road.backV (W := 1) hZ hws (kI := 4) (own_hw hw 10 rfl) (cs := ([c1, c2, c3] : List Int32)) (bs := (([c1, c2, c3] : List Int32)).map (fun c => c.toInt8.toInt32)) (n := 3) ge_b106 (own_oldle O106) A106 F_b106_value_106 F_b106_coder_106 A_ca105_106 (SC.ext O106.2) hz rfl rfl (by decide) (by decide) hp107 rfl (by decide) (by decide)) e106 (by rw [hml]; rfl) (lenOf own_pd46664 rfl) rfl (hb hby at_54) (Nat.le_of_eq rfl) (by decide) (by decide) ?_
      intro v107 T107 L107 X107 q107
      obtain ⟨rfl, N107q, K107q, E107q, C107q, vb107, kb107, ge107, z107q, ne107q, V107q, A107q⟩ := q107
      have N107 := Fr.app N105 N107q
      have ne_b106_vb107 : b106 ≠ vb107 := Nat.ne_of_lt (Nat.lt_of_lt_of_le A106.lt z107q)
      have ne_ca105_vb107 : ca105 ≠ vb107 := Nat.ne_of_lt (Nat.lt_of_lt_of_le A_ca105_106.lt z107q)
      have hk107 := Nat.le_trans hk106 K107q.1
      have hs107 : ∀ x ∈ ([b106] : List Addr), Safe Z own_EL s.vm h106 x := (sfS S_b106_106 sf0)
      have C107 := C106.trans (CHr.keep K107q hs107 C106.1)
      have A_ca105_107 := A_ca105_106.keep K107q (ninS ne_ca105_b106 nin0)
      have S_b106_107 := Safe.keep K107q hs107 C106.1 S_b106_106
      have E_b106_107 := A106.keep K107q
      have O107 := O106.keep K107q (allS ge_b106 all0)
      show own_Go p e below _ T107 (mkF m 57 #[iv p1, iv p2, iv p3, iv p4, iv p5, iv 3, iv c1, iv c2, iv c3, iv c4, rv ca105, .unset, .unset, .unset, .unset, .unset] [(.ref b106)])
      refine og_astore X107 hx #[iv p1, iv p2, iv p3, iv p4, iv p5, iv 3, iv c1, iv c2, iv c3, iv c4, rv ca105, rv b106, .unset, .unset, .unset, .unset] (hb hby at_57) rfl rfl ?_
      refine og_aload X107 hx (hb hby at_59) rfl rfl ?_
      refine own_callS X107 hx hZ hown (own_hw hw 30 rfl) (own_hw hw 31 rfl) (own_hw hw 32 rfl) (own_hw hw 33 rfl) (by decide) (argsL := [(.ref b106)]) (rest := []) (own_po_3_1 l Z a0 hw z sf b106 vb107 _ _ c1 c2 c3 T107.heap n0 O107 hG hc3 m2 k1 E_b106_107 V107q C107q A107q) rfl (by rw [hml]; rfl) (lenOf own_pd11897 rfl) rfl (hb hby at_61) (W := 0) (Nat.le_of_eq rfl) (by decide) ?_
      intro v108 T108 L108 X108 q108
      obtain ⟨t108, vb108, k108, rfl, N108q, K108q, zt108, gt108, zb108, gb108, ne_t108_vb108, Et108, Ft108, Ct108, At108⟩ := q108
      have N108 := Fr.app N107 N108q
      have ne_b106_t108 : b106 ≠ t108 := Nat.ne_of_lt (Nat.lt_of_lt_of_le E_b106_107.lt zt108)
      have ne_vb107_t108 : vb107 ≠ t108 := Nat.ne_of_lt (Nat.lt_of_lt_of_le A107q.lt zt108)
      have ne_b106_vb108 : b106 ≠ vb108 := Nat.ne_of_lt (Nat.lt_of_lt_of_le E_b106_107.lt zb108)
      have ne_vb107_vb108 : vb107 ≠ vb108 := Nat.ne_of_lt (Nat.lt_of_lt_of_le A107q.lt zb108)
      have hk108 := Nat.le_trans hk107 K108q.1
      have hs108 : ∀ x ∈ ([] : List Addr), Safe Z own_EL s.vm T107.heap x := sf0
      have C108 := C107.trans (CHr.keep K108q hs108 C107.1)
      have E_b106_108 := E_b106_107.keep K108q
      have F_b106_value_108 := V107q.keep K108q nin0
      have F_b106_coder_108 := C107q.keep K108q nin0
      have A_vb107_108 := A107q.keep K108q nin0
      have O108 := O107.keep K108q all0
      show own_Go p e below _ T108 (mkF m 64 #[iv p1, iv p2, iv p3, iv p4, iv p5, iv 3, iv c1, iv c2, iv c3, iv c4, rv ca105, rv b106, .unset, .unset, .unset, .unset] [(.ref t108)])
      refine og_astore X108 hx #[iv p1, iv p2, iv p3, iv p4, iv p5, iv 3, iv c1, iv c2, iv c3, iv c4, rv ca105, rv b106, rv t108, .unset, .unset, .unset] (hb hby at_64) rfl rfl ?_
      refine og_iconst X108 hx (hb hby at_66) ?_
      refine og_istore X108 hx #[iv p1, iv p2, iv p3, iv p4, iv p5, iv 3, iv c1, iv c2, iv c3, iv c4, rv ca105, rv b106, rv t108, iv (-1), .unset, .unset] (hb hby at_67) rfl ?_
      refine own_cut (F := fun v109 : Int32 => (mkF m 84 #[iv p1, iv p2, iv p3, iv p4, iv p5, iv 3, iv c1, iv c2, iv c3, iv c4, rv ca105, rv b106, rv t108, iv v109, .unset, .unset] [])) ?_ ?_
      · intro v109
        show own_Go p e below _ T108 (mkF m 84 #[iv p1, iv p2, iv p3, iv p4, iv p5, iv 3, iv c1, iv c2, iv c3, iv c4, rv ca105, rv b106, rv t108, iv v109, .unset, .unset] [])
        refine og_iload X108 hx (hb hby at_84) rfl ?_
        refine og_iconst X108 hx (hb hby at_86) ?_
        refine og_icN X108 hx (hb hby at_87) (tlt (by decide)).2.2.2 ?_
        refine og_iload X108 hx (hb hby at_90) rfl ?_
        refine og_bipush X108 hx (hb hby at_92) ?_
        refine og_icN X108 hx (hb hby at_94) (teq k1).2 ?_
        refine og_iconst X108 hx (hb hby at_97) ?_
        refine og_istore X108 hx #[iv p1, iv p2, iv p3, iv p4, iv p5, iv 3, iv c1, iv c2, iv c3, iv c4, rv ca105, rv b106, rv t108, iv 1, .unset, .unset] (hb hby at_98) rfl ?_
        refine og_iload X108 hx (hb hby at_100) rfl ?_
        refine og_iconst X108 hx (hb hby at_102) ?_
        refine og_icN X108 hx (hb hby at_103) (tlt (by decide)).2.2.2 ?_
        refine og_iload X108 hx (hb hby at_106) rfl ?_
        refine og_bipush X108 hx (hb hby at_108) ?_
        refine og_icY X108 hx 116 (hb hby at_110) (feq m2).2 (by decide) (by decide) ?_
        refine og_iload X108 hx (hb hby at_116) rfl ?_
        refine og_iconst X108 hx (hb hby at_118) ?_
        refine og_icY X108 hx 132 (hb hby at_119) (flt (by decide)).2.2.2 (by decide) (by decide) ?_
        refine og_iload X108 hx (hb hby at_132) rfl ?_
        refine og_iload X108 hx (hb hby at_134) rfl ?_
        refine og_isub X108 hx (hb hby at_136) ?_
        refine og_iconst X108 hx (hb hby at_137) ?_
        refine og_isub X108 hx (hb hby at_138) ?_
        refine og_istore X108 hx #[iv p1, iv p2, iv p3, iv p4, iv p5, iv 3, iv c1, iv c2, iv c3, iv c4, rv ca105, rv b106, rv t108, iv 1, iv 1, .unset] (hb hby at_139) rfl ?_
        refine og_aload X108 hx (hb hby at_141) rfl rfl ?_
        refine own_callV X108 hx hZ hown (own_hw hw 89 rfl) (own_hw hw 40 rfl) (notFace_of_selects (args := #[]) (mvT hZ (own_hw hw 42 rfl))) (own_hw hw 42 rfl) (own_hw hw 41 rfl) (own_hw hw 43 rfl) (own_hw hw 11 rfl) (by decide) (b := t108) (argsL := []) (rest := []) (own_slen l Z a0 hw z sf t108 vb108 _ _ 1 _ T108.heap n0 O108 hG Et108 Ft108 Ct108 At108) rfl Et108 (by rw [hml]; rfl) (lenOf own_pd13941 rfl) rfl (hb hby at_143) (W := 0) (Nat.le_of_eq rfl) (by decide) ?_
        intro v110 T110 L110 X110 q110
        obtain ⟨rfl, N110q, e110⟩ := q110
        have N110 := Fr.app N108 N110q
        show own_Go p e below _ T110 (mkF m 146 #[iv p1, iv p2, iv p3, iv p4, iv p5, iv 3, iv c1, iv c2, iv c3, iv c4, rv ca105, rv b106, rv t108, iv 1, iv 1, .unset] [(.int 1)])
        refine og_iload X110 hx (hb hby at_146) rfl ?_
        refine og_icY X110 hx 153 (hb hby at_148) (teq rfl).1 (by decide) (by decide) ?_
        refine og_iconst X110 hx (hb hby at_153) ?_
        refine own_newP X110 hx hZ (own_hw hw 8 rfl) e110 (hb hby at_154) (by decide) 4 (by decide) (by decide) (by decide) (by decide) ?_
        intro T111 h111 k111 b111 g111 X111 e111 E111 A111
        have ne_t108_b111 : t108 ≠ b111 := Nat.ne_of_lt (Nat.lt_of_lt_of_eq Et108.lt g111.symm)
        have ne_vb108_b111 : vb108 ≠ b111 := Nat.ne_of_lt (Nat.lt_of_lt_of_eq At108.lt g111.symm)
        have ge_b111 : n0 ≤ b111 := Nat.le_trans (own_oldle O108) (Nat.le_of_eq g111.symm)
        have hk111 := Nat.le_trans hk108 E111.1
        have E_t108_111 := Et108.ext E111
        have F_t108_value_111 := Ft108.ext E111
        have F_t108_coder_111 := Ct108.ext E111
        have A_vb108_111 := At108.ext E111
        have C111 := C108.trans (CHr.ext E111 C108.1)
        have O111 := O108.ext E111
        have A_b111_111 : Arv Z h111 b111 k111 .char 4 [(.int (0 : Int32)), (.int (0 : Int32)), (.int (0 : Int32)), (.int (0 : Int32))] (.int (0 : Int32)) := A111
        show own_Go p e below _ T111 (mkF m 156 #[iv p1, iv p2, iv p3, iv p4, iv p5, iv 3, iv c1, iv c2, iv c3, iv c4, rv ca105, rv b106, rv t108, iv 1, iv 1, .unset] [(.ref b111)])
        refine og_dup X111 hx (hb hby at_156) rfl ?_
        refine og_iconst X111 hx (hb hby at_157) ?_
        refine og_iload X111 hx (hb hby at_158) rfl ?_
        refine own_stC X111 hx hZ e111 A_b111_111 ⟨by decide, by decide⟩ 0 rfl (by show 0 < 4; decide) (hb hby at_160) ?_
        intro T112 h112 X112 e112 W112 A112
        have hk112 := Nat.le_trans hk111 (Keep.of_wr W112).1
        have sf112 := (Safe.arv (EL := own_EL) hZ.alike A_b111_111 (by decide))
        have C112 := C111.trans (CHr.wr W112 sf112 C111.1)
        have E_t108_112 := E_t108_111.wr W112
        have F_t108_value_112 := F_t108_value_111.other W112 (Or.inl ne_t108_b111)
        have F_t108_coder_112 := F_t108_coder_111.other W112 (Or.inl ne_t108_b111)
        have A_vb108_112 := A_vb108_111.other W112 ne_vb108_b111
        have O112 := O111.wr W112 ge_b111
        have N112 := Fr.snoc X112 N110 ge_b111
        have A_b111_112 : Arv Z h112 b111 k111 .char 4 [(.int c1), (.int (0 : Int32)), (.int (0 : Int32)), (.int (0 : Int32))] (.int (0 : Int32)) := (by have q := A112; rw [show nar .char c1 = c1 from own_ic _ hc1] at q; exact q)
        show own_Go p e below _ T112 (mkF m 161 #[iv p1, iv p2, iv p3, iv p4, iv p5, iv 3, iv c1, iv c2, iv c3, iv c4, rv ca105, rv b106, rv t108, iv 1, iv 1, .unset] [(.ref b111)])
        refine og_dup X112 hx (hb hby at_161) rfl ?_
        refine og_iconst X112 hx (hb hby at_162) ?_
        refine og_iload X112 hx (hb hby at_163) rfl ?_
        refine own_stC X112 hx hZ e112 A_b111_112 ⟨by decide, by decide⟩ 1 rfl (by show 1 < 4; decide) (hb hby at_165) ?_
        intro T113 h113 X113 e113 W113 A113
        have hk113 := Nat.le_trans hk112 (Keep.of_wr W113).1
        have sf113 := (Safe.arv (EL := own_EL) hZ.alike A_b111_112 (by decide))
        have C113 := C112.trans (CHr.wr W113 sf113 C112.1)
        have E_t108_113 := E_t108_112.wr W113
        have F_t108_value_113 := F_t108_value_112.other W113 (Or.inl ne_t108_b111)
        have F_t108_coder_113 := F_t108_coder_112.other W113 (Or.inl ne_t108_b111)
        have A_vb108_113 := A_vb108_112.other W113 ne_vb108_b111
        have O113 := O112.wr W113 ge_b111
        have N113 := Fr.snoc X113 N112 ge_b111
        have A_b111_113 : Arv Z h113 b111 k111 .char 4 [(.int c1), (.int c2), (.int (0 : Int32)), (.int (0 : Int32))] (.int (0 : Int32)) := (by have q := A113; rw [show nar .char c2 = c2 from own_ic _ hc2] at q; exact q)
        show own_Go p e below _ T113 (mkF m 166 #[iv p1, iv p2, iv p3, iv p4, iv p5, iv 3, iv c1, iv c2, iv c3, iv c4, rv ca105, rv b106, rv t108, iv 1, iv 1, .unset] [(.ref b111)])
        refine og_dup X113 hx (hb hby at_166) rfl ?_
        refine og_iconst X113 hx (hb hby at_167) ?_
        refine og_iload X113 hx (hb hby at_168) rfl ?_
        refine own_stC X113 hx hZ e113 A_b111_113 ⟨by decide, by decide⟩ 2 rfl (by show 2 < 4; decide) (hb hby at_170) ?_
        intro T114 h114 X114 e114 W114 A114
        have hk114 := Nat.le_trans hk113 (Keep.of_wr W114).1
        have sf114 := (Safe.arv (EL := own_EL) hZ.alike A_b111_113 (by decide))
        have C114 := C113.trans (CHr.wr W114 sf114 C113.1)
        have E_t108_114 := E_t108_113.wr W114
        have F_t108_value_114 := F_t108_value_113.other W114 (Or.inl ne_t108_b111)
        have F_t108_coder_114 := F_t108_coder_113.other W114 (Or.inl ne_t108_b111)
        have A_vb108_114 := A_vb108_113.other W114 ne_vb108_b111
        have O114 := O113.wr W114 ge_b111
        have N114 := Fr.snoc X114 N113 ge_b111
        have A_b111_114 : Arv Z h114 b111 k111 .char 4 [(.int c1), (.int c2), (.int c3), (.int (0 : Int32))] (.int (0 : Int32)) := (by have q := A114; rw [show nar .char c3 = c3 from own_ic _ hc3] at q; exact q)
        show own_Go p e below _ T114 (mkF m 171 #[iv p1, iv p2, iv p3, iv p4, iv p5, iv 3, iv c1, iv c2, iv c3, iv c4, rv ca105, rv b106, rv t108, iv 1, iv 1, .unset] [(.ref b111)])
        refine og_dup X114 hx (hb hby at_171) rfl ?_
        refine og_iconst X114 hx (hb hby at_172) ?_
        refine og_iload X114 hx (hb hby at_173) rfl ?_
        refine own_stC X114 hx hZ e114 A_b111_114 ⟨by decide, by decide⟩ 3 rfl (by show 3 < 4; decide) (hb hby at_175) ?_
        intro T115 h115 X115 e115 W115 A115
        have hk115 := Nat.le_trans hk114 (Keep.of_wr W115).1
        have sf115 := (Safe.arv (EL := own_EL) hZ.alike A_b111_114 (by decide))
        have C115 := C114.trans (CHr.wr W115 sf115 C114.1)
        have E_t108_115 := E_t108_114.wr W115
        have F_t108_value_115 := F_t108_value_114.other W115 (Or.inl ne_t108_b111)
        have F_t108_coder_115 := F_t108_coder_114.other W115 (Or.inl ne_t108_b111)
        have A_vb108_115 := A_vb108_114.other W115 ne_vb108_b111
        have O115 := O114.wr W115 ge_b111
        have N115 := Fr.snoc X115 N114 ge_b111
        have A_b111_115 : Arv Z h115 b111 k111 .char 4 [(.int c1), (.int c2), (.int c3), (.int c4)] (.int (0 : Int32)) := (by have q := A115; rw [show nar .char c4 = c4 from own_ic _ hc4] at q; exact q)
        show own_Go p e below _ T115 (mkF m 176 #[iv p1, iv p2, iv p3, iv p4, iv p5, iv 3, iv c1, iv c2, iv c3, iv c4, rv ca105, rv b106, rv t108, iv 1, iv 1, .unset] [(.ref b111)])
        refine og_astore X115 hx #[iv p1, iv p2, iv p3, iv p4, iv p5, iv 3, iv c1, iv c2, iv c3, iv c4, rv ca105, rv b106, rv t108, iv 1, iv 1, rv b111] (hb hby at_176) rfl rfl ?_
        refine og_aload X115 hx (hb hby at_178) rfl rfl ?_
        refine og_iload X115 hx (hb hby at_180) rfl ?_
        refine og_iconst X115 hx (hb hby at_182) ?_
        refine og_aload X115 hx (hb hby at_183) rfl rfl ?_
        refine og_iload X115 hx (hb hby at_185) rfl ?_
        refine own_callS X115 hx hZ hown (own_hw hw 90 rfl) (own_hw hw 91 rfl) (own_hw hw 3 rfl) (own_hw hw 92 rfl) (by decide) (argsL := [(.ref t108), (.int 1), (.int 0), (.ref b111), (.int 1)]) (rest := []) (own_sm_1_0_1 l Z a0 hw z sf t108 vb108 _ _ b111 _ _ c1 c2 c3 c4 h115 n0 O115 hG hc3 E_t108_115 F_t108_value_115 F_t108_coder_115 A_vb108_115 A_b111_115) e115 (by rw [hml]; rfl) (lenOf own_pd39901 rfl) rfl (hb hby at_187) (W := 0) (Nat.le_of_eq rfl) (by decide) ?_
        intro v116 T116 L116 X116 q116
        obtain ⟨rfl, N116q, e116⟩ := q116
        have N116 := Fr.app N115 N116q
        show own_Go p e below _ T116 (mkF m 190 #[iv p1, iv p2, iv p3, iv p4, iv p5, iv 3, iv c1, iv c2, iv c3, iv c4, rv ca105, rv b106, rv t108, iv 1, iv 1, rv b111] [(.int 1)])
        refine og_ifN X116 hx (hb hby at_190) (feq (by decide)).1 ?_
        refine og_aload X116 hx (hb hby at_193) rfl rfl ?_
        refine og_iload X116 hx (hb hby at_195) rfl ?_
        refine og_iconst X116 hx (hb hby at_197) ?_
        refine og_aload X116 hx (hb hby at_198) rfl rfl ?_
        refine og_iload X116 hx (hb hby at_200) rfl ?_
        refine own_callS X116 hx hZ hown (own_hw hw 90 rfl) (own_hw hw 91 rfl) (own_hw hw 3 rfl) (own_hw hw 92 rfl) (by decide) (argsL := [(.ref t108), (.int 1), (.int 1), (.ref b111), (.int 1)]) (rest := []) (own_sm_1_1 l Z a0 hw t108 b111 1 h115 n0) e116 (by rw [hml]; rfl) (lenOf own_pd39901 rfl) rfl (hb hby at_202) (W := 0) (Nat.le_of_eq rfl) (by decide) ?_
        intro v117 T117 L117 X117 q117
        obtain ⟨rfl, N117q, e117⟩ := q117
        have N117 := Fr.app N116 N117q
        show own_Go p e below _ T117 (mkF m 205 #[iv p1, iv p2, iv p3, iv p4, iv p5, iv 3, iv c1, iv c2, iv c3, iv c4, rv ca105, rv b106, rv t108, iv 1, iv 1, rv b111] [(.int 1)])
        refine og_ifN X117 hx (hb hby at_205) (feq (by decide)).1 ?_
        refine og_aload X117 hx (hb hby at_208) rfl rfl ?_
        refine og_iload X117 hx (hb hby at_210) rfl ?_
        refine og_iconst X117 hx (hb hby at_212) ?_
        refine og_aload X117 hx (hb hby at_213) rfl rfl ?_
        refine og_iload X117 hx (hb hby at_215) rfl ?_
        refine own_callS X117 hx hZ hown (own_hw hw 90 rfl) (own_hw hw 91 rfl) (own_hw hw 3 rfl) (own_hw hw 92 rfl) (by decide) (argsL := [(.ref t108), (.int 1), (.int 2), (.ref b111), (.int 1)]) (rest := []) (own_sm_1_2 l Z a0 hw t108 b111 1 h115 n0) e117 (by rw [hml]; rfl) (lenOf own_pd39901 rfl) rfl (hb hby at_217) (W := 0) (Nat.le_of_eq rfl) (by decide) ?_
        intro v118 T118 L118 X118 q118
        obtain ⟨rfl, N118q, e118⟩ := q118
        have N118 := Fr.app N117 N118q
        show own_Go p e below _ T118 (mkF m 220 #[iv p1, iv p2, iv p3, iv p4, iv p5, iv 3, iv c1, iv c2, iv c3, iv c4, rv ca105, rv b106, rv t108, iv 1, iv 1, rv b111] [(.int 1)])
        refine og_ifN X118 hx (hb hby at_220) (feq (by decide)).1 ?_
        refine og_aload X118 hx (hb hby at_223) rfl rfl ?_
        refine og_iload X118 hx (hb hby at_225) rfl ?_
        refine og_iconst X118 hx (hb hby at_227) ?_
        refine og_aload X118 hx (hb hby at_228) rfl rfl ?_
        refine og_iload X118 hx (hb hby at_230) rfl ?_
        refine own_callS X118 hx hZ hown (own_hw hw 90 rfl) (own_hw hw 91 rfl) (own_hw hw 3 rfl) (own_hw hw 92 rfl) (by decide) (argsL := [(.ref t108), (.int 1), (.int 3), (.ref b111), (.int 1)]) (rest := []) (own_sm_1_3 l Z a0 hw t108 b111 1 h115 n0) e118 (by rw [hml]; rfl) (lenOf own_pd39901 rfl) rfl (hb hby at_232) (W := 0) (Nat.le_of_eq rfl) (by decide) ?_
        intro v119 T119 L119 X119 q119
        obtain ⟨rfl, N119q, e119⟩ := q119
        have N119 := Fr.app N118 N119q
        show own_Go p e below _ T119 (mkF m 235 #[iv p1, iv p2, iv p3, iv p4, iv p5, iv 3, iv c1, iv c2, iv c3, iv c4, rv ca105, rv b106, rv t108, iv 1, iv 1, rv b111] [(.int 1)])
        refine og_ifN X119 hx (hb hby at_235) (feq (by decide)).1 ?_
        refine og_iconst X119 hx (hb hby at_238) ?_
        refine og_goto X119 hx 243 (hb hby at_239) (by decide) (by decide) ?_
        exact own_retIH X119 hx hret hlk (hb hby at_243) rfl (by simp) hZ (own_EW hw) C115 e119 hS hk115 (by decide) (by decide) (⟨rfl, N119⟩)
      intro tl109
      refine og_iload X108 hx (hb hby at_69) rfl ?_
      refine og_ifN X108 hx (hb hby at_71) (tlt (by decide)).2.2.2 ?_
      refine og_iload X108 hx (hb hby at_74) rfl ?_
      refine og_bipush X108 hx (hb hby at_76) ?_
      by_cases hc78 : c1 = 47
      · refine og_icN X108 hx (hb hby at_78) (teq hc78).2 ?_
        refine og_iconst X108 hx (hb hby at_81) ?_
        refine og_istore X108 hx #[iv p1, iv p2, iv p3, iv p4, iv p5, iv 3, iv c1, iv c2, iv c3, iv c4, rv ca105, rv b106, rv t108, iv 0, .unset, .unset] (hb hby at_82) rfl ?_
        exact tl109 _
      · refine og_icY X108 hx 84 (hb hby at_78) (feq hc78).2 (by decide) (by decide) ?_
        exact tl109 _
    · show own_Go p e below _ T4 (mkF m 35 #[iv p1, iv p2, iv p3, iv p4, iv p5, iv 3, iv c1, iv c2, iv c3, iv c4, .unset, .unset, .unset, .unset, .unset, .unset] [(.int 3)])
      refine og_iload X4 hx (hb hby at_35) rfl ?_
      refine og_iload X4 hx (hb hby at_37) rfl ?_
      refine og_iload X4 hx (hb hby at_39) rfl ?_
      refine og_iload X4 hx (hb hby at_41) rfl ?_
      refine own_callS X4 hx hZ hown (own_hw hw 5 rfl) (own_hw hw 6 rfl) (own_hw hw 3 rfl) (own_hw hw 7 rfl) (by decide) (argsL := [(.int 3), (.int c1), (.int c2), (.int c3), (.int c4)]) (rest := []) (own_mk3 l Z a0 hw c1 c2 c3 c4 h0 n0 hO hc1 hc2 hc3 hc4) e4 (by rw [hml]; rfl) (lenOf own_pd92197 rfl) rfl (hb hby at_43) (W := 0) (Nat.le_of_eq rfl) (by decide) ?_
      intro v120 T120 L120 X120 q120
      obtain ⟨ca120, k120, rfl, N120q, K120q, z120q, g120q, A120q⟩ := q120
      have N120 := Fr.app N4 N120q
      have hk120 := Nat.le_trans hk K120q.1
      have hs120 : ∀ x ∈ ([] : List Addr), Safe Z own_EL s.vm h0 x := sf0
      have C120 := C0.trans (CHr.keep K120q hs120 C0.1)
      have O120 := hO.keep K120q all0
      show own_Go p e below _ T120 (mkF m 46 #[iv p1, iv p2, iv p3, iv p4, iv p5, iv 3, iv c1, iv c2, iv c3, iv c4, .unset, .unset, .unset, .unset, .unset, .unset] [(.ref ca120)])
      refine og_astore X120 hx #[iv p1, iv p2, iv p3, iv p4, iv p5, iv 3, iv c1, iv c2, iv c3, iv c4, rv ca120, .unset, .unset, .unset, .unset, .unset] (hb hby at_46) rfl rfl ?_
      refine own_newO X120 hx hZ hown (own_hw hw 9 rfl) (own_hw hw 10 rfl) (own_hw hw 11 rfl) rfl (hb hby at_48) (by decide) (by decide) ?_
      intro T121 h121 b121 g121 X121 e121 E121 A121 D121
      have ne_ca120_b121 : ca120 ≠ b121 := Nat.ne_of_lt (Nat.lt_of_lt_of_eq A120q.lt g121.symm)
      have ge_b121 : n0 ≤ b121 := Nat.le_trans (own_oldle O120) (Nat.le_of_eq g121.symm)
      have S_b121 : Safe Z own_EL s.vm T120.heap b121 := Safe.new (Nat.le_of_eq g121.symm)
      have hk121 := Nat.le_trans hk120 E121.1
      have A_ca120_121 := A120q.ext E121
      have S_b121_121 := Safe.ext E121 C120.1 S_b121
      have C121 := C120.trans (CHr.ext E121 C120.1)
      have O121 := O120.ext E121
      have F_b121_value_121 : Fld Z h121 b121 "java/lang/String" "value" "[B" .null := D121 (Or.inr (own_hw hw 24 rfl)) (ty := (.array .byte)) (by decide)
      have F_b121_coder_121 : Fld Z h121 b121 "java/lang/String" "coder" "B" (.int 0) := D121 (Or.inr (own_hw hw 25 rfl)) (ty := .byte) (by decide)
      show own_Go p e below _ T121 (mkF m 51 #[iv p1, iv p2, iv p3, iv p4, iv p5, iv 3, iv c1, iv c2, iv c3, iv c4, rv ca120, .unset, .unset, .unset, .unset, .unset] [(.ref b121)])
      refine og_dup X121 hx (hb hby at_51) rfl ?_
      refine og_aload X121 hx (hb hby at_52) rfl rfl ?_
      have hws : ∀ d ∈ StrChars.Road.words, d.before a0 Z = true := fun d hd => hw d ((by decide +kernel : ∀ d ∈ StrChars.Road.words, d ∈ tables_1) d hd)
      have hp122 : ∀ c ∈ ([c1, c2, c3] : List Int32), ¬ c < 0 ∧ ¬ (255 : Int32) < c := by
        intro c hc; simp only [List.mem_cons, List.not_mem_nil, or_false] at hc; rcases hc with rfl | rfl | rfl <;> assumption
      refine own_callNB X121 hx hZ hown (own_hw hw 12 rfl) (own_hw hw 13 rfl) (own_hw hw 14 rfl) (own_hw hw 11 rfl) (by decide) rfl (b := b121) (argsL := [(.ref ca120)]) (rest := [(.ref b121)]) (StrChars.Road.backV (W := 1) hZ hws (kI := 4) (own_hw hw 10 rfl) (cs := ([c1, c2, c3] : List Int32)) (bs := (([c1, c2, c3] : List Int32)).map (fun c => c.toInt8.toInt32)) (n := 3) ge_b121 (own_oldle O121) A121 F_b121_value_121 F_b121_coder_121 A_ca120_121 (SC.ext O121.2) hz rfl rfl (by decide) (by decide) hp122 rfl (by decide) (by decide)) e121 (by rw [hml]; rfl) (lenOf own_pd46664 rfl) rfl (hb hby at_54) (Nat.le_of_eq rfl) (by decide) (by decide) ?_
      intro v122 T122 L122 X122 q122
      obtain ⟨rfl, N122q, K122q, E122q, C122q, vb122, kb122, ge122, z122q, ne122q, V122q, A122q⟩ := q122
      have N122 := Fr.app N120 N122q
      have ne_b121_vb122 : b121 ≠ vb122 := Nat.ne_of_lt (Nat.lt_of_lt_of_le A121.lt z122q)
      have ne_ca120_vb122 : ca120 ≠ vb122 := Nat.ne_of_lt (Nat.lt_of_lt_of_le A_ca120_121.lt z122q)
      have hk122 := Nat.le_trans hk121 K122q.1
      have hs122 : ∀ x ∈ ([b121] : List Addr), Safe Z own_EL s.vm h121 x := (sfS S_b121_121 sf0)
      have C122 := C121.trans (CHr.keep K122q hs122 C121.1)
      have A_ca120_122 := A_ca120_121.keep K122q (ninS ne_ca120_b121 nin0)
      have S_b121_122 := Safe.keep K122q hs122 C121.1 S_b121_121
      have E_b121_122 := A121.keep K122q
      have O122 := O121.keep K122q (allS ge_b121 all0)
      show own_Go p e below _ T122 (mkF m 57 #[iv p1, iv p2, iv p3, iv p4, iv p5, iv 3, iv c1, iv c2, iv c3, iv c4, rv ca120, .unset, .unset, .unset, .unset, .unset] [(.ref b121)])
      refine og_astore X122 hx #[iv p1, iv p2, iv p3, iv p4, iv p5, iv 3, iv c1, iv c2, iv c3, iv c4, rv ca120, rv b121, .unset, .unset, .unset, .unset] (hb hby at_57) rfl rfl ?_
      refine og_aload X122 hx (hb hby at_59) rfl rfl ?_
      refine own_callS X122 hx hZ hown (own_hw hw 30 rfl) (own_hw hw 31 rfl) (own_hw hw 32 rfl) (own_hw hw 33 rfl) (by decide) (argsL := [(.ref b121)]) (rest := []) (own_po_3_0 l Z a0 hw z sf b121 vb122 _ _ c1 c2 c3 T122.heap n0 O122 hG hc2 m1 hc3 m2 k0 E_b121_122 V122q C122q A122q) rfl (by rw [hml]; rfl) (lenOf own_pd11897 rfl) rfl (hb hby at_61) (W := 0) (Nat.le_of_eq rfl) (by decide) ?_
      intro v123 T123 L123 X123 q123
      obtain ⟨t123, vb123, k123, rfl, N123q, K123q, zt123, gt123, zb123, gb123, ne_t123_vb123, Et123, Ft123, Ct123, At123⟩ := q123
      have N123 := Fr.app N122 N123q
      have ne_b121_t123 : b121 ≠ t123 := Nat.ne_of_lt (Nat.lt_of_lt_of_le E_b121_122.lt zt123)
      have ne_vb122_t123 : vb122 ≠ t123 := Nat.ne_of_lt (Nat.lt_of_lt_of_le A122q.lt zt123)
      have ne_b121_vb123 : b121 ≠ vb123 := Nat.ne_of_lt (Nat.lt_of_lt_of_le E_b121_122.lt zb123)
      have ne_vb122_vb123 : vb122 ≠ vb123 := Nat.ne_of_lt (Nat.lt_of_lt_of_le A122q.lt zb123)
      have hk123 := Nat.le_trans hk122 K123q.1
      have hs123 : ∀ x ∈ ([] : List Addr), Safe Z own_EL s.vm T122.heap x := sf0
      have C123 := C122.trans (CHr.keep K123q hs123 C122.1)
      have E_b121_123 := E_b121_122.keep K123q
      have F_b121_value_123 := V122q.keep K123q nin0
      have F_b121_coder_123 := C122q.keep K123q nin0
      have A_vb122_123 := A122q.keep K123q nin0
      have O123 := O122.keep K123q all0
      show own_Go p e below _ T123 (mkF m 64 #[iv p1, iv p2, iv p3, iv p4, iv p5, iv 3, iv c1, iv c2, iv c3, iv c4, rv ca120, rv b121, .unset, .unset, .unset, .unset] [(.ref t123)])
      refine og_astore X123 hx #[iv p1, iv p2, iv p3, iv p4, iv p5, iv 3, iv c1, iv c2, iv c3, iv c4, rv ca120, rv b121, rv t123, .unset, .unset, .unset] (hb hby at_64) rfl rfl ?_
      refine og_iconst X123 hx (hb hby at_66) ?_
      refine og_istore X123 hx #[iv p1, iv p2, iv p3, iv p4, iv p5, iv 3, iv c1, iv c2, iv c3, iv c4, rv ca120, rv b121, rv t123, iv (-1), .unset, .unset] (hb hby at_67) rfl ?_
      refine og_iload X123 hx (hb hby at_69) rfl ?_
      refine og_ifN X123 hx (hb hby at_71) (tlt (by decide)).2.2.2 ?_
      refine og_iload X123 hx (hb hby at_74) rfl ?_
      refine og_bipush X123 hx (hb hby at_76) ?_
      refine og_icN X123 hx (hb hby at_78) (teq k0).2 ?_
      refine og_iconst X123 hx (hb hby at_81) ?_
      refine og_istore X123 hx #[iv p1, iv p2, iv p3, iv p4, iv p5, iv 3, iv c1, iv c2, iv c3, iv c4, rv ca120, rv b121, rv t123, iv 0, .unset, .unset] (hb hby at_82) rfl ?_
      refine og_iload X123 hx (hb hby at_84) rfl ?_
      refine og_iconst X123 hx (hb hby at_86) ?_
      refine og_icN X123 hx (hb hby at_87) (tlt (by decide)).2.2.2 ?_
      refine og_iload X123 hx (hb hby at_90) rfl ?_
      refine og_bipush X123 hx (hb hby at_92) ?_
      refine og_icY X123 hx 100 (hb hby at_94) (feq m1).2 (by decide) (by decide) ?_
      refine og_iload X123 hx (hb hby at_100) rfl ?_
      refine og_iconst X123 hx (hb hby at_102) ?_
      refine og_icN X123 hx (hb hby at_103) (tlt (by decide)).2.2.2 ?_
      refine og_iload X123 hx (hb hby at_106) rfl ?_
      refine og_bipush X123 hx (hb hby at_108) ?_
      refine og_icY X123 hx 116 (hb hby at_110) (feq m2).2 (by decide) (by decide) ?_
      refine og_iload X123 hx (hb hby at_116) rfl ?_
      refine og_iconst X123 hx (hb hby at_118) ?_
      refine og_icY X123 hx 132 (hb hby at_119) (flt (by decide)).2.2.2 (by decide) (by decide) ?_
      refine og_iload X123 hx (hb hby at_132) rfl ?_
      refine og_iload X123 hx (hb hby at_134) rfl ?_
      refine og_isub X123 hx (hb hby at_136) ?_
      refine og_iconst X123 hx (hb hby at_137) ?_
      refine og_isub X123 hx (hb hby at_138) ?_
      refine og_istore X123 hx #[iv p1, iv p2, iv p3, iv p4, iv p5, iv 3, iv c1, iv c2, iv c3, iv c4, rv ca120, rv b121, rv t123, iv 0, iv 2, .unset] (hb hby at_139) rfl ?_
      refine og_aload X123 hx (hb hby at_141) rfl rfl ?_
      refine own_callV X123 hx hZ hown (own_hw hw 89 rfl) (own_hw hw 40 rfl) (notFace_of_selects (args := #[]) (mvT hZ (own_hw hw 42 rfl))) (own_hw hw 42 rfl) (own_hw hw 41 rfl) (own_hw hw 43 rfl) (own_hw hw 11 rfl) (by decide) (b := t123) (argsL := []) (rest := []) (own_slen l Z a0 hw z sf t123 vb123 _ _ 2 _ T123.heap n0 O123 hG Et123 Ft123 Ct123 At123) rfl Et123 (by rw [hml]; rfl) (lenOf own_pd13941 rfl) rfl (hb hby at_143) (W := 0) (Nat.le_of_eq rfl) (by decide) ?_
      intro v124 T124 L124 X124 q124
      obtain ⟨rfl, N124q, e124⟩ := q124
      have N124 := Fr.app N123 N124q
      show own_Go p e below _ T124 (mkF m 146 #[iv p1, iv p2, iv p3, iv p4, iv p5, iv 3, iv c1, iv c2, iv c3, iv c4, rv ca120, rv b121, rv t123, iv 0, iv 2, .unset] [(.int 2)])
      refine og_iload X124 hx (hb hby at_146) rfl ?_
      refine og_icY X124 hx 153 (hb hby at_148) (teq rfl).1 (by decide) (by decide) ?_
      refine og_iconst X124 hx (hb hby at_153) ?_
      refine own_newP X124 hx hZ (own_hw hw 8 rfl) e124 (hb hby at_154) (by decide) 4 (by decide) (by decide) (by decide) (by decide) ?_
      intro T125 h125 k125 b125 g125 X125 e125 E125 A125
      have ne_t123_b125 : t123 ≠ b125 := Nat.ne_of_lt (Nat.lt_of_lt_of_eq Et123.lt g125.symm)
      have ne_vb123_b125 : vb123 ≠ b125 := Nat.ne_of_lt (Nat.lt_of_lt_of_eq At123.lt g125.symm)
      have ge_b125 : n0 ≤ b125 := Nat.le_trans (own_oldle O123) (Nat.le_of_eq g125.symm)
      have hk125 := Nat.le_trans hk123 E125.1
      have E_t123_125 := Et123.ext E125
      have F_t123_value_125 := Ft123.ext E125
      have F_t123_coder_125 := Ct123.ext E125
      have A_vb123_125 := At123.ext E125
      have C125 := C123.trans (CHr.ext E125 C123.1)
      have O125 := O123.ext E125
      have A_b125_125 : Arv Z h125 b125 k125 .char 4 [(.int (0 : Int32)), (.int (0 : Int32)), (.int (0 : Int32)), (.int (0 : Int32))] (.int (0 : Int32)) := A125
      show own_Go p e below _ T125 (mkF m 156 #[iv p1, iv p2, iv p3, iv p4, iv p5, iv 3, iv c1, iv c2, iv c3, iv c4, rv ca120, rv b121, rv t123, iv 0, iv 2, .unset] [(.ref b125)])
      refine og_dup X125 hx (hb hby at_156) rfl ?_
      refine og_iconst X125 hx (hb hby at_157) ?_
      refine og_iload X125 hx (hb hby at_158) rfl ?_
      refine own_stC X125 hx hZ e125 A_b125_125 ⟨by decide, by decide⟩ 0 rfl (by show 0 < 4; decide) (hb hby at_160) ?_
      intro T126 h126 X126 e126 W126 A126
      have hk126 := Nat.le_trans hk125 (Keep.of_wr W126).1
      have sf126 := (Safe.arv (EL := own_EL) hZ.alike A_b125_125 (by decide))
      have C126 := C125.trans (CHr.wr W126 sf126 C125.1)
      have E_t123_126 := E_t123_125.wr W126
      have F_t123_value_126 := F_t123_value_125.other W126 (Or.inl ne_t123_b125)
      have F_t123_coder_126 := F_t123_coder_125.other W126 (Or.inl ne_t123_b125)
      have A_vb123_126 := A_vb123_125.other W126 ne_vb123_b125
      have O126 := O125.wr W126 ge_b125
      have N126 := Fr.snoc X126 N124 ge_b125
      have A_b125_126 : Arv Z h126 b125 k125 .char 4 [(.int c1), (.int (0 : Int32)), (.int (0 : Int32)), (.int (0 : Int32))] (.int (0 : Int32)) := (by have q := A126; rw [show nar .char c1 = c1 from own_ic _ hc1] at q; exact q)
      show own_Go p e below _ T126 (mkF m 161 #[iv p1, iv p2, iv p3, iv p4, iv p5, iv 3, iv c1, iv c2, iv c3, iv c4, rv ca120, rv b121, rv t123, iv 0, iv 2, .unset] [(.ref b125)])
      refine og_dup X126 hx (hb hby at_161) rfl ?_
      refine og_iconst X126 hx (hb hby at_162) ?_
      refine og_iload X126 hx (hb hby at_163) rfl ?_
      refine own_stC X126 hx hZ e126 A_b125_126 ⟨by decide, by decide⟩ 1 rfl (by show 1 < 4; decide) (hb hby at_165) ?_
      intro T127 h127 X127 e127 W127 A127
      have hk127 := Nat.le_trans hk126 (Keep.of_wr W127).1
      have sf127 := (Safe.arv (EL := own_EL) hZ.alike A_b125_126 (by decide))
      have C127 := C126.trans (CHr.wr W127 sf127 C126.1)
      have E_t123_127 := E_t123_126.wr W127
      have F_t123_value_127 := F_t123_value_126.other W127 (Or.inl ne_t123_b125)
      have F_t123_coder_127 := F_t123_coder_126.other W127 (Or.inl ne_t123_b125)
      have A_vb123_127 := A_vb123_126.other W127 ne_vb123_b125
      have O127 := O126.wr W127 ge_b125
      have N127 := Fr.snoc X127 N126 ge_b125
      have A_b125_127 : Arv Z h127 b125 k125 .char 4 [(.int c1), (.int c2), (.int (0 : Int32)), (.int (0 : Int32))] (.int (0 : Int32)) := (by have q := A127; rw [show nar .char c2 = c2 from own_ic _ hc2] at q; exact q)
      show own_Go p e below _ T127 (mkF m 166 #[iv p1, iv p2, iv p3, iv p4, iv p5, iv 3, iv c1, iv c2, iv c3, iv c4, rv ca120, rv b121, rv t123, iv 0, iv 2, .unset] [(.ref b125)])
      refine og_dup X127 hx (hb hby at_166) rfl ?_
      refine og_iconst X127 hx (hb hby at_167) ?_
      refine og_iload X127 hx (hb hby at_168) rfl ?_
      refine own_stC X127 hx hZ e127 A_b125_127 ⟨by decide, by decide⟩ 2 rfl (by show 2 < 4; decide) (hb hby at_170) ?_
      intro T128 h128 X128 e128 W128 A128
      have hk128 := Nat.le_trans hk127 (Keep.of_wr W128).1
      have sf128 := (Safe.arv (EL := own_EL) hZ.alike A_b125_127 (by decide))
      have C128 := C127.trans (CHr.wr W128 sf128 C127.1)
      have E_t123_128 := E_t123_127.wr W128
      have F_t123_value_128 := F_t123_value_127.other W128 (Or.inl ne_t123_b125)
      have F_t123_coder_128 := F_t123_coder_127.other W128 (Or.inl ne_t123_b125)
      have A_vb123_128 := A_vb123_127.other W128 ne_vb123_b125
      have O128 := O127.wr W128 ge_b125
      have N128 := Fr.snoc X128 N127 ge_b125
      have A_b125_128 : Arv Z h128 b125 k125 .char 4 [(.int c1), (.int c2), (.int c3), (.int (0 : Int32))] (.int (0 : Int32)) := (by have q := A128; rw [show nar .char c3 = c3 from own_ic _ hc3] at q; exact q)
      show own_Go p e below _ T128 (mkF m 171 #[iv p1, iv p2, iv p3, iv p4, iv p5, iv 3, iv c1, iv c2, iv c3, iv c4, rv ca120, rv b121, rv t123, iv 0, iv 2, .unset] [(.ref b125)])
      refine og_dup X128 hx (hb hby at_171) rfl ?_
      refine og_iconst X128 hx (hb hby at_172) ?_
      refine og_iload X128 hx (hb hby at_173) rfl ?_
      refine own_stC X128 hx hZ e128 A_b125_128 ⟨by decide, by decide⟩ 3 rfl (by show 3 < 4; decide) (hb hby at_175) ?_
      intro T129 h129 X129 e129 W129 A129
      have hk129 := Nat.le_trans hk128 (Keep.of_wr W129).1
      have sf129 := (Safe.arv (EL := own_EL) hZ.alike A_b125_128 (by decide))
      have C129 := C128.trans (CHr.wr W129 sf129 C128.1)
      have E_t123_129 := E_t123_128.wr W129
      have F_t123_value_129 := F_t123_value_128.other W129 (Or.inl ne_t123_b125)
      have F_t123_coder_129 := F_t123_coder_128.other W129 (Or.inl ne_t123_b125)
      have A_vb123_129 := A_vb123_128.other W129 ne_vb123_b125
      have O129 := O128.wr W129 ge_b125
      have N129 := Fr.snoc X129 N128 ge_b125
      have A_b125_129 : Arv Z h129 b125 k125 .char 4 [(.int c1), (.int c2), (.int c3), (.int c4)] (.int (0 : Int32)) := (by have q := A129; rw [show nar .char c4 = c4 from own_ic _ hc4] at q; exact q)
      show own_Go p e below _ T129 (mkF m 176 #[iv p1, iv p2, iv p3, iv p4, iv p5, iv 3, iv c1, iv c2, iv c3, iv c4, rv ca120, rv b121, rv t123, iv 0, iv 2, .unset] [(.ref b125)])
      refine og_astore X129 hx #[iv p1, iv p2, iv p3, iv p4, iv p5, iv 3, iv c1, iv c2, iv c3, iv c4, rv ca120, rv b121, rv t123, iv 0, iv 2, rv b125] (hb hby at_176) rfl rfl ?_
      refine og_aload X129 hx (hb hby at_178) rfl rfl ?_
      refine og_iload X129 hx (hb hby at_180) rfl ?_
      refine og_iconst X129 hx (hb hby at_182) ?_
      refine og_aload X129 hx (hb hby at_183) rfl rfl ?_
      refine og_iload X129 hx (hb hby at_185) rfl ?_
      refine own_callS X129 hx hZ hown (own_hw hw 90 rfl) (own_hw hw 91 rfl) (own_hw hw 3 rfl) (own_hw hw 92 rfl) (by decide) (argsL := [(.ref t123), (.int 2), (.int 0), (.ref b125), (.int 0)]) (rest := []) (own_sm_2_0_0 l Z a0 hw z sf t123 vb123 _ _ b125 _ _ c1 c2 c3 c4 h129 n0 O129 hG hc2 E_t123_129 F_t123_value_129 F_t123_coder_129 A_vb123_129 A_b125_129) e129 (by rw [hml]; rfl) (lenOf own_pd39901 rfl) rfl (hb hby at_187) (W := 0) (Nat.le_of_eq rfl) (by decide) ?_
      intro v130 T130 L130 X130 q130
      obtain ⟨rfl, N130q, e130⟩ := q130
      have N130 := Fr.app N129 N130q
      show own_Go p e below _ T130 (mkF m 190 #[iv p1, iv p2, iv p3, iv p4, iv p5, iv 3, iv c1, iv c2, iv c3, iv c4, rv ca120, rv b121, rv t123, iv 0, iv 2, rv b125] [(.int 1)])
      refine og_ifN X130 hx (hb hby at_190) (feq (by decide)).1 ?_
      refine og_aload X130 hx (hb hby at_193) rfl rfl ?_
      refine og_iload X130 hx (hb hby at_195) rfl ?_
      refine og_iconst X130 hx (hb hby at_197) ?_
      refine og_aload X130 hx (hb hby at_198) rfl rfl ?_
      refine og_iload X130 hx (hb hby at_200) rfl ?_
      refine own_callS X130 hx hZ hown (own_hw hw 90 rfl) (own_hw hw 91 rfl) (own_hw hw 3 rfl) (own_hw hw 92 rfl) (by decide) (argsL := [(.ref t123), (.int 2), (.int 1), (.ref b125), (.int 0)]) (rest := []) (own_sm_2_1_0 l Z a0 hw z sf t123 vb123 _ _ b125 _ _ c1 c2 c3 c4 h129 n0 O129 hG hc3 E_t123_129 F_t123_value_129 F_t123_coder_129 A_vb123_129 A_b125_129) e130 (by rw [hml]; rfl) (lenOf own_pd39901 rfl) rfl (hb hby at_202) (W := 0) (Nat.le_of_eq rfl) (by decide) ?_
      intro v131 T131 L131 X131 q131
      obtain ⟨rfl, N131q, e131⟩ := q131
      have N131 := Fr.app N130 N131q
      show own_Go p e below _ T131 (mkF m 205 #[iv p1, iv p2, iv p3, iv p4, iv p5, iv 3, iv c1, iv c2, iv c3, iv c4, rv ca120, rv b121, rv t123, iv 0, iv 2, rv b125] [(.int 1)])
      refine og_ifN X131 hx (hb hby at_205) (feq (by decide)).1 ?_
      refine og_aload X131 hx (hb hby at_208) rfl rfl ?_
      refine og_iload X131 hx (hb hby at_210) rfl ?_
      refine og_iconst X131 hx (hb hby at_212) ?_
      refine og_aload X131 hx (hb hby at_213) rfl rfl ?_
      refine og_iload X131 hx (hb hby at_215) rfl ?_
      refine own_callS X131 hx hZ hown (own_hw hw 90 rfl) (own_hw hw 91 rfl) (own_hw hw 3 rfl) (own_hw hw 92 rfl) (by decide) (argsL := [(.ref t123), (.int 2), (.int 2), (.ref b125), (.int 0)]) (rest := []) (own_sm_2_2 l Z a0 hw t123 b125 0 h129 n0) e131 (by rw [hml]; rfl) (lenOf own_pd39901 rfl) rfl (hb hby at_217) (W := 0) (Nat.le_of_eq rfl) (by decide) ?_
      intro v132 T132 L132 X132 q132
      obtain ⟨rfl, N132q, e132⟩ := q132
      have N132 := Fr.app N131 N132q
      show own_Go p e below _ T132 (mkF m 220 #[iv p1, iv p2, iv p3, iv p4, iv p5, iv 3, iv c1, iv c2, iv c3, iv c4, rv ca120, rv b121, rv t123, iv 0, iv 2, rv b125] [(.int 1)])
      refine og_ifN X132 hx (hb hby at_220) (feq (by decide)).1 ?_
      refine og_aload X132 hx (hb hby at_223) rfl rfl ?_
      refine og_iload X132 hx (hb hby at_225) rfl ?_
      refine og_iconst X132 hx (hb hby at_227) ?_
      refine og_aload X132 hx (hb hby at_228) rfl rfl ?_
      refine og_iload X132 hx (hb hby at_230) rfl ?_
      refine own_callS X132 hx hZ hown (own_hw hw 90 rfl) (own_hw hw 91 rfl) (own_hw hw 3 rfl) (own_hw hw 92 rfl) (by decide) (argsL := [(.ref t123), (.int 2), (.int 3), (.ref b125), (.int 0)]) (rest := []) (own_sm_2_3 l Z a0 hw t123 b125 0 h129 n0) e132 (by rw [hml]; rfl) (lenOf own_pd39901 rfl) rfl (hb hby at_232) (W := 0) (Nat.le_of_eq rfl) (by decide) ?_
      intro v133 T133 L133 X133 q133
      obtain ⟨rfl, N133q, e133⟩ := q133
      have N133 := Fr.app N132 N133q
      show own_Go p e below _ T133 (mkF m 235 #[iv p1, iv p2, iv p3, iv p4, iv p5, iv 3, iv c1, iv c2, iv c3, iv c4, rv ca120, rv b121, rv t123, iv 0, iv 2, rv b125] [(.int 1)])
      refine og_ifN X133 hx (hb hby at_235) (feq (by decide)).1 ?_
      refine og_iconst X133 hx (hb hby at_238) ?_
      refine og_goto X133 hx 243 (hb hby at_239) (by decide) (by decide) ?_
      exact own_retIH X133 hx hret hlk (hb hby at_243) rfl (by simp) hZ (own_EW hw) C129 e133 hS hk129 (by decide) (by decide) (⟨rfl, N133⟩)
    · show own_Go p e below _ T4 (mkF m 35 #[iv p1, iv p2, iv p3, iv p4, iv p5, iv 3, iv c1, iv c2, iv c3, iv c4, .unset, .unset, .unset, .unset, .unset, .unset] [(.int 3)])
      refine og_iload X4 hx (hb hby at_35) rfl ?_
      refine og_iload X4 hx (hb hby at_37) rfl ?_
      refine og_iload X4 hx (hb hby at_39) rfl ?_
      refine og_iload X4 hx (hb hby at_41) rfl ?_
      refine own_callS X4 hx hZ hown (own_hw hw 5 rfl) (own_hw hw 6 rfl) (own_hw hw 3 rfl) (own_hw hw 7 rfl) (by decide) (argsL := [(.int 3), (.int c1), (.int c2), (.int c3), (.int c4)]) (rest := []) (own_mk3 l Z a0 hw c1 c2 c3 c4 h0 n0 hO hc1 hc2 hc3 hc4) e4 (by rw [hml]; rfl) (lenOf own_pd92197 rfl) rfl (hb hby at_43) (W := 0) (Nat.le_of_eq rfl) (by decide) ?_
      intro v134 T134 L134 X134 q134
      obtain ⟨ca134, k134, rfl, N134q, K134q, z134q, g134q, A134q⟩ := q134
      have N134 := Fr.app N4 N134q
      have hk134 := Nat.le_trans hk K134q.1
      have hs134 : ∀ x ∈ ([] : List Addr), Safe Z own_EL s.vm h0 x := sf0
      have C134 := C0.trans (CHr.keep K134q hs134 C0.1)
      have O134 := hO.keep K134q all0
      show own_Go p e below _ T134 (mkF m 46 #[iv p1, iv p2, iv p3, iv p4, iv p5, iv 3, iv c1, iv c2, iv c3, iv c4, .unset, .unset, .unset, .unset, .unset, .unset] [(.ref ca134)])
      refine og_astore X134 hx #[iv p1, iv p2, iv p3, iv p4, iv p5, iv 3, iv c1, iv c2, iv c3, iv c4, rv ca134, .unset, .unset, .unset, .unset, .unset] (hb hby at_46) rfl rfl ?_
      refine own_newO X134 hx hZ hown (own_hw hw 9 rfl) (own_hw hw 10 rfl) (own_hw hw 11 rfl) rfl (hb hby at_48) (by decide) (by decide) ?_
      intro T135 h135 b135 g135 X135 e135 E135 A135 D135
      have ne_ca134_b135 : ca134 ≠ b135 := Nat.ne_of_lt (Nat.lt_of_lt_of_eq A134q.lt g135.symm)
      have ge_b135 : n0 ≤ b135 := Nat.le_trans (own_oldle O134) (Nat.le_of_eq g135.symm)
      have S_b135 : Safe Z own_EL s.vm T134.heap b135 := Safe.new (Nat.le_of_eq g135.symm)
      have hk135 := Nat.le_trans hk134 E135.1
      have A_ca134_135 := A134q.ext E135
      have S_b135_135 := Safe.ext E135 C134.1 S_b135
      have C135 := C134.trans (CHr.ext E135 C134.1)
      have O135 := O134.ext E135
      have F_b135_value_135 : Fld Z h135 b135 "java/lang/String" "value" "[B" .null := D135 (Or.inr (own_hw hw 24 rfl)) (ty := (.array .byte)) (by decide)
      have F_b135_coder_135 : Fld Z h135 b135 "java/lang/String" "coder" "B" (.int 0) := D135 (Or.inr (own_hw hw 25 rfl)) (ty := .byte) (by decide)
      show own_Go p e below _ T135 (mkF m 51 #[iv p1, iv p2, iv p3, iv p4, iv p5, iv 3, iv c1, iv c2, iv c3, iv c4, rv ca134, .unset, .unset, .unset, .unset, .unset] [(.ref b135)])
      refine og_dup X135 hx (hb hby at_51) rfl ?_
      refine og_aload X135 hx (hb hby at_52) rfl rfl ?_
      have hws : ∀ d ∈ StrChars.Road.words, d.before a0 Z = true := fun d hd => hw d ((by decide +kernel : ∀ d ∈ StrChars.Road.words, d ∈ tables_1) d hd)
      have hp136 : ∀ c ∈ ([c1, c2, c3] : List Int32), ¬ c < 0 ∧ ¬ (255 : Int32) < c := by
        intro c hc; simp only [List.mem_cons, List.not_mem_nil, or_false] at hc; rcases hc with rfl | rfl | rfl <;> assumption
      refine own_callNB X135 hx hZ hown (own_hw hw 12 rfl) (own_hw hw 13 rfl) (own_hw hw 14 rfl) (own_hw hw 11 rfl) (by decide) rfl (b := b135) (argsL := [(.ref ca134)]) (rest := [(.ref b135)]) (StrChars.Road.backV (W := 1) hZ hws (kI := 4) (own_hw hw 10 rfl) (cs := ([c1, c2, c3] : List Int32)) (bs := (([c1, c2, c3] : List Int32)).map (fun c => c.toInt8.toInt32)) (n := 3) ge_b135 (own_oldle O135) A135 F_b135_value_135 F_b135_coder_135 A_ca134_135 (SC.ext O135.2) hz rfl rfl (by decide) (by decide) hp136 rfl (by decide) (by decide)) e135 (by rw [hml]; rfl) (lenOf own_pd46664 rfl) rfl (hb hby at_54) (Nat.le_of_eq rfl) (by decide) (by decide) ?_
      intro v136 T136 L136 X136 q136
      obtain ⟨rfl, N136q, K136q, E136q, C136q, vb136, kb136, ge136, z136q, ne136q, V136q, A136q⟩ := q136
      have N136 := Fr.app N134 N136q
      have ne_b135_vb136 : b135 ≠ vb136 := Nat.ne_of_lt (Nat.lt_of_lt_of_le A135.lt z136q)
      have ne_ca134_vb136 : ca134 ≠ vb136 := Nat.ne_of_lt (Nat.lt_of_lt_of_le A_ca134_135.lt z136q)
      have hk136 := Nat.le_trans hk135 K136q.1
      have hs136 : ∀ x ∈ ([b135] : List Addr), Safe Z own_EL s.vm h135 x := (sfS S_b135_135 sf0)
      have C136 := C135.trans (CHr.keep K136q hs136 C135.1)
      have A_ca134_136 := A_ca134_135.keep K136q (ninS ne_ca134_b135 nin0)
      have S_b135_136 := Safe.keep K136q hs136 C135.1 S_b135_135
      have E_b135_136 := A135.keep K136q
      have O136 := O135.keep K136q (allS ge_b135 all0)
      show own_Go p e below _ T136 (mkF m 57 #[iv p1, iv p2, iv p3, iv p4, iv p5, iv 3, iv c1, iv c2, iv c3, iv c4, rv ca134, .unset, .unset, .unset, .unset, .unset] [(.ref b135)])
      refine og_astore X136 hx #[iv p1, iv p2, iv p3, iv p4, iv p5, iv 3, iv c1, iv c2, iv c3, iv c4, rv ca134, rv b135, .unset, .unset, .unset, .unset] (hb hby at_57) rfl rfl ?_
      refine og_aload X136 hx (hb hby at_59) rfl rfl ?_
      refine own_callS X136 hx hZ hown (own_hw hw 30 rfl) (own_hw hw 31 rfl) (own_hw hw 32 rfl) (own_hw hw 33 rfl) (by decide) (argsL := [(.ref b135)]) (rest := []) (own_po_3_m1 l Z a0 hw z sf b135 vb136 _ _ c1 c2 c3 T136.heap n0 O136 hG hc1 m0 hc2 m1 hc3 m2 E_b135_136 V136q C136q A136q) rfl (by rw [hml]; rfl) (lenOf own_pd11897 rfl) rfl (hb hby at_61) (W := 0) (Nat.le_of_eq rfl) (by decide) ?_
      intro v137 T137 L137 X137 q137
      obtain ⟨rfl, N137q, e137⟩ := q137
      have N137 := Fr.app N136 N137q
      show own_Go p e below _ T137 (mkF m 64 #[iv p1, iv p2, iv p3, iv p4, iv p5, iv 3, iv c1, iv c2, iv c3, iv c4, rv ca134, rv b135, .unset, .unset, .unset, .unset] [(.ref b135)])
      refine og_astore X137 hx #[iv p1, iv p2, iv p3, iv p4, iv p5, iv 3, iv c1, iv c2, iv c3, iv c4, rv ca134, rv b135, rv b135, .unset, .unset, .unset] (hb hby at_64) rfl rfl ?_
      refine og_iconst X137 hx (hb hby at_66) ?_
      refine og_istore X137 hx #[iv p1, iv p2, iv p3, iv p4, iv p5, iv 3, iv c1, iv c2, iv c3, iv c4, rv ca134, rv b135, rv b135, iv (-1), .unset, .unset] (hb hby at_67) rfl ?_
      refine og_iload X137 hx (hb hby at_69) rfl ?_
      refine og_ifN X137 hx (hb hby at_71) (tlt (by decide)).2.2.2 ?_
      refine og_iload X137 hx (hb hby at_74) rfl ?_
      refine og_bipush X137 hx (hb hby at_76) ?_
      refine og_icY X137 hx 84 (hb hby at_78) (feq m0).2 (by decide) (by decide) ?_
      refine og_iload X137 hx (hb hby at_84) rfl ?_
      refine og_iconst X137 hx (hb hby at_86) ?_
      refine og_icN X137 hx (hb hby at_87) (tlt (by decide)).2.2.2 ?_
      refine og_iload X137 hx (hb hby at_90) rfl ?_
      refine og_bipush X137 hx (hb hby at_92) ?_
      refine og_icY X137 hx 100 (hb hby at_94) (feq m1).2 (by decide) (by decide) ?_
      refine og_iload X137 hx (hb hby at_100) rfl ?_
      refine og_iconst X137 hx (hb hby at_102) ?_
      refine og_icN X137 hx (hb hby at_103) (tlt (by decide)).2.2.2 ?_
      refine og_iload X137 hx (hb hby at_106) rfl ?_
      refine og_bipush X137 hx (hb hby at_108) ?_
      refine og_icY X137 hx 116 (hb hby at_110) (feq m2).2 (by decide) (by decide) ?_
      refine og_iload X137 hx (hb hby at_116) rfl ?_
      refine og_iconst X137 hx (hb hby at_118) ?_
      refine og_icY X137 hx 132 (hb hby at_119) (flt (by decide)).2.2.2 (by decide) (by decide) ?_
      refine og_iload X137 hx (hb hby at_132) rfl ?_
      refine og_iload X137 hx (hb hby at_134) rfl ?_
      refine og_isub X137 hx (hb hby at_136) ?_
      refine og_iconst X137 hx (hb hby at_137) ?_
      refine og_isub X137 hx (hb hby at_138) ?_
      refine og_istore X137 hx #[iv p1, iv p2, iv p3, iv p4, iv p5, iv 3, iv c1, iv c2, iv c3, iv c4, rv ca134, rv b135, rv b135, iv (-1), iv 3, .unset] (hb hby at_139) rfl ?_
      refine og_aload X137 hx (hb hby at_141) rfl rfl ?_
      refine own_callV X137 hx hZ hown (own_hw hw 89 rfl) (own_hw hw 40 rfl) (notFace_of_selects (args := #[]) (mvT hZ (own_hw hw 42 rfl))) (own_hw hw 42 rfl) (own_hw hw 41 rfl) (own_hw hw 43 rfl) (own_hw hw 11 rfl) (by decide) (b := b135) (argsL := []) (rest := []) (own_slen l Z a0 hw z sf b135 vb136 _ _ (3 : Int32) _ T136.heap n0 O136 hG E_b135_136 V136q C136q A136q) e137 E_b135_136 (by rw [hml]; rfl) (lenOf own_pd13941 rfl) rfl (hb hby at_143) (W := 0) (Nat.le_of_eq rfl) (by decide) ?_
      intro v138 T138 L138 X138 q138
      obtain ⟨rfl, N138q, e138⟩ := q138
      have N138 := Fr.app N137 N138q
      show own_Go p e below _ T138 (mkF m 146 #[iv p1, iv p2, iv p3, iv p4, iv p5, iv 3, iv c1, iv c2, iv c3, iv c4, rv ca134, rv b135, rv b135, iv (-1), iv 3, .unset] [(.int (3 : Int32))])
      refine og_iload X138 hx (hb hby at_146) rfl ?_
      refine og_icY X138 hx 153 (hb hby at_148) (teq (by decide)).1 (by decide) (by decide) ?_
      refine og_iconst X138 hx (hb hby at_153) ?_
      refine own_newP X138 hx hZ (own_hw hw 8 rfl) e138 (hb hby at_154) (by decide) 4 (by decide) (by decide) (by decide) (by decide) ?_
      intro T139 h139 k139 b139 g139 X139 e139 E139 A139
      have ne_b135_b139 : b135 ≠ b139 := Nat.ne_of_lt (Nat.lt_of_lt_of_eq E_b135_136.lt g139.symm)
      have ne_vb136_b139 : vb136 ≠ b139 := Nat.ne_of_lt (Nat.lt_of_lt_of_eq A136q.lt g139.symm)
      have ge_b139 : n0 ≤ b139 := Nat.le_trans (own_oldle O136) (Nat.le_of_eq g139.symm)
      have hk139 := Nat.le_trans hk136 E139.1
      have E_b135_139 := E_b135_136.ext E139
      have F_b135_value_139 := V136q.ext E139
      have F_b135_coder_139 := C136q.ext E139
      have A_vb136_139 := A136q.ext E139
      have C139 := C136.trans (CHr.ext E139 C136.1)
      have O139 := O136.ext E139
      have A_b139_139 : Arv Z h139 b139 k139 .char 4 [(.int (0 : Int32)), (.int (0 : Int32)), (.int (0 : Int32)), (.int (0 : Int32))] (.int (0 : Int32)) := A139
      show own_Go p e below _ T139 (mkF m 156 #[iv p1, iv p2, iv p3, iv p4, iv p5, iv 3, iv c1, iv c2, iv c3, iv c4, rv ca134, rv b135, rv b135, iv (-1), iv 3, .unset] [(.ref b139)])
      refine og_dup X139 hx (hb hby at_156) rfl ?_
      refine og_iconst X139 hx (hb hby at_157) ?_
      refine og_iload X139 hx (hb hby at_158) rfl ?_
      refine own_stC X139 hx hZ e139 A_b139_139 ⟨by decide, by decide⟩ 0 rfl (by show 0 < 4; decide) (hb hby at_160) ?_
      intro T140 h140 X140 e140 W140 A140
      have hk140 := Nat.le_trans hk139 (Keep.of_wr W140).1
      have sf140 := (Safe.arv (EL := own_EL) hZ.alike A_b139_139 (by decide))
      have C140 := C139.trans (CHr.wr W140 sf140 C139.1)
      have E_b135_140 := E_b135_139.wr W140
      have F_b135_value_140 := F_b135_value_139.other W140 (Or.inl ne_b135_b139)
      have F_b135_coder_140 := F_b135_coder_139.other W140 (Or.inl ne_b135_b139)
      have A_vb136_140 := A_vb136_139.other W140 ne_vb136_b139
      have O140 := O139.wr W140 ge_b139
      have N140 := Fr.snoc X140 N138 ge_b139
      have A_b139_140 : Arv Z h140 b139 k139 .char 4 [(.int c1), (.int (0 : Int32)), (.int (0 : Int32)), (.int (0 : Int32))] (.int (0 : Int32)) := (by have q := A140; rw [show nar .char c1 = c1 from own_ic _ hc1] at q; exact q)
      show own_Go p e below _ T140 (mkF m 161 #[iv p1, iv p2, iv p3, iv p4, iv p5, iv 3, iv c1, iv c2, iv c3, iv c4, rv ca134, rv b135, rv b135, iv (-1), iv 3, .unset] [(.ref b139)])
      refine og_dup X140 hx (hb hby at_161) rfl ?_
      refine og_iconst X140 hx (hb hby at_162) ?_
      refine og_iload X140 hx (hb hby at_163) rfl ?_
      refine own_stC X140 hx hZ e140 A_b139_140 ⟨by decide, by decide⟩ 1 rfl (by show 1 < 4; decide) (hb hby at_165) ?_
      intro T141 h141 X141 e141 W141 A141
      have hk141 := Nat.le_trans hk140 (Keep.of_wr W141).1
      have sf141 := (Safe.arv (EL := own_EL) hZ.alike A_b139_140 (by decide))
      have C141 := C140.trans (CHr.wr W141 sf141 C140.1)
      have E_b135_141 := E_b135_140.wr W141
      have F_b135_value_141 := F_b135_value_140.other W141 (Or.inl ne_b135_b139)
      have F_b135_coder_141 := F_b135_coder_140.other W141 (Or.inl ne_b135_b139)
      have A_vb136_141 := A_vb136_140.other W141 ne_vb136_b139
      have O141 := O140.wr W141 ge_b139
      have N141 := Fr.snoc X141 N140 ge_b139
      have A_b139_141 : Arv Z h141 b139 k139 .char 4 [(.int c1), (.int c2), (.int (0 : Int32)), (.int (0 : Int32))] (.int (0 : Int32)) := (by have q := A141; rw [show nar .char c2 = c2 from own_ic _ hc2] at q; exact q)
      show own_Go p e below _ T141 (mkF m 166 #[iv p1, iv p2, iv p3, iv p4, iv p5, iv 3, iv c1, iv c2, iv c3, iv c4, rv ca134, rv b135, rv b135, iv (-1), iv 3, .unset] [(.ref b139)])
      refine og_dup X141 hx (hb hby at_166) rfl ?_
      refine og_iconst X141 hx (hb hby at_167) ?_
      refine og_iload X141 hx (hb hby at_168) rfl ?_
      refine own_stC X141 hx hZ e141 A_b139_141 ⟨by decide, by decide⟩ 2 rfl (by show 2 < 4; decide) (hb hby at_170) ?_
      intro T142 h142 X142 e142 W142 A142
      have hk142 := Nat.le_trans hk141 (Keep.of_wr W142).1
      have sf142 := (Safe.arv (EL := own_EL) hZ.alike A_b139_141 (by decide))
      have C142 := C141.trans (CHr.wr W142 sf142 C141.1)
      have E_b135_142 := E_b135_141.wr W142
      have F_b135_value_142 := F_b135_value_141.other W142 (Or.inl ne_b135_b139)
      have F_b135_coder_142 := F_b135_coder_141.other W142 (Or.inl ne_b135_b139)
      have A_vb136_142 := A_vb136_141.other W142 ne_vb136_b139
      have O142 := O141.wr W142 ge_b139
      have N142 := Fr.snoc X142 N141 ge_b139
      have A_b139_142 : Arv Z h142 b139 k139 .char 4 [(.int c1), (.int c2), (.int c3), (.int (0 : Int32))] (.int (0 : Int32)) := (by have q := A142; rw [show nar .char c3 = c3 from own_ic _ hc3] at q; exact q)
      show own_Go p e below _ T142 (mkF m 171 #[iv p1, iv p2, iv p3, iv p4, iv p5, iv 3, iv c1, iv c2, iv c3, iv c4, rv ca134, rv b135, rv b135, iv (-1), iv 3, .unset] [(.ref b139)])
      refine og_dup X142 hx (hb hby at_171) rfl ?_
      refine og_iconst X142 hx (hb hby at_172) ?_
      refine og_iload X142 hx (hb hby at_173) rfl ?_
      refine own_stC X142 hx hZ e142 A_b139_142 ⟨by decide, by decide⟩ 3 rfl (by show 3 < 4; decide) (hb hby at_175) ?_
      intro T143 h143 X143 e143 W143 A143
      have hk143 := Nat.le_trans hk142 (Keep.of_wr W143).1
      have sf143 := (Safe.arv (EL := own_EL) hZ.alike A_b139_142 (by decide))
      have C143 := C142.trans (CHr.wr W143 sf143 C142.1)
      have E_b135_143 := E_b135_142.wr W143
      have F_b135_value_143 := F_b135_value_142.other W143 (Or.inl ne_b135_b139)
      have F_b135_coder_143 := F_b135_coder_142.other W143 (Or.inl ne_b135_b139)
      have A_vb136_143 := A_vb136_142.other W143 ne_vb136_b139
      have O143 := O142.wr W143 ge_b139
      have N143 := Fr.snoc X143 N142 ge_b139
      have A_b139_143 : Arv Z h143 b139 k139 .char 4 [(.int c1), (.int c2), (.int c3), (.int c4)] (.int (0 : Int32)) := (by have q := A143; rw [show nar .char c4 = c4 from own_ic _ hc4] at q; exact q)
      show own_Go p e below _ T143 (mkF m 176 #[iv p1, iv p2, iv p3, iv p4, iv p5, iv 3, iv c1, iv c2, iv c3, iv c4, rv ca134, rv b135, rv b135, iv (-1), iv 3, .unset] [(.ref b139)])
      refine og_astore X143 hx #[iv p1, iv p2, iv p3, iv p4, iv p5, iv 3, iv c1, iv c2, iv c3, iv c4, rv ca134, rv b135, rv b135, iv (-1), iv 3, rv b139] (hb hby at_176) rfl rfl ?_
      refine og_aload X143 hx (hb hby at_178) rfl rfl ?_
      refine og_iload X143 hx (hb hby at_180) rfl ?_
      refine og_iconst X143 hx (hb hby at_182) ?_
      refine og_aload X143 hx (hb hby at_183) rfl rfl ?_
      refine og_iload X143 hx (hb hby at_185) rfl ?_
      refine own_callS X143 hx hZ hown (own_hw hw 90 rfl) (own_hw hw 91 rfl) (own_hw hw 3 rfl) (own_hw hw 92 rfl) (by decide) (argsL := [(.ref b135), (.int 3), (.int 0), (.ref b139), (.int (-1))]) (rest := []) (own_sm_3_0_m1 l Z a0 hw z sf b135 vb136 _ _ b139 _ _ c1 c2 c3 c4 h143 n0 O143 hG hc1 E_b135_143 F_b135_value_143 F_b135_coder_143 A_vb136_143 A_b139_143) e143 (by rw [hml]; rfl) (lenOf own_pd39901 rfl) rfl (hb hby at_187) (W := 0) (Nat.le_of_eq rfl) (by decide) ?_
      intro v144 T144 L144 X144 q144
      obtain ⟨rfl, N144q, e144⟩ := q144
      have N144 := Fr.app N143 N144q
      show own_Go p e below _ T144 (mkF m 190 #[iv p1, iv p2, iv p3, iv p4, iv p5, iv 3, iv c1, iv c2, iv c3, iv c4, rv ca134, rv b135, rv b135, iv (-1), iv 3, rv b139] [(.int 1)])
      refine og_ifN X144 hx (hb hby at_190) (feq (by decide)).1 ?_
      refine og_aload X144 hx (hb hby at_193) rfl rfl ?_
      refine og_iload X144 hx (hb hby at_195) rfl ?_
      refine og_iconst X144 hx (hb hby at_197) ?_
      refine og_aload X144 hx (hb hby at_198) rfl rfl ?_
      refine og_iload X144 hx (hb hby at_200) rfl ?_
      refine own_callS X144 hx hZ hown (own_hw hw 90 rfl) (own_hw hw 91 rfl) (own_hw hw 3 rfl) (own_hw hw 92 rfl) (by decide) (argsL := [(.ref b135), (.int 3), (.int 1), (.ref b139), (.int (-1))]) (rest := []) (own_sm_3_1_m1 l Z a0 hw z sf b135 vb136 _ _ b139 _ _ c1 c2 c3 c4 h143 n0 O143 hG hc2 E_b135_143 F_b135_value_143 F_b135_coder_143 A_vb136_143 A_b139_143) e144 (by rw [hml]; rfl) (lenOf own_pd39901 rfl) rfl (hb hby at_202) (W := 0) (Nat.le_of_eq rfl) (by decide) ?_
      intro v145 T145 L145 X145 q145
      obtain ⟨rfl, N145q, e145⟩ := q145
      have N145 := Fr.app N144 N145q
      show own_Go p e below _ T145 (mkF m 205 #[iv p1, iv p2, iv p3, iv p4, iv p5, iv 3, iv c1, iv c2, iv c3, iv c4, rv ca134, rv b135, rv b135, iv (-1), iv 3, rv b139] [(.int 1)])
      refine og_ifN X145 hx (hb hby at_205) (feq (by decide)).1 ?_
      refine og_aload X145 hx (hb hby at_208) rfl rfl ?_
      refine og_iload X145 hx (hb hby at_210) rfl ?_
      refine og_iconst X145 hx (hb hby at_212) ?_
      refine og_aload X145 hx (hb hby at_213) rfl rfl ?_
      refine og_iload X145 hx (hb hby at_215) rfl ?_
      refine own_callS X145 hx hZ hown (own_hw hw 90 rfl) (own_hw hw 91 rfl) (own_hw hw 3 rfl) (own_hw hw 92 rfl) (by decide) (argsL := [(.ref b135), (.int 3), (.int 2), (.ref b139), (.int (-1))]) (rest := []) (own_sm_3_2_m1 l Z a0 hw z sf b135 vb136 _ _ b139 _ _ c1 c2 c3 c4 h143 n0 O143 hG hc3 E_b135_143 F_b135_value_143 F_b135_coder_143 A_vb136_143 A_b139_143) e145 (by rw [hml]; rfl) (lenOf own_pd39901 rfl) rfl (hb hby at_217) (W := 0) (Nat.le_of_eq rfl) (by decide) ?_
      intro v146 T146 L146 X146 q146
      obtain ⟨rfl, N146q, e146⟩ := q146
      have N146 := Fr.app N145 N146q
      show own_Go p e below _ T146 (mkF m 220 #[iv p1, iv p2, iv p3, iv p4, iv p5, iv 3, iv c1, iv c2, iv c3, iv c4, rv ca134, rv b135, rv b135, iv (-1), iv 3, rv b139] [(.int 1)])
      refine og_ifN X146 hx (hb hby at_220) (feq (by decide)).1 ?_
      refine og_aload X146 hx (hb hby at_223) rfl rfl ?_
      refine og_iload X146 hx (hb hby at_225) rfl ?_
      refine og_iconst X146 hx (hb hby at_227) ?_
      refine og_aload X146 hx (hb hby at_228) rfl rfl ?_
      refine og_iload X146 hx (hb hby at_230) rfl ?_
      refine own_callS X146 hx hZ hown (own_hw hw 90 rfl) (own_hw hw 91 rfl) (own_hw hw 3 rfl) (own_hw hw 92 rfl) (by decide) (argsL := [(.ref b135), (.int 3), (.int 3), (.ref b139), (.int (-1))]) (rest := []) (own_sm_3_3 l Z a0 hw b135 b139 (-1) h143 n0) e146 (by rw [hml]; rfl) (lenOf own_pd39901 rfl) rfl (hb hby at_232) (W := 0) (Nat.le_of_eq rfl) (by decide) ?_
      intro v147 T147 L147 X147 q147
      obtain ⟨rfl, N147q, e147⟩ := q147
      have N147 := Fr.app N146 N147q
      show own_Go p e below _ T147 (mkF m 235 #[iv p1, iv p2, iv p3, iv p4, iv p5, iv 3, iv c1, iv c2, iv c3, iv c4, rv ca134, rv b135, rv b135, iv (-1), iv 3, rv b139] [(.int 1)])
      refine og_ifN X147 hx (hb hby at_235) (feq (by decide)).1 ?_
      refine og_iconst X147 hx (hb hby at_238) ?_
      refine og_goto X147 hx 243 (hb hby at_239) (by decide) (by decide) ?_
      exact own_retIH X147 hx hret hlk (hb hby at_243) rfl (by simp) hZ (own_EW hw) C143 e147 hS hk143 (by decide) (by decide) (⟨rfl, N147⟩)
  · rw [h]
    show own_Go p e below _ T4 (mkF m 33 #[iv p1, iv p2, iv p3, iv p4, iv p5, iv 4, iv c1, iv c2, iv c3, iv c4, .unset, .unset, .unset, .unset, .unset, .unset] [])
    refine og_iload X4 hx (hb hby at_33) rfl ?_
    show own_Go p e below _ T4 (mkF m 35 #[iv p1, iv p2, iv p3, iv p4, iv p5, iv 4, iv c1, iv c2, iv c3, iv c4, .unset, .unset, .unset, .unset, .unset, .unset] [(.int 4)])
    rcases own_last4 c1 c2 c3 c4 with k3 | ⟨m3, k2⟩ | ⟨m3, m2, k1⟩ | ⟨m3, m2, m1, k0⟩ | ⟨m3, m2, m1, m0, -⟩
    · show own_Go p e below _ T4 (mkF m 35 #[iv p1, iv p2, iv p3, iv p4, iv p5, iv 4, iv c1, iv c2, iv c3, iv c4, .unset, .unset, .unset, .unset, .unset, .unset] [(.int 4)])
      refine og_iload X4 hx (hb hby at_35) rfl ?_
      refine og_iload X4 hx (hb hby at_37) rfl ?_
      refine og_iload X4 hx (hb hby at_39) rfl ?_
      refine og_iload X4 hx (hb hby at_41) rfl ?_
      refine own_callS X4 hx hZ hown (own_hw hw 5 rfl) (own_hw hw 6 rfl) (own_hw hw 3 rfl) (own_hw hw 7 rfl) (by decide) (argsL := [(.int 4), (.int c1), (.int c2), (.int c3), (.int c4)]) (rest := []) (own_mk4 l Z a0 hw c1 c2 c3 c4 h0 n0 hO hc1 hc2 hc3 hc4) e4 (by rw [hml]; rfl) (lenOf own_pd92197 rfl) rfl (hb hby at_43) (W := 0) (Nat.le_of_eq rfl) (by decide) ?_
      intro v148 T148 L148 X148 q148
      obtain ⟨ca148, k148, rfl, N148q, K148q, z148q, g148q, A148q⟩ := q148
      have N148 := Fr.app N4 N148q
      have hk148 := Nat.le_trans hk K148q.1
      have hs148 : ∀ x ∈ ([] : List Addr), Safe Z own_EL s.vm h0 x := sf0
      have C148 := C0.trans (CHr.keep K148q hs148 C0.1)
      have O148 := hO.keep K148q all0
      show own_Go p e below _ T148 (mkF m 46 #[iv p1, iv p2, iv p3, iv p4, iv p5, iv 4, iv c1, iv c2, iv c3, iv c4, .unset, .unset, .unset, .unset, .unset, .unset] [(.ref ca148)])
      refine og_astore X148 hx #[iv p1, iv p2, iv p3, iv p4, iv p5, iv 4, iv c1, iv c2, iv c3, iv c4, rv ca148, .unset, .unset, .unset, .unset, .unset] (hb hby at_46) rfl rfl ?_
      refine own_newO X148 hx hZ hown (own_hw hw 9 rfl) (own_hw hw 10 rfl) (own_hw hw 11 rfl) rfl (hb hby at_48) (by decide) (by decide) ?_
      intro T149 h149 b149 g149 X149 e149 E149 A149 D149
      have ne_ca148_b149 : ca148 ≠ b149 := Nat.ne_of_lt (Nat.lt_of_lt_of_eq A148q.lt g149.symm)
      have ge_b149 : n0 ≤ b149 := Nat.le_trans (own_oldle O148) (Nat.le_of_eq g149.symm)
      have S_b149 : Safe Z own_EL s.vm T148.heap b149 := Safe.new (Nat.le_of_eq g149.symm)
      have hk149 := Nat.le_trans hk148 E149.1
      have A_ca148_149 := A148q.ext E149
      have S_b149_149 := Safe.ext E149 C148.1 S_b149
      have C149 := C148.trans (CHr.ext E149 C148.1)
      have O149 := O148.ext E149
      have F_b149_value_149 : Fld Z h149 b149 "java/lang/String" "value" "[B" .null := D149 (Or.inr (own_hw hw 24 rfl)) (ty := (.array .byte)) (by decide)
      have F_b149_coder_149 : Fld Z h149 b149 "java/lang/String" "coder" "B" (.int 0) := D149 (Or.inr (own_hw hw 25 rfl)) (ty := .byte) (by decide)
      show own_Go p e below _ T149 (mkF m 51 #[iv p1, iv p2, iv p3, iv p4, iv p5, iv 4, iv c1, iv c2, iv c3, iv c4, rv ca148, .unset, .unset, .unset, .unset, .unset] [(.ref b149)])
      refine og_dup X149 hx (hb hby at_51) rfl ?_
      refine og_aload X149 hx (hb hby at_52) rfl rfl ?_
      have hws : ∀ d ∈ StrChars.Road.words, d.before a0 Z = true := fun d hd => hw d ((by decide +kernel : ∀ d ∈ StrChars.Road.words, d ∈ tables_1) d hd)
      have hp150 : ∀ c ∈ ([c1, c2, c3, c4] : List Int32), ¬ c < 0 ∧ ¬ (255 : Int32) < c := by
        intro c hc; simp only [List.mem_cons, List.not_mem_nil, or_false] at hc; rcases hc with rfl | rfl | rfl | rfl <;> assumption
      refine own_callNB X149 hx hZ hown (own_hw hw 12 rfl) (own_hw hw 13 rfl) (own_hw hw 14 rfl) (own_hw hw 11 rfl) (by decide) rfl (b := b149) (argsL := [(.ref ca148)]) (rest := [(.ref b149)]) (StrChars.Road.backV (W := 1) hZ hws (kI := 4) (own_hw hw 10 rfl) (cs := ([c1, c2, c3, c4] : List Int32)) (bs := (([c1, c2, c3, c4] : List Int32)).map (fun c => c.toInt8.toInt32)) (n := 4) ge_b149 (own_oldle O149) A149 F_b149_value_149 F_b149_coder_149 A_ca148_149 (SC.ext O149.2) hz rfl rfl (by decide) (by decide) hp150 rfl (by decide) (by decide)) e149 (by rw [hml]; rfl) (lenOf own_pd46664 rfl) rfl (hb hby at_54) (Nat.le_of_eq rfl) (by decide) (by decide) ?_
      intro v150 T150 L150 X150 q150
      obtain ⟨rfl, N150q, K150q, E150q, C150q, vb150, kb150, ge150, z150q, ne150q, V150q, A150q⟩ := q150
      have N150 := Fr.app N148 N150q
      have ne_b149_vb150 : b149 ≠ vb150 := Nat.ne_of_lt (Nat.lt_of_lt_of_le A149.lt z150q)
      have ne_ca148_vb150 : ca148 ≠ vb150 := Nat.ne_of_lt (Nat.lt_of_lt_of_le A_ca148_149.lt z150q)
      have hk150 := Nat.le_trans hk149 K150q.1
      have hs150 : ∀ x ∈ ([b149] : List Addr), Safe Z own_EL s.vm h149 x := (sfS S_b149_149 sf0)
      have C150 := C149.trans (CHr.keep K150q hs150 C149.1)
      have A_ca148_150 := A_ca148_149.keep K150q (ninS ne_ca148_b149 nin0)
      have S_b149_150 := Safe.keep K150q hs150 C149.1 S_b149_149
      have E_b149_150 := A149.keep K150q
      have O150 := O149.keep K150q (allS ge_b149 all0)
      show own_Go p e below _ T150 (mkF m 57 #[iv p1, iv p2, iv p3, iv p4, iv p5, iv 4, iv c1, iv c2, iv c3, iv c4, rv ca148, .unset, .unset, .unset, .unset, .unset] [(.ref b149)])
      refine og_astore X150 hx #[iv p1, iv p2, iv p3, iv p4, iv p5, iv 4, iv c1, iv c2, iv c3, iv c4, rv ca148, rv b149, .unset, .unset, .unset, .unset] (hb hby at_57) rfl rfl ?_
      refine og_aload X150 hx (hb hby at_59) rfl rfl ?_
      refine own_callSH X150 hx hZ hown (own_hw hw 30 rfl) (own_hw hw 31 rfl) (own_hw hw 32 rfl) (own_hw hw 33 rfl) (by decide) (argsL := [(.ref b149)]) (rest := []) (own_po_4_3 l Z a0 hw z sf b149 vb150 _ _ c1 c2 c3 c4 T150.heap n0 O150 hG k3 E_b149_150 V150q C150q A150q) (own_EW hw) C150.1 hS hk150 rfl (by rw [hml]; rfl) (lenOf own_pd11897 rfl) rfl (hb hby at_61) (W := 0) (Nat.le_of_eq rfl) (by decide) ?_
      intro v151 T151 L151 X151 hS151 hZ151 hown151 C151q q151
      obtain ⟨t151, vb151, k151, rfl, N151q, K151q, Et151, Ft151, Ct151, At151⟩ := q151
      have N151 := Fr.app N150 N151q
      have C151 := C150.trans C151q
      have E_b149_151 := E_b149_150.keep K151q
      have F_b149_value_151 := V150q.keep K151q nin0
      have F_b149_coder_151 := C150q.keep K151q nin0
      have A_vb150_151 := A150q.keep K151q nin0
      have O151 := O150.keep K151q all0
      show own_Go p e below _ T151 (mkF m 64 #[iv p1, iv p2, iv p3, iv p4, iv p5, iv 4, iv c1, iv c2, iv c3, iv c4, rv ca148, rv b149, .unset, .unset, .unset, .unset] [(.ref t151)])
      refine og_astore X151 hx #[iv p1, iv p2, iv p3, iv p4, iv p5, iv 4, iv c1, iv c2, iv c3, iv c4, rv ca148, rv b149, rv t151, .unset, .unset, .unset] (hb hby at_64) rfl rfl ?_
      refine og_iconst X151 hx (hb hby at_66) ?_
      refine og_istore X151 hx #[iv p1, iv p2, iv p3, iv p4, iv p5, iv 4, iv c1, iv c2, iv c3, iv c4, rv ca148, rv b149, rv t151, iv (-1), .unset, .unset] (hb hby at_67) rfl ?_
      refine own_cut (F := fun v152 : Int32 => (mkF m 116 #[iv p1, iv p2, iv p3, iv p4, iv p5, iv 4, iv c1, iv c2, iv c3, iv c4, rv ca148, rv b149, rv t151, iv v152, .unset, .unset] [])) ?_ ?_
      · intro v152
        show own_Go p e below _ T151 (mkF m 116 #[iv p1, iv p2, iv p3, iv p4, iv p5, iv 4, iv c1, iv c2, iv c3, iv c4, rv ca148, rv b149, rv t151, iv v152, .unset, .unset] [])
        refine og_iload X151 hx (hb hby at_116) rfl ?_
        refine og_iconst X151 hx (hb hby at_118) ?_
        refine og_icN X151 hx (hb hby at_119) (tlt (by decide)).2.2.2 ?_
        refine og_iload X151 hx (hb hby at_122) rfl ?_
        refine og_bipush X151 hx (hb hby at_124) ?_
        refine og_icN X151 hx (hb hby at_126) (teq k3).2 ?_
        refine og_iconst X151 hx (hb hby at_129) ?_
        refine og_istore X151 hx #[iv p1, iv p2, iv p3, iv p4, iv p5, iv 4, iv c1, iv c2, iv c3, iv c4, rv ca148, rv b149, rv t151, iv 3, .unset, .unset] (hb hby at_130) rfl ?_
        refine og_iload X151 hx (hb hby at_132) rfl ?_
        refine og_iload X151 hx (hb hby at_134) rfl ?_
        refine og_isub X151 hx (hb hby at_136) ?_
        refine og_iconst X151 hx (hb hby at_137) ?_
        refine og_isub X151 hx (hb hby at_138) ?_
        refine og_istore X151 hx #[iv p1, iv p2, iv p3, iv p4, iv p5, iv 4, iv c1, iv c2, iv c3, iv c4, rv ca148, rv b149, rv t151, iv 3, iv 0, .unset] (hb hby at_139) rfl ?_
        refine og_aload X151 hx (hb hby at_141) rfl rfl ?_
        refine own_callV X151 hx hZ151 hown151 (own_hw hw 89 rfl) (own_hw hw 40 rfl) (notFace_of_selects (args := #[]) (mvT hZ151 (own_hw hw 42 rfl))) (own_hw hw 42 rfl) (own_hw hw 41 rfl) (own_hw hw 43 rfl) (own_hw hw 11 rfl) (by decide) (b := t151) (argsL := []) (rest := []) (own_slen l Z a0 hw z sf t151 vb151 _ _ 0 _ T151.heap n0 O151 hG Et151 Ft151 Ct151 At151) rfl Et151 (by rw [hml]; rfl) (lenOf own_pd13941 rfl) rfl (hb hby at_143) (W := 0) (Nat.le_of_eq rfl) (by decide) ?_
        intro v153 T153 L153 X153 q153
        obtain ⟨rfl, N153q, e153⟩ := q153
        have N153 := Fr.app N151 N153q
        show own_Go p e below _ T153 (mkF m 146 #[iv p1, iv p2, iv p3, iv p4, iv p5, iv 4, iv c1, iv c2, iv c3, iv c4, rv ca148, rv b149, rv t151, iv 3, iv 0, .unset] [(.int 0)])
        refine og_iload X153 hx (hb hby at_146) rfl ?_
        refine og_icY X153 hx 153 (hb hby at_148) (teq rfl).1 (by decide) (by decide) ?_
        refine og_iconst X153 hx (hb hby at_153) ?_
        refine own_newP X153 hx hZ151 (own_hw hw 8 rfl) e153 (hb hby at_154) (by decide) 4 (by decide) (by decide) (by decide) (by decide) ?_
        intro T154 h154 k154 b154 g154 X154 e154 E154 A154
        have ne_t151_b154 : t151 ≠ b154 := Nat.ne_of_lt (Nat.lt_of_lt_of_eq Et151.lt g154.symm)
        have ne_vb151_b154 : vb151 ≠ b154 := Nat.ne_of_lt (Nat.lt_of_lt_of_eq At151.lt g154.symm)
        have ge_b154 : n0 ≤ b154 := Nat.le_trans (own_oldle O151) (Nat.le_of_eq g154.symm)
        have hk154 := Nat.le_trans (Nat.le_refl _) E154.1
        have E_t151_154 := Et151.ext E154
        have F_t151_value_154 := Ft151.ext E154
        have F_t151_coder_154 := Ct151.ext E154
        have A_vb151_154 := At151.ext E154
        have C154 := C151.trans (CHr.ext E154 C151.1)
        have O154 := O151.ext E154
        have A_b154_154 : Arv Z h154 b154 k154 .char 4 [(.int (0 : Int32)), (.int (0 : Int32)), (.int (0 : Int32)), (.int (0 : Int32))] (.int (0 : Int32)) := A154
        show own_Go p e below _ T154 (mkF m 156 #[iv p1, iv p2, iv p3, iv p4, iv p5, iv 4, iv c1, iv c2, iv c3, iv c4, rv ca148, rv b149, rv t151, iv 3, iv 0, .unset] [(.ref b154)])
        refine og_dup X154 hx (hb hby at_156) rfl ?_
        refine og_iconst X154 hx (hb hby at_157) ?_
        refine og_iload X154 hx (hb hby at_158) rfl ?_
        refine own_stC X154 hx hZ151 e154 A_b154_154 ⟨by decide, by decide⟩ 0 rfl (by show 0 < 4; decide) (hb hby at_160) ?_
        intro T155 h155 X155 e155 W155 A155
        have hk155 := Nat.le_trans hk154 (Keep.of_wr W155).1
        have sf155 := (Safe.arv (EL := own_EL) hZ151.alike A_b154_154 (by decide))
        have C155 := C154.trans (CHr.wr W155 sf155 C154.1)
        have E_t151_155 := E_t151_154.wr W155
        have F_t151_value_155 := F_t151_value_154.other W155 (Or.inl ne_t151_b154)
        have F_t151_coder_155 := F_t151_coder_154.other W155 (Or.inl ne_t151_b154)
        have A_vb151_155 := A_vb151_154.other W155 ne_vb151_b154
        have O155 := O154.wr W155 ge_b154
        have N155 := Fr.snoc X155 N153 ge_b154
        have A_b154_155 : Arv Z h155 b154 k154 .char 4 [(.int c1), (.int (0 : Int32)), (.int (0 : Int32)), (.int (0 : Int32))] (.int (0 : Int32)) := (by have q := A155; rw [show nar .char c1 = c1 from own_ic _ hc1] at q; exact q)
        show own_Go p e below _ T155 (mkF m 161 #[iv p1, iv p2, iv p3, iv p4, iv p5, iv 4, iv c1, iv c2, iv c3, iv c4, rv ca148, rv b149, rv t151, iv 3, iv 0, .unset] [(.ref b154)])
        refine og_dup X155 hx (hb hby at_161) rfl ?_
        refine og_iconst X155 hx (hb hby at_162) ?_
        refine og_iload X155 hx (hb hby at_163) rfl ?_
        refine own_stC X155 hx hZ151 e155 A_b154_155 ⟨by decide, by decide⟩ 1 rfl (by show 1 < 4; decide) (hb hby at_165) ?_
        intro T156 h156 X156 e156 W156 A156
        have hk156 := Nat.le_trans hk155 (Keep.of_wr W156).1
        have sf156 := (Safe.arv (EL := own_EL) hZ151.alike A_b154_155 (by decide))
        have C156 := C155.trans (CHr.wr W156 sf156 C155.1)
        have E_t151_156 := E_t151_155.wr W156
        have F_t151_value_156 := F_t151_value_155.other W156 (Or.inl ne_t151_b154)
        have F_t151_coder_156 := F_t151_coder_155.other W156 (Or.inl ne_t151_b154)
        have A_vb151_156 := A_vb151_155.other W156 ne_vb151_b154
        have O156 := O155.wr W156 ge_b154
        have N156 := Fr.snoc X156 N155 ge_b154
        have A_b154_156 : Arv Z h156 b154 k154 .char 4 [(.int c1), (.int c2), (.int (0 : Int32)), (.int (0 : Int32))] (.int (0 : Int32)) := (by have q := A156; rw [show nar .char c2 = c2 from own_ic _ hc2] at q; exact q)
        show own_Go p e below _ T156 (mkF m 166 #[iv p1, iv p2, iv p3, iv p4, iv p5, iv 4, iv c1, iv c2, iv c3, iv c4, rv ca148, rv b149, rv t151, iv 3, iv 0, .unset] [(.ref b154)])
        refine og_dup X156 hx (hb hby at_166) rfl ?_
        refine og_iconst X156 hx (hb hby at_167) ?_
        refine og_iload X156 hx (hb hby at_168) rfl ?_
        refine own_stC X156 hx hZ151 e156 A_b154_156 ⟨by decide, by decide⟩ 2 rfl (by show 2 < 4; decide) (hb hby at_170) ?_
        intro T157 h157 X157 e157 W157 A157
        have hk157 := Nat.le_trans hk156 (Keep.of_wr W157).1
        have sf157 := (Safe.arv (EL := own_EL) hZ151.alike A_b154_156 (by decide))
        have C157 := C156.trans (CHr.wr W157 sf157 C156.1)
        have E_t151_157 := E_t151_156.wr W157
        have F_t151_value_157 := F_t151_value_156.other W157 (Or.inl ne_t151_b154)
        have F_t151_coder_157 := F_t151_coder_156.other W157 (Or.inl ne_t151_b154)
        have A_vb151_157 := A_vb151_156.other W157 ne_vb151_b154
        have O157 := O156.wr W157 ge_b154
        have N157 := Fr.snoc X157 N156 ge_b154
        have A_b154_157 : Arv Z h157 b154 k154 .char 4 [(.int c1), (.int c2), (.int c3), (.int (0 : Int32))] (.int (0 : Int32)) := (by have q := A157; rw [show nar .char c3 = c3 from own_ic _ hc3] at q; exact q)
        show own_Go p e below _ T157 (mkF m 171 #[iv p1, iv p2, iv p3, iv p4, iv p5, iv 4, iv c1, iv c2, iv c3, iv c4, rv ca148, rv b149, rv t151, iv 3, iv 0, .unset] [(.ref b154)])
        refine og_dup X157 hx (hb hby at_171) rfl ?_
        refine og_iconst X157 hx (hb hby at_172) ?_
        refine og_iload X157 hx (hb hby at_173) rfl ?_
        refine own_stC X157 hx hZ151 e157 A_b154_157 ⟨by decide, by decide⟩ 3 rfl (by show 3 < 4; decide) (hb hby at_175) ?_
        intro T158 h158 X158 e158 W158 A158
        have hk158 := Nat.le_trans hk157 (Keep.of_wr W158).1
        have sf158 := (Safe.arv (EL := own_EL) hZ151.alike A_b154_157 (by decide))
        have C158 := C157.trans (CHr.wr W158 sf158 C157.1)
        have E_t151_158 := E_t151_157.wr W158
        have F_t151_value_158 := F_t151_value_157.other W158 (Or.inl ne_t151_b154)
        have F_t151_coder_158 := F_t151_coder_157.other W158 (Or.inl ne_t151_b154)
        have A_vb151_158 := A_vb151_157.other W158 ne_vb151_b154
        have O158 := O157.wr W158 ge_b154
        have N158 := Fr.snoc X158 N157 ge_b154
        have A_b154_158 : Arv Z h158 b154 k154 .char 4 [(.int c1), (.int c2), (.int c3), (.int c4)] (.int (0 : Int32)) := (by have q := A158; rw [show nar .char c4 = c4 from own_ic _ hc4] at q; exact q)
        show own_Go p e below _ T158 (mkF m 176 #[iv p1, iv p2, iv p3, iv p4, iv p5, iv 4, iv c1, iv c2, iv c3, iv c4, rv ca148, rv b149, rv t151, iv 3, iv 0, .unset] [(.ref b154)])
        refine og_astore X158 hx #[iv p1, iv p2, iv p3, iv p4, iv p5, iv 4, iv c1, iv c2, iv c3, iv c4, rv ca148, rv b149, rv t151, iv 3, iv 0, rv b154] (hb hby at_176) rfl rfl ?_
        refine og_aload X158 hx (hb hby at_178) rfl rfl ?_
        refine og_iload X158 hx (hb hby at_180) rfl ?_
        refine og_iconst X158 hx (hb hby at_182) ?_
        refine og_aload X158 hx (hb hby at_183) rfl rfl ?_
        refine og_iload X158 hx (hb hby at_185) rfl ?_
        refine own_callS X158 hx hZ151 hown151 (own_hw hw 90 rfl) (own_hw hw 91 rfl) (own_hw hw 3 rfl) (own_hw hw 92 rfl) (by decide) (argsL := [(.ref t151), (.int 0), (.int 0), (.ref b154), (.int 3)]) (rest := []) (own_sm_0_0 l Z a0 hw t151 b154 3 h158 n0) e158 (by rw [hml]; rfl) (lenOf own_pd39901 rfl) rfl (hb hby at_187) (W := 0) (Nat.le_of_eq rfl) (by decide) ?_
        intro v159 T159 L159 X159 q159
        obtain ⟨rfl, N159q, e159⟩ := q159
        have N159 := Fr.app N158 N159q
        show own_Go p e below _ T159 (mkF m 190 #[iv p1, iv p2, iv p3, iv p4, iv p5, iv 4, iv c1, iv c2, iv c3, iv c4, rv ca148, rv b149, rv t151, iv 3, iv 0, rv b154] [(.int 1)])
        refine og_ifN X159 hx (hb hby at_190) (feq (by decide)).1 ?_
        refine og_aload X159 hx (hb hby at_193) rfl rfl ?_
        refine og_iload X159 hx (hb hby at_195) rfl ?_
        refine og_iconst X159 hx (hb hby at_197) ?_
        refine og_aload X159 hx (hb hby at_198) rfl rfl ?_
        refine og_iload X159 hx (hb hby at_200) rfl ?_
        refine own_callS X159 hx hZ151 hown151 (own_hw hw 90 rfl) (own_hw hw 91 rfl) (own_hw hw 3 rfl) (own_hw hw 92 rfl) (by decide) (argsL := [(.ref t151), (.int 0), (.int 1), (.ref b154), (.int 3)]) (rest := []) (own_sm_0_1 l Z a0 hw t151 b154 3 h158 n0) e159 (by rw [hml]; rfl) (lenOf own_pd39901 rfl) rfl (hb hby at_202) (W := 0) (Nat.le_of_eq rfl) (by decide) ?_
        intro v160 T160 L160 X160 q160
        obtain ⟨rfl, N160q, e160⟩ := q160
        have N160 := Fr.app N159 N160q
        show own_Go p e below _ T160 (mkF m 205 #[iv p1, iv p2, iv p3, iv p4, iv p5, iv 4, iv c1, iv c2, iv c3, iv c4, rv ca148, rv b149, rv t151, iv 3, iv 0, rv b154] [(.int 1)])
        refine og_ifN X160 hx (hb hby at_205) (feq (by decide)).1 ?_
        refine og_aload X160 hx (hb hby at_208) rfl rfl ?_
        refine og_iload X160 hx (hb hby at_210) rfl ?_
        refine og_iconst X160 hx (hb hby at_212) ?_
        refine og_aload X160 hx (hb hby at_213) rfl rfl ?_
        refine og_iload X160 hx (hb hby at_215) rfl ?_
        refine own_callS X160 hx hZ151 hown151 (own_hw hw 90 rfl) (own_hw hw 91 rfl) (own_hw hw 3 rfl) (own_hw hw 92 rfl) (by decide) (argsL := [(.ref t151), (.int 0), (.int 2), (.ref b154), (.int 3)]) (rest := []) (own_sm_0_2 l Z a0 hw t151 b154 3 h158 n0) e160 (by rw [hml]; rfl) (lenOf own_pd39901 rfl) rfl (hb hby at_217) (W := 0) (Nat.le_of_eq rfl) (by decide) ?_
        intro v161 T161 L161 X161 q161
        obtain ⟨rfl, N161q, e161⟩ := q161
        have N161 := Fr.app N160 N161q
        show own_Go p e below _ T161 (mkF m 220 #[iv p1, iv p2, iv p3, iv p4, iv p5, iv 4, iv c1, iv c2, iv c3, iv c4, rv ca148, rv b149, rv t151, iv 3, iv 0, rv b154] [(.int 1)])
        refine og_ifN X161 hx (hb hby at_220) (feq (by decide)).1 ?_
        refine og_aload X161 hx (hb hby at_223) rfl rfl ?_
        refine og_iload X161 hx (hb hby at_225) rfl ?_
        refine og_iconst X161 hx (hb hby at_227) ?_
        refine og_aload X161 hx (hb hby at_228) rfl rfl ?_
        refine og_iload X161 hx (hb hby at_230) rfl ?_
        refine own_callS X161 hx hZ151 hown151 (own_hw hw 90 rfl) (own_hw hw 91 rfl) (own_hw hw 3 rfl) (own_hw hw 92 rfl) (by decide) (argsL := [(.ref t151), (.int 0), (.int 3), (.ref b154), (.int 3)]) (rest := []) (own_sm_0_3 l Z a0 hw t151 b154 3 h158 n0) e161 (by rw [hml]; rfl) (lenOf own_pd39901 rfl) rfl (hb hby at_232) (W := 0) (Nat.le_of_eq rfl) (by decide) ?_
        intro v162 T162 L162 X162 q162
        obtain ⟨rfl, N162q, e162⟩ := q162
        have N162 := Fr.app N161 N162q
        show own_Go p e below _ T162 (mkF m 235 #[iv p1, iv p2, iv p3, iv p4, iv p5, iv 4, iv c1, iv c2, iv c3, iv c4, rv ca148, rv b149, rv t151, iv 3, iv 0, rv b154] [(.int 1)])
        refine og_ifN X162 hx (hb hby at_235) (feq (by decide)).1 ?_
        refine og_iconst X162 hx (hb hby at_238) ?_
        refine og_goto X162 hx 243 (hb hby at_239) (by decide) (by decide) ?_
        exact own_retIH X162 hx hret hlk (hb hby at_243) rfl (by simp) hZ151 (own_EW hw) C158 e162 hS151 hk158 (by decide) (by decide) (⟨rfl, N162⟩)
      intro tl152
      refine og_iload X151 hx (hb hby at_69) rfl ?_
      refine og_ifN X151 hx (hb hby at_71) (tlt (by decide)).2.2.2 ?_
      refine og_iload X151 hx (hb hby at_74) rfl ?_
      refine og_bipush X151 hx (hb hby at_76) ?_
      by_cases hc78 : c1 = 47
      · refine og_icN X151 hx (hb hby at_78) (teq hc78).2 ?_
        refine og_iconst X151 hx (hb hby at_81) ?_
        refine og_istore X151 hx #[iv p1, iv p2, iv p3, iv p4, iv p5, iv 4, iv c1, iv c2, iv c3, iv c4, rv ca148, rv b149, rv t151, iv 0, .unset, .unset] (hb hby at_82) rfl ?_
        refine og_iload X151 hx (hb hby at_84) rfl ?_
        refine og_iconst X151 hx (hb hby at_86) ?_
        refine og_icN X151 hx (hb hby at_87) (tlt (by decide)).2.2.2 ?_
        refine og_iload X151 hx (hb hby at_90) rfl ?_
        refine og_bipush X151 hx (hb hby at_92) ?_
        by_cases hc94 : c2 = 47
        · refine og_icN X151 hx (hb hby at_94) (teq hc94).2 ?_
          refine og_iconst X151 hx (hb hby at_97) ?_
          refine og_istore X151 hx #[iv p1, iv p2, iv p3, iv p4, iv p5, iv 4, iv c1, iv c2, iv c3, iv c4, rv ca148, rv b149, rv t151, iv 1, .unset, .unset] (hb hby at_98) rfl ?_
          refine og_iload X151 hx (hb hby at_100) rfl ?_
          refine og_iconst X151 hx (hb hby at_102) ?_
          refine og_icN X151 hx (hb hby at_103) (tlt (by decide)).2.2.2 ?_
          refine og_iload X151 hx (hb hby at_106) rfl ?_
          refine og_bipush X151 hx (hb hby at_108) ?_
          by_cases hc110 : c3 = 47
          · refine og_icN X151 hx (hb hby at_110) (teq hc110).2 ?_
            refine og_iconst X151 hx (hb hby at_113) ?_
            refine og_istore X151 hx #[iv p1, iv p2, iv p3, iv p4, iv p5, iv 4, iv c1, iv c2, iv c3, iv c4, rv ca148, rv b149, rv t151, iv 2, .unset, .unset] (hb hby at_114) rfl ?_
            exact tl152 _
          · refine og_icY X151 hx 116 (hb hby at_110) (feq hc110).2 (by decide) (by decide) ?_
            exact tl152 _
        · refine og_icY X151 hx 100 (hb hby at_94) (feq hc94).2 (by decide) (by decide) ?_
          refine og_iload X151 hx (hb hby at_100) rfl ?_
          refine og_iconst X151 hx (hb hby at_102) ?_
          refine og_icN X151 hx (hb hby at_103) (tlt (by decide)).2.2.2 ?_
          refine og_iload X151 hx (hb hby at_106) rfl ?_
          refine og_bipush X151 hx (hb hby at_108) ?_
          by_cases hc110 : c3 = 47
          · refine og_icN X151 hx (hb hby at_110) (teq hc110).2 ?_
            refine og_iconst X151 hx (hb hby at_113) ?_
            refine og_istore X151 hx #[iv p1, iv p2, iv p3, iv p4, iv p5, iv 4, iv c1, iv c2, iv c3, iv c4, rv ca148, rv b149, rv t151, iv 2, .unset, .unset] (hb hby at_114) rfl ?_
            exact tl152 _
          · refine og_icY X151 hx 116 (hb hby at_110) (feq hc110).2 (by decide) (by decide) ?_
            exact tl152 _
      · refine og_icY X151 hx 84 (hb hby at_78) (feq hc78).2 (by decide) (by decide) ?_
        refine og_iload X151 hx (hb hby at_84) rfl ?_
        refine og_iconst X151 hx (hb hby at_86) ?_
        refine og_icN X151 hx (hb hby at_87) (tlt (by decide)).2.2.2 ?_
        refine og_iload X151 hx (hb hby at_90) rfl ?_
        refine og_bipush X151 hx (hb hby at_92) ?_
        by_cases hc94 : c2 = 47
        · refine og_icN X151 hx (hb hby at_94) (teq hc94).2 ?_
          refine og_iconst X151 hx (hb hby at_97) ?_
          refine og_istore X151 hx #[iv p1, iv p2, iv p3, iv p4, iv p5, iv 4, iv c1, iv c2, iv c3, iv c4, rv ca148, rv b149, rv t151, iv 1, .unset, .unset] (hb hby at_98) rfl ?_
          refine og_iload X151 hx (hb hby at_100) rfl ?_
          refine og_iconst X151 hx (hb hby at_102) ?_
          refine og_icN X151 hx (hb hby at_103) (tlt (by decide)).2.2.2 ?_
          refine og_iload X151 hx (hb hby at_106) rfl ?_
          refine og_bipush X151 hx (hb hby at_108) ?_
          by_cases hc110 : c3 = 47
          · refine og_icN X151 hx (hb hby at_110) (teq hc110).2 ?_
            refine og_iconst X151 hx (hb hby at_113) ?_
            refine og_istore X151 hx #[iv p1, iv p2, iv p3, iv p4, iv p5, iv 4, iv c1, iv c2, iv c3, iv c4, rv ca148, rv b149, rv t151, iv 2, .unset, .unset] (hb hby at_114) rfl ?_
            exact tl152 _
          · refine og_icY X151 hx 116 (hb hby at_110) (feq hc110).2 (by decide) (by decide) ?_
            exact tl152 _
        · refine og_icY X151 hx 100 (hb hby at_94) (feq hc94).2 (by decide) (by decide) ?_
          refine og_iload X151 hx (hb hby at_100) rfl ?_
          refine og_iconst X151 hx (hb hby at_102) ?_
          refine og_icN X151 hx (hb hby at_103) (tlt (by decide)).2.2.2 ?_
          refine og_iload X151 hx (hb hby at_106) rfl ?_
          refine og_bipush X151 hx (hb hby at_108) ?_
          by_cases hc110 : c3 = 47
          · refine og_icN X151 hx (hb hby at_110) (teq hc110).2 ?_
            refine og_iconst X151 hx (hb hby at_113) ?_
            refine og_istore X151 hx #[iv p1, iv p2, iv p3, iv p4, iv p5, iv 4, iv c1, iv c2, iv c3, iv c4, rv ca148, rv b149, rv t151, iv 2, .unset, .unset] (hb hby at_114) rfl ?_
            exact tl152 _
          · refine og_icY X151 hx 116 (hb hby at_110) (feq hc110).2 (by decide) (by decide) ?_
            exact tl152 _
    · show own_Go p e below _ T4 (mkF m 35 #[iv p1, iv p2, iv p3, iv p4, iv p5, iv 4, iv c1, iv c2, iv c3, iv c4, .unset, .unset, .unset, .unset, .unset, .unset] [(.int 4)])
      refine og_iload X4 hx (hb hby at_35) rfl ?_
      refine og_iload X4 hx (hb hby at_37) rfl ?_
      refine og_iload X4 hx (hb hby at_39) rfl ?_
      refine og_iload X4 hx (hb hby at_41) rfl ?_
      refine own_callS X4 hx hZ hown (own_hw hw 5 rfl) (own_hw hw 6 rfl) (own_hw hw 3 rfl) (own_hw hw 7 rfl) (by decide) (argsL := [(.int 4), (.int c1), (.int c2), (.int c3), (.int c4)]) (rest := []) (own_mk4 l Z a0 hw c1 c2 c3 c4 h0 n0 hO hc1 hc2 hc3 hc4) e4 (by rw [hml]; rfl) (lenOf own_pd92197 rfl) rfl (hb hby at_43) (W := 0) (Nat.le_of_eq rfl) (by decide) ?_
      intro v163 T163 L163 X163 q163
      obtain ⟨ca163, k163, rfl, N163q, K163q, z163q, g163q, A163q⟩ := q163
      have N163 := Fr.app N4 N163q
      have hk163 := Nat.le_trans hk K163q.1
      have hs163 : ∀ x ∈ ([] : List Addr), Safe Z own_EL s.vm h0 x := sf0
      have C163 := C0.trans (CHr.keep K163q hs163 C0.1)
      have O163 := hO.keep K163q all0
      show own_Go p e below _ T163 (mkF m 46 #[iv p1, iv p2, iv p3, iv p4, iv p5, iv 4, iv c1, iv c2, iv c3, iv c4, .unset, .unset, .unset, .unset, .unset, .unset] [(.ref ca163)])
      refine og_astore X163 hx #[iv p1, iv p2, iv p3, iv p4, iv p5, iv 4, iv c1, iv c2, iv c3, iv c4, rv ca163, .unset, .unset, .unset, .unset, .unset] (hb hby at_46) rfl rfl ?_
      refine own_newO X163 hx hZ hown (own_hw hw 9 rfl) (own_hw hw 10 rfl) (own_hw hw 11 rfl) rfl (hb hby at_48) (by decide) (by decide) ?_
      intro T164 h164 b164 g164 X164 e164 E164 A164 D164
      have ne_ca163_b164 : ca163 ≠ b164 := Nat.ne_of_lt (Nat.lt_of_lt_of_eq A163q.lt g164.symm)
      have ge_b164 : n0 ≤ b164 := Nat.le_trans (own_oldle O163) (Nat.le_of_eq g164.symm)
      have S_b164 : Safe Z own_EL s.vm T163.heap b164 := Safe.new (Nat.le_of_eq g164.symm)
      have hk164 := Nat.le_trans hk163 E164.1
      have A_ca163_164 := A163q.ext E164
      have S_b164_164 := Safe.ext E164 C163.1 S_b164
      have C164 := C163.trans (CHr.ext E164 C163.1)
      have O164 := O163.ext E164
      have F_b164_value_164 : Fld Z h164 b164 "java/lang/String" "value" "[B" .null := D164 (Or.inr (own_hw hw 24 rfl)) (ty := (.array .byte)) (by decide)
      have F_b164_coder_164 : Fld Z h164 b164 "java/lang/String" "coder" "B" (.int 0) := D164 (Or.inr (own_hw hw 25 rfl)) (ty := .byte) (by decide)
      show own_Go p e below _ T164 (mkF m 51 #[iv p1, iv p2, iv p3, iv p4, iv p5, iv 4, iv c1, iv c2, iv c3, iv c4, rv ca163, .unset, .unset, .unset, .unset, .unset] [(.ref b164)])
      refine og_dup X164 hx (hb hby at_51) rfl ?_
      refine og_aload X164 hx (hb hby at_52) rfl rfl ?_
      have hws : ∀ d ∈ StrChars.Road.words, d.before a0 Z = true := fun d hd => hw d ((by decide +kernel : ∀ d ∈ StrChars.Road.words, d ∈ tables_1) d hd)
      have hp165 : ∀ c ∈ ([c1, c2, c3, c4] : List Int32), ¬ c < 0 ∧ ¬ (255 : Int32) < c := by
        intro c hc; simp only [List.mem_cons, List.not_mem_nil, or_false] at hc; rcases hc with rfl | rfl | rfl | rfl <;> assumption
      refine own_callNB X164 hx hZ hown (own_hw hw 12 rfl) (own_hw hw 13 rfl) (own_hw hw 14 rfl) (own_hw hw 11 rfl) (by decide) rfl (b := b164) (argsL := [(.ref ca163)]) (rest := [(.ref b164)]) (StrChars.Road.backV (W := 1) hZ hws (kI := 4) (own_hw hw 10 rfl) (cs := ([c1, c2, c3, c4] : List Int32)) (bs := (([c1, c2, c3, c4] : List Int32)).map (fun c => c.toInt8.toInt32)) (n := 4) ge_b164 (own_oldle O164) A164 F_b164_value_164 F_b164_coder_164 A_ca163_164 (SC.ext O164.2) hz rfl rfl (by decide) (by decide) hp165 rfl (by decide) (by decide)) e164 (by rw [hml]; rfl) (lenOf own_pd46664 rfl) rfl (hb hby at_54) (Nat.le_of_eq rfl) (by decide) (by decide) ?_
      intro v165 T165 L165 X165 q165
      obtain ⟨rfl, N165q, K165q, E165q, C165q, vb165, kb165, ge165, z165q, ne165q, V165q, A165q⟩ := q165
      have N165 := Fr.app N163 N165q
      have ne_b164_vb165 : b164 ≠ vb165 := Nat.ne_of_lt (Nat.lt_of_lt_of_le A164.lt z165q)
      have ne_ca163_vb165 : ca163 ≠ vb165 := Nat.ne_of_lt (Nat.lt_of_lt_of_le A_ca163_164.lt z165q)
      have hk165 := Nat.le_trans hk164 K165q.1
      have hs165 : ∀ x ∈ ([b164] : List Addr), Safe Z own_EL s.vm h164 x := (sfS S_b164_164 sf0)
      have C165 := C164.trans (CHr.keep K165q hs165 C164.1)
      have A_ca163_165 := A_ca163_164.keep K165q (ninS ne_ca163_b164 nin0)
      have S_b164_165 := Safe.keep K165q hs165 C164.1 S_b164_164
      have E_b164_165 := A164.keep K165q
      have O165 := O164.keep K165q (allS ge_b164 all0)
      show own_Go p e below _ T165 (mkF m 57 #[iv p1, iv p2, iv p3, iv p4, iv p5, iv 4, iv c1, iv c2, iv c3, iv c4, rv ca163, .unset, .unset, .unset, .unset, .unset] [(.ref b164)])
      refine og_astore X165 hx #[iv p1, iv p2, iv p3, iv p4, iv p5, iv 4, iv c1, iv c2, iv c3, iv c4, rv ca163, rv b164, .unset, .unset, .unset, .unset] (hb hby at_57) rfl rfl ?_
      refine og_aload X165 hx (hb hby at_59) rfl rfl ?_
      refine own_callS X165 hx hZ hown (own_hw hw 30 rfl) (own_hw hw 31 rfl) (own_hw hw 32 rfl) (own_hw hw 33 rfl) (by decide) (argsL := [(.ref b164)]) (rest := []) (own_po_4_2 l Z a0 hw z sf b164 vb165 _ _ c1 c2 c3 c4 T165.heap n0 O165 hG hc4 m3 k2 E_b164_165 V165q C165q A165q) rfl (by rw [hml]; rfl) (lenOf own_pd11897 rfl) rfl (hb hby at_61) (W := 0) (Nat.le_of_eq rfl) (by decide) ?_
      intro v166 T166 L166 X166 q166
      obtain ⟨t166, vb166, k166, rfl, N166q, K166q, zt166, gt166, zb166, gb166, ne_t166_vb166, Et166, Ft166, Ct166, At166⟩ := q166
      have N166 := Fr.app N165 N166q
      have ne_b164_t166 : b164 ≠ t166 := Nat.ne_of_lt (Nat.lt_of_lt_of_le E_b164_165.lt zt166)
      have ne_vb165_t166 : vb165 ≠ t166 := Nat.ne_of_lt (Nat.lt_of_lt_of_le A165q.lt zt166)
      have ne_b164_vb166 : b164 ≠ vb166 := Nat.ne_of_lt (Nat.lt_of_lt_of_le E_b164_165.lt zb166)
      have ne_vb165_vb166 : vb165 ≠ vb166 := Nat.ne_of_lt (Nat.lt_of_lt_of_le A165q.lt zb166)
      have hk166 := Nat.le_trans hk165 K166q.1
      have hs166 : ∀ x ∈ ([] : List Addr), Safe Z own_EL s.vm T165.heap x := sf0
      have C166 := C165.trans (CHr.keep K166q hs166 C165.1)
      have E_b164_166 := E_b164_165.keep K166q
      have F_b164_value_166 := V165q.keep K166q nin0
      have F_b164_coder_166 := C165q.keep K166q nin0
      have A_vb165_166 := A165q.keep K166q nin0
      have O166 := O165.keep K166q all0
      show own_Go p e below _ T166 (mkF m 64 #[iv p1, iv p2, iv p3, iv p4, iv p5, iv 4, iv c1, iv c2, iv c3, iv c4, rv ca163, rv b164, .unset, .unset, .unset, .unset] [(.ref t166)])
      refine og_astore X166 hx #[iv p1, iv p2, iv p3, iv p4, iv p5, iv 4, iv c1, iv c2, iv c3, iv c4, rv ca163, rv b164, rv t166, .unset, .unset, .unset] (hb hby at_64) rfl rfl ?_
      refine og_iconst X166 hx (hb hby at_66) ?_
      refine og_istore X166 hx #[iv p1, iv p2, iv p3, iv p4, iv p5, iv 4, iv c1, iv c2, iv c3, iv c4, rv ca163, rv b164, rv t166, iv (-1), .unset, .unset] (hb hby at_67) rfl ?_
      refine own_cut (F := fun v167 : Int32 => (mkF m 100 #[iv p1, iv p2, iv p3, iv p4, iv p5, iv 4, iv c1, iv c2, iv c3, iv c4, rv ca163, rv b164, rv t166, iv v167, .unset, .unset] [])) ?_ ?_
      · intro v167
        show own_Go p e below _ T166 (mkF m 100 #[iv p1, iv p2, iv p3, iv p4, iv p5, iv 4, iv c1, iv c2, iv c3, iv c4, rv ca163, rv b164, rv t166, iv v167, .unset, .unset] [])
        refine og_iload X166 hx (hb hby at_100) rfl ?_
        refine og_iconst X166 hx (hb hby at_102) ?_
        refine og_icN X166 hx (hb hby at_103) (tlt (by decide)).2.2.2 ?_
        refine og_iload X166 hx (hb hby at_106) rfl ?_
        refine og_bipush X166 hx (hb hby at_108) ?_
        refine og_icN X166 hx (hb hby at_110) (teq k2).2 ?_
        refine og_iconst X166 hx (hb hby at_113) ?_
        refine og_istore X166 hx #[iv p1, iv p2, iv p3, iv p4, iv p5, iv 4, iv c1, iv c2, iv c3, iv c4, rv ca163, rv b164, rv t166, iv 2, .unset, .unset] (hb hby at_114) rfl ?_
        refine og_iload X166 hx (hb hby at_116) rfl ?_
        refine og_iconst X166 hx (hb hby at_118) ?_
        refine og_icN X166 hx (hb hby at_119) (tlt (by decide)).2.2.2 ?_
        refine og_iload X166 hx (hb hby at_122) rfl ?_
        refine og_bipush X166 hx (hb hby at_124) ?_
        refine og_icY X166 hx 132 (hb hby at_126) (feq m3).2 (by decide) (by decide) ?_
        refine og_iload X166 hx (hb hby at_132) rfl ?_
        refine og_iload X166 hx (hb hby at_134) rfl ?_
        refine og_isub X166 hx (hb hby at_136) ?_
        refine og_iconst X166 hx (hb hby at_137) ?_
        refine og_isub X166 hx (hb hby at_138) ?_
        refine og_istore X166 hx #[iv p1, iv p2, iv p3, iv p4, iv p5, iv 4, iv c1, iv c2, iv c3, iv c4, rv ca163, rv b164, rv t166, iv 2, iv 1, .unset] (hb hby at_139) rfl ?_
        refine og_aload X166 hx (hb hby at_141) rfl rfl ?_
        refine own_callV X166 hx hZ hown (own_hw hw 89 rfl) (own_hw hw 40 rfl) (notFace_of_selects (args := #[]) (mvT hZ (own_hw hw 42 rfl))) (own_hw hw 42 rfl) (own_hw hw 41 rfl) (own_hw hw 43 rfl) (own_hw hw 11 rfl) (by decide) (b := t166) (argsL := []) (rest := []) (own_slen l Z a0 hw z sf t166 vb166 _ _ 1 _ T166.heap n0 O166 hG Et166 Ft166 Ct166 At166) rfl Et166 (by rw [hml]; rfl) (lenOf own_pd13941 rfl) rfl (hb hby at_143) (W := 0) (Nat.le_of_eq rfl) (by decide) ?_
        intro v168 T168 L168 X168 q168
        obtain ⟨rfl, N168q, e168⟩ := q168
        have N168 := Fr.app N166 N168q
        show own_Go p e below _ T168 (mkF m 146 #[iv p1, iv p2, iv p3, iv p4, iv p5, iv 4, iv c1, iv c2, iv c3, iv c4, rv ca163, rv b164, rv t166, iv 2, iv 1, .unset] [(.int 1)])
        refine og_iload X168 hx (hb hby at_146) rfl ?_
        refine og_icY X168 hx 153 (hb hby at_148) (teq rfl).1 (by decide) (by decide) ?_
        refine og_iconst X168 hx (hb hby at_153) ?_
        refine own_newP X168 hx hZ (own_hw hw 8 rfl) e168 (hb hby at_154) (by decide) 4 (by decide) (by decide) (by decide) (by decide) ?_
        intro T169 h169 k169 b169 g169 X169 e169 E169 A169
        have ne_t166_b169 : t166 ≠ b169 := Nat.ne_of_lt (Nat.lt_of_lt_of_eq Et166.lt g169.symm)
        have ne_vb166_b169 : vb166 ≠ b169 := Nat.ne_of_lt (Nat.lt_of_lt_of_eq At166.lt g169.symm)
        have ge_b169 : n0 ≤ b169 := Nat.le_trans (own_oldle O166) (Nat.le_of_eq g169.symm)
        have hk169 := Nat.le_trans hk166 E169.1
        have E_t166_169 := Et166.ext E169
        have F_t166_value_169 := Ft166.ext E169
        have F_t166_coder_169 := Ct166.ext E169
        have A_vb166_169 := At166.ext E169
        have C169 := C166.trans (CHr.ext E169 C166.1)
        have O169 := O166.ext E169
        have A_b169_169 : Arv Z h169 b169 k169 .char 4 [(.int (0 : Int32)), (.int (0 : Int32)), (.int (0 : Int32)), (.int (0 : Int32))] (.int (0 : Int32)) := A169
        show own_Go p e below _ T169 (mkF m 156 #[iv p1, iv p2, iv p3, iv p4, iv p5, iv 4, iv c1, iv c2, iv c3, iv c4, rv ca163, rv b164, rv t166, iv 2, iv 1, .unset] [(.ref b169)])
        refine og_dup X169 hx (hb hby at_156) rfl ?_
        refine og_iconst X169 hx (hb hby at_157) ?_
        refine og_iload X169 hx (hb hby at_158) rfl ?_
        refine own_stC X169 hx hZ e169 A_b169_169 ⟨by decide, by decide⟩ 0 rfl (by show 0 < 4; decide) (hb hby at_160) ?_
        intro T170 h170 X170 e170 W170 A170
        have hk170 := Nat.le_trans hk169 (Keep.of_wr W170).1
        have sf170 := (Safe.arv (EL := own_EL) hZ.alike A_b169_169 (by decide))
        have C170 := C169.trans (CHr.wr W170 sf170 C169.1)
        have E_t166_170 := E_t166_169.wr W170
        have F_t166_value_170 := F_t166_value_169.other W170 (Or.inl ne_t166_b169)
        have F_t166_coder_170 := F_t166_coder_169.other W170 (Or.inl ne_t166_b169)
        have A_vb166_170 := A_vb166_169.other W170 ne_vb166_b169
        have O170 := O169.wr W170 ge_b169
        have N170 := Fr.snoc X170 N168 ge_b169
        have A_b169_170 : Arv Z h170 b169 k169 .char 4 [(.int c1), (.int (0 : Int32)), (.int (0 : Int32)), (.int (0 : Int32))] (.int (0 : Int32)) := (by have q := A170; rw [show nar .char c1 = c1 from own_ic _ hc1] at q; exact q)
        show own_Go p e below _ T170 (mkF m 161 #[iv p1, iv p2, iv p3, iv p4, iv p5, iv 4, iv c1, iv c2, iv c3, iv c4, rv ca163, rv b164, rv t166, iv 2, iv 1, .unset] [(.ref b169)])
        refine og_dup X170 hx (hb hby at_161) rfl ?_
        refine og_iconst X170 hx (hb hby at_162) ?_
        refine og_iload X170 hx (hb hby at_163) rfl ?_
        refine own_stC X170 hx hZ e170 A_b169_170 ⟨by decide, by decide⟩ 1 rfl (by show 1 < 4; decide) (hb hby at_165) ?_
        intro T171 h171 X171 e171 W171 A171
        have hk171 := Nat.le_trans hk170 (Keep.of_wr W171).1
        have sf171 := (Safe.arv (EL := own_EL) hZ.alike A_b169_170 (by decide))
        have C171 := C170.trans (CHr.wr W171 sf171 C170.1)
        have E_t166_171 := E_t166_170.wr W171
        have F_t166_value_171 := F_t166_value_170.other W171 (Or.inl ne_t166_b169)
        have F_t166_coder_171 := F_t166_coder_170.other W171 (Or.inl ne_t166_b169)
        have A_vb166_171 := A_vb166_170.other W171 ne_vb166_b169
        have O171 := O170.wr W171 ge_b169
        have N171 := Fr.snoc X171 N170 ge_b169
        have A_b169_171 : Arv Z h171 b169 k169 .char 4 [(.int c1), (.int c2), (.int (0 : Int32)), (.int (0 : Int32))] (.int (0 : Int32)) := (by have q := A171; rw [show nar .char c2 = c2 from own_ic _ hc2] at q; exact q)
        show own_Go p e below _ T171 (mkF m 166 #[iv p1, iv p2, iv p3, iv p4, iv p5, iv 4, iv c1, iv c2, iv c3, iv c4, rv ca163, rv b164, rv t166, iv 2, iv 1, .unset] [(.ref b169)])
        refine og_dup X171 hx (hb hby at_166) rfl ?_
        refine og_iconst X171 hx (hb hby at_167) ?_
        refine og_iload X171 hx (hb hby at_168) rfl ?_
        refine own_stC X171 hx hZ e171 A_b169_171 ⟨by decide, by decide⟩ 2 rfl (by show 2 < 4; decide) (hb hby at_170) ?_
        intro T172 h172 X172 e172 W172 A172
        have hk172 := Nat.le_trans hk171 (Keep.of_wr W172).1
        have sf172 := (Safe.arv (EL := own_EL) hZ.alike A_b169_171 (by decide))
        have C172 := C171.trans (CHr.wr W172 sf172 C171.1)
        have E_t166_172 := E_t166_171.wr W172
        have F_t166_value_172 := F_t166_value_171.other W172 (Or.inl ne_t166_b169)
        have F_t166_coder_172 := F_t166_coder_171.other W172 (Or.inl ne_t166_b169)
        have A_vb166_172 := A_vb166_171.other W172 ne_vb166_b169
        have O172 := O171.wr W172 ge_b169
        have N172 := Fr.snoc X172 N171 ge_b169
        have A_b169_172 : Arv Z h172 b169 k169 .char 4 [(.int c1), (.int c2), (.int c3), (.int (0 : Int32))] (.int (0 : Int32)) := (by have q := A172; rw [show nar .char c3 = c3 from own_ic _ hc3] at q; exact q)
        show own_Go p e below _ T172 (mkF m 171 #[iv p1, iv p2, iv p3, iv p4, iv p5, iv 4, iv c1, iv c2, iv c3, iv c4, rv ca163, rv b164, rv t166, iv 2, iv 1, .unset] [(.ref b169)])
        refine og_dup X172 hx (hb hby at_171) rfl ?_
        refine og_iconst X172 hx (hb hby at_172) ?_
        refine og_iload X172 hx (hb hby at_173) rfl ?_
        refine own_stC X172 hx hZ e172 A_b169_172 ⟨by decide, by decide⟩ 3 rfl (by show 3 < 4; decide) (hb hby at_175) ?_
        intro T173 h173 X173 e173 W173 A173
        have hk173 := Nat.le_trans hk172 (Keep.of_wr W173).1
        have sf173 := (Safe.arv (EL := own_EL) hZ.alike A_b169_172 (by decide))
        have C173 := C172.trans (CHr.wr W173 sf173 C172.1)
        have E_t166_173 := E_t166_172.wr W173
        have F_t166_value_173 := F_t166_value_172.other W173 (Or.inl ne_t166_b169)
        have F_t166_coder_173 := F_t166_coder_172.other W173 (Or.inl ne_t166_b169)
        have A_vb166_173 := A_vb166_172.other W173 ne_vb166_b169
        have O173 := O172.wr W173 ge_b169
        have N173 := Fr.snoc X173 N172 ge_b169
        have A_b169_173 : Arv Z h173 b169 k169 .char 4 [(.int c1), (.int c2), (.int c3), (.int c4)] (.int (0 : Int32)) := (by have q := A173; rw [show nar .char c4 = c4 from own_ic _ hc4] at q; exact q)
        show own_Go p e below _ T173 (mkF m 176 #[iv p1, iv p2, iv p3, iv p4, iv p5, iv 4, iv c1, iv c2, iv c3, iv c4, rv ca163, rv b164, rv t166, iv 2, iv 1, .unset] [(.ref b169)])
        refine og_astore X173 hx #[iv p1, iv p2, iv p3, iv p4, iv p5, iv 4, iv c1, iv c2, iv c3, iv c4, rv ca163, rv b164, rv t166, iv 2, iv 1, rv b169] (hb hby at_176) rfl rfl ?_
        refine og_aload X173 hx (hb hby at_178) rfl rfl ?_
        refine og_iload X173 hx (hb hby at_180) rfl ?_
        refine og_iconst X173 hx (hb hby at_182) ?_
        refine og_aload X173 hx (hb hby at_183) rfl rfl ?_
        refine og_iload X173 hx (hb hby at_185) rfl ?_
        refine own_callS X173 hx hZ hown (own_hw hw 90 rfl) (own_hw hw 91 rfl) (own_hw hw 3 rfl) (own_hw hw 92 rfl) (by decide) (argsL := [(.ref t166), (.int 1), (.int 0), (.ref b169), (.int 2)]) (rest := []) (own_sm_1_0_2 l Z a0 hw z sf t166 vb166 _ _ b169 _ _ c1 c2 c3 c4 h173 n0 O173 hG hc4 E_t166_173 F_t166_value_173 F_t166_coder_173 A_vb166_173 A_b169_173) e173 (by rw [hml]; rfl) (lenOf own_pd39901 rfl) rfl (hb hby at_187) (W := 0) (Nat.le_of_eq rfl) (by decide) ?_
        intro v174 T174 L174 X174 q174
        obtain ⟨rfl, N174q, e174⟩ := q174
        have N174 := Fr.app N173 N174q
        show own_Go p e below _ T174 (mkF m 190 #[iv p1, iv p2, iv p3, iv p4, iv p5, iv 4, iv c1, iv c2, iv c3, iv c4, rv ca163, rv b164, rv t166, iv 2, iv 1, rv b169] [(.int 1)])
        refine og_ifN X174 hx (hb hby at_190) (feq (by decide)).1 ?_
        refine og_aload X174 hx (hb hby at_193) rfl rfl ?_
        refine og_iload X174 hx (hb hby at_195) rfl ?_
        refine og_iconst X174 hx (hb hby at_197) ?_
        refine og_aload X174 hx (hb hby at_198) rfl rfl ?_
        refine og_iload X174 hx (hb hby at_200) rfl ?_
        refine own_callS X174 hx hZ hown (own_hw hw 90 rfl) (own_hw hw 91 rfl) (own_hw hw 3 rfl) (own_hw hw 92 rfl) (by decide) (argsL := [(.ref t166), (.int 1), (.int 1), (.ref b169), (.int 2)]) (rest := []) (own_sm_1_1 l Z a0 hw t166 b169 2 h173 n0) e174 (by rw [hml]; rfl) (lenOf own_pd39901 rfl) rfl (hb hby at_202) (W := 0) (Nat.le_of_eq rfl) (by decide) ?_
        intro v175 T175 L175 X175 q175
        obtain ⟨rfl, N175q, e175⟩ := q175
        have N175 := Fr.app N174 N175q
        show own_Go p e below _ T175 (mkF m 205 #[iv p1, iv p2, iv p3, iv p4, iv p5, iv 4, iv c1, iv c2, iv c3, iv c4, rv ca163, rv b164, rv t166, iv 2, iv 1, rv b169] [(.int 1)])
        refine og_ifN X175 hx (hb hby at_205) (feq (by decide)).1 ?_
        refine og_aload X175 hx (hb hby at_208) rfl rfl ?_
        refine og_iload X175 hx (hb hby at_210) rfl ?_
        refine og_iconst X175 hx (hb hby at_212) ?_
        refine og_aload X175 hx (hb hby at_213) rfl rfl ?_
        refine og_iload X175 hx (hb hby at_215) rfl ?_
        refine own_callS X175 hx hZ hown (own_hw hw 90 rfl) (own_hw hw 91 rfl) (own_hw hw 3 rfl) (own_hw hw 92 rfl) (by decide) (argsL := [(.ref t166), (.int 1), (.int 2), (.ref b169), (.int 2)]) (rest := []) (own_sm_1_2 l Z a0 hw t166 b169 2 h173 n0) e175 (by rw [hml]; rfl) (lenOf own_pd39901 rfl) rfl (hb hby at_217) (W := 0) (Nat.le_of_eq rfl) (by decide) ?_
        intro v176 T176 L176 X176 q176
        obtain ⟨rfl, N176q, e176⟩ := q176
        have N176 := Fr.app N175 N176q
        show own_Go p e below _ T176 (mkF m 220 #[iv p1, iv p2, iv p3, iv p4, iv p5, iv 4, iv c1, iv c2, iv c3, iv c4, rv ca163, rv b164, rv t166, iv 2, iv 1, rv b169] [(.int 1)])
        refine og_ifN X176 hx (hb hby at_220) (feq (by decide)).1 ?_
        refine og_aload X176 hx (hb hby at_223) rfl rfl ?_
        refine og_iload X176 hx (hb hby at_225) rfl ?_
        refine og_iconst X176 hx (hb hby at_227) ?_
        refine og_aload X176 hx (hb hby at_228) rfl rfl ?_
        refine og_iload X176 hx (hb hby at_230) rfl ?_
        refine own_callS X176 hx hZ hown (own_hw hw 90 rfl) (own_hw hw 91 rfl) (own_hw hw 3 rfl) (own_hw hw 92 rfl) (by decide) (argsL := [(.ref t166), (.int 1), (.int 3), (.ref b169), (.int 2)]) (rest := []) (own_sm_1_3 l Z a0 hw t166 b169 2 h173 n0) e176 (by rw [hml]; rfl) (lenOf own_pd39901 rfl) rfl (hb hby at_232) (W := 0) (Nat.le_of_eq rfl) (by decide) ?_
        intro v177 T177 L177 X177 q177
        obtain ⟨rfl, N177q, e177⟩ := q177
        have N177 := Fr.app N176 N177q
        show own_Go p e below _ T177 (mkF m 235 #[iv p1, iv p2, iv p3, iv p4, iv p5, iv 4, iv c1, iv c2, iv c3, iv c4, rv ca163, rv b164, rv t166, iv 2, iv 1, rv b169] [(.int 1)])
        refine og_ifN X177 hx (hb hby at_235) (feq (by decide)).1 ?_
        refine og_iconst X177 hx (hb hby at_238) ?_
        refine og_goto X177 hx 243 (hb hby at_239) (by decide) (by decide) ?_
        exact own_retIH X177 hx hret hlk (hb hby at_243) rfl (by simp) hZ (own_EW hw) C173 e177 hS hk173 (by decide) (by decide) (⟨rfl, N177⟩)
      intro tl167
      refine og_iload X166 hx (hb hby at_69) rfl ?_
      refine og_ifN X166 hx (hb hby at_71) (tlt (by decide)).2.2.2 ?_
      refine og_iload X166 hx (hb hby at_74) rfl ?_
      refine og_bipush X166 hx (hb hby at_76) ?_
      by_cases hc78 : c1 = 47
      · refine og_icN X166 hx (hb hby at_78) (teq hc78).2 ?_
        refine og_iconst X166 hx (hb hby at_81) ?_
        refine og_istore X166 hx #[iv p1, iv p2, iv p3, iv p4, iv p5, iv 4, iv c1, iv c2, iv c3, iv c4, rv ca163, rv b164, rv t166, iv 0, .unset, .unset] (hb hby at_82) rfl ?_
        refine og_iload X166 hx (hb hby at_84) rfl ?_
        refine og_iconst X166 hx (hb hby at_86) ?_
        refine og_icN X166 hx (hb hby at_87) (tlt (by decide)).2.2.2 ?_
        refine og_iload X166 hx (hb hby at_90) rfl ?_
        refine og_bipush X166 hx (hb hby at_92) ?_
        by_cases hc94 : c2 = 47
        · refine og_icN X166 hx (hb hby at_94) (teq hc94).2 ?_
          refine og_iconst X166 hx (hb hby at_97) ?_
          refine og_istore X166 hx #[iv p1, iv p2, iv p3, iv p4, iv p5, iv 4, iv c1, iv c2, iv c3, iv c4, rv ca163, rv b164, rv t166, iv 1, .unset, .unset] (hb hby at_98) rfl ?_
          exact tl167 _
        · refine og_icY X166 hx 100 (hb hby at_94) (feq hc94).2 (by decide) (by decide) ?_
          exact tl167 _
      · refine og_icY X166 hx 84 (hb hby at_78) (feq hc78).2 (by decide) (by decide) ?_
        refine og_iload X166 hx (hb hby at_84) rfl ?_
        refine og_iconst X166 hx (hb hby at_86) ?_
        refine og_icN X166 hx (hb hby at_87) (tlt (by decide)).2.2.2 ?_
        refine og_iload X166 hx (hb hby at_90) rfl ?_
        refine og_bipush X166 hx (hb hby at_92) ?_
        by_cases hc94 : c2 = 47
        · refine og_icN X166 hx (hb hby at_94) (teq hc94).2 ?_
          refine og_iconst X166 hx (hb hby at_97) ?_
          refine og_istore X166 hx #[iv p1, iv p2, iv p3, iv p4, iv p5, iv 4, iv c1, iv c2, iv c3, iv c4, rv ca163, rv b164, rv t166, iv 1, .unset, .unset] (hb hby at_98) rfl ?_
          exact tl167 _
        · refine og_icY X166 hx 100 (hb hby at_94) (feq hc94).2 (by decide) (by decide) ?_
          exact tl167 _
    · show own_Go p e below _ T4 (mkF m 35 #[iv p1, iv p2, iv p3, iv p4, iv p5, iv 4, iv c1, iv c2, iv c3, iv c4, .unset, .unset, .unset, .unset, .unset, .unset] [(.int 4)])
      refine og_iload X4 hx (hb hby at_35) rfl ?_
      refine og_iload X4 hx (hb hby at_37) rfl ?_
      refine og_iload X4 hx (hb hby at_39) rfl ?_
      refine og_iload X4 hx (hb hby at_41) rfl ?_
      refine own_callS X4 hx hZ hown (own_hw hw 5 rfl) (own_hw hw 6 rfl) (own_hw hw 3 rfl) (own_hw hw 7 rfl) (by decide) (argsL := [(.int 4), (.int c1), (.int c2), (.int c3), (.int c4)]) (rest := []) (own_mk4 l Z a0 hw c1 c2 c3 c4 h0 n0 hO hc1 hc2 hc3 hc4) e4 (by rw [hml]; rfl) (lenOf own_pd92197 rfl) rfl (hb hby at_43) (W := 0) (Nat.le_of_eq rfl) (by decide) ?_
      intro v178 T178 L178 X178 q178
      obtain ⟨ca178, k178, rfl, N178q, K178q, z178q, g178q, A178q⟩ := q178
      have N178 := Fr.app N4 N178q
      have hk178 := Nat.le_trans hk K178q.1
      have hs178 : ∀ x ∈ ([] : List Addr), Safe Z own_EL s.vm h0 x := sf0
      have C178 := C0.trans (CHr.keep K178q hs178 C0.1)
      have O178 := hO.keep K178q all0
      show own_Go p e below _ T178 (mkF m 46 #[iv p1, iv p2, iv p3, iv p4, iv p5, iv 4, iv c1, iv c2, iv c3, iv c4, .unset, .unset, .unset, .unset, .unset, .unset] [(.ref ca178)])
      refine og_astore X178 hx #[iv p1, iv p2, iv p3, iv p4, iv p5, iv 4, iv c1, iv c2, iv c3, iv c4, rv ca178, .unset, .unset, .unset, .unset, .unset] (hb hby at_46) rfl rfl ?_
      refine own_newO X178 hx hZ hown (own_hw hw 9 rfl) (own_hw hw 10 rfl) (own_hw hw 11 rfl) rfl (hb hby at_48) (by decide) (by decide) ?_
      intro T179 h179 b179 g179 X179 e179 E179 A179 D179
      have ne_ca178_b179 : ca178 ≠ b179 := Nat.ne_of_lt (Nat.lt_of_lt_of_eq A178q.lt g179.symm)
      have ge_b179 : n0 ≤ b179 := Nat.le_trans (own_oldle O178) (Nat.le_of_eq g179.symm)
      have S_b179 : Safe Z own_EL s.vm T178.heap b179 := Safe.new (Nat.le_of_eq g179.symm)
      have hk179 := Nat.le_trans hk178 E179.1
      have A_ca178_179 := A178q.ext E179
      have S_b179_179 := Safe.ext E179 C178.1 S_b179
      have C179 := C178.trans (CHr.ext E179 C178.1)
      have O179 := O178.ext E179
      have F_b179_value_179 : Fld Z h179 b179 "java/lang/String" "value" "[B" .null := D179 (Or.inr (own_hw hw 24 rfl)) (ty := (.array .byte)) (by decide)
      have F_b179_coder_179 : Fld Z h179 b179 "java/lang/String" "coder" "B" (.int 0) := D179 (Or.inr (own_hw hw 25 rfl)) (ty := .byte) (by decide)
      show own_Go p e below _ T179 (mkF m 51 #[iv p1, iv p2, iv p3, iv p4, iv p5, iv 4, iv c1, iv c2, iv c3, iv c4, rv ca178, .unset, .unset, .unset, .unset, .unset] [(.ref b179)])
      refine og_dup X179 hx (hb hby at_51) rfl ?_
      refine og_aload X179 hx (hb hby at_52) rfl rfl ?_
      have hws : ∀ d ∈ StrChars.Road.words, d.before a0 Z = true := fun d hd => hw d ((by decide +kernel : ∀ d ∈ StrChars.Road.words, d ∈ tables_1) d hd)
      have hp180 : ∀ c ∈ ([c1, c2, c3, c4] : List Int32), ¬ c < 0 ∧ ¬ (255 : Int32) < c := by
        intro c hc; simp only [List.mem_cons, List.not_mem_nil, or_false] at hc; rcases hc with rfl | rfl | rfl | rfl <;> assumption
      refine own_callNB X179 hx hZ hown (own_hw hw 12 rfl) (own_hw hw 13 rfl) (own_hw hw 14 rfl) (own_hw hw 11 rfl) (by decide) rfl (b := b179) (argsL := [(.ref ca178)]) (rest := [(.ref b179)]) (StrChars.Road.backV (W := 1) hZ hws (kI := 4) (own_hw hw 10 rfl) (cs := ([c1, c2, c3, c4] : List Int32)) (bs := (([c1, c2, c3, c4] : List Int32)).map (fun c => c.toInt8.toInt32)) (n := 4) ge_b179 (own_oldle O179) A179 F_b179_value_179 F_b179_coder_179 A_ca178_179 (SC.ext O179.2) hz rfl rfl (by decide) (by decide) hp180 rfl (by decide) (by decide)) e179 (by rw [hml]; rfl) (lenOf own_pd46664 rfl) rfl (hb hby at_54) (Nat.le_of_eq rfl) (by decide) (by decide) ?_
      intro v180 T180 L180 X180 q180
      obtain ⟨rfl, N180q, K180q, E180q, C180q, vb180, kb180, ge180, z180q, ne180q, V180q, A180q⟩ := q180
      have N180 := Fr.app N178 N180q
      have ne_b179_vb180 : b179 ≠ vb180 := Nat.ne_of_lt (Nat.lt_of_lt_of_le A179.lt z180q)
      have ne_ca178_vb180 : ca178 ≠ vb180 := Nat.ne_of_lt (Nat.lt_of_lt_of_le A_ca178_179.lt z180q)
      have hk180 := Nat.le_trans hk179 K180q.1
      have hs180 : ∀ x ∈ ([b179] : List Addr), Safe Z own_EL s.vm h179 x := (sfS S_b179_179 sf0)
      have C180 := C179.trans (CHr.keep K180q hs180 C179.1)
      have A_ca178_180 := A_ca178_179.keep K180q (ninS ne_ca178_b179 nin0)
      have S_b179_180 := Safe.keep K180q hs180 C179.1 S_b179_179
      have E_b179_180 := A179.keep K180q
      have O180 := O179.keep K180q (allS ge_b179 all0)
      show own_Go p e below _ T180 (mkF m 57 #[iv p1, iv p2, iv p3, iv p4, iv p5, iv 4, iv c1, iv c2, iv c3, iv c4, rv ca178, .unset, .unset, .unset, .unset, .unset] [(.ref b179)])
      refine og_astore X180 hx #[iv p1, iv p2, iv p3, iv p4, iv p5, iv 4, iv c1, iv c2, iv c3, iv c4, rv ca178, rv b179, .unset, .unset, .unset, .unset] (hb hby at_57) rfl rfl ?_
      refine og_aload X180 hx (hb hby at_59) rfl rfl ?_
      refine own_callS X180 hx hZ hown (own_hw hw 30 rfl) (own_hw hw 31 rfl) (own_hw hw 32 rfl) (own_hw hw 33 rfl) (by decide) (argsL := [(.ref b179)]) (rest := []) (own_po_4_1 l Z a0 hw z sf b179 vb180 _ _ c1 c2 c3 c4 T180.heap n0 O180 hG hc3 m2 hc4 m3 k1 E_b179_180 V180q C180q A180q) rfl (by rw [hml]; rfl) (lenOf own_pd11897 rfl) rfl (hb hby at_61) (W := 0) (Nat.le_of_eq rfl) (by decide) ?_
      intro v181 T181 L181 X181 q181
      obtain ⟨t181, vb181, k181, rfl, N181q, K181q, zt181, gt181, zb181, gb181, ne_t181_vb181, Et181, Ft181, Ct181, At181⟩ := q181
      have N181 := Fr.app N180 N181q
      have ne_b179_t181 : b179 ≠ t181 := Nat.ne_of_lt (Nat.lt_of_lt_of_le E_b179_180.lt zt181)
      have ne_vb180_t181 : vb180 ≠ t181 := Nat.ne_of_lt (Nat.lt_of_lt_of_le A180q.lt zt181)
      have ne_b179_vb181 : b179 ≠ vb181 := Nat.ne_of_lt (Nat.lt_of_lt_of_le E_b179_180.lt zb181)
      have ne_vb180_vb181 : vb180 ≠ vb181 := Nat.ne_of_lt (Nat.lt_of_lt_of_le A180q.lt zb181)
      have hk181 := Nat.le_trans hk180 K181q.1
      have hs181 : ∀ x ∈ ([] : List Addr), Safe Z own_EL s.vm T180.heap x := sf0
      have C181 := C180.trans (CHr.keep K181q hs181 C180.1)
      have E_b179_181 := E_b179_180.keep K181q
      have F_b179_value_181 := V180q.keep K181q nin0
      have F_b179_coder_181 := C180q.keep K181q nin0
      have A_vb180_181 := A180q.keep K181q nin0
      have O181 := O180.keep K181q all0
      show own_Go p e below _ T181 (mkF m 64 #[iv p1, iv p2, iv p3, iv p4, iv p5, iv 4, iv c1, iv c2, iv c3, iv c4, rv ca178, rv b179, .unset, .unset, .unset, .unset] [(.ref t181)])
      refine og_astore X181 hx #[iv p1, iv p2, iv p3, iv p4, iv p5, iv 4, iv c1, iv c2, iv c3, iv c4, rv ca178, rv b179, rv t181, .unset, .unset, .unset] (hb hby at_64) rfl rfl ?_
      refine og_iconst X181 hx (hb hby at_66) ?_
      refine og_istore X181 hx #[iv p1, iv p2, iv p3, iv p4, iv p5, iv 4, iv c1, iv c2, iv c3, iv c4, rv ca178, rv b179, rv t181, iv (-1), .unset, .unset] (hb hby at_67) rfl ?_
      refine own_cut (F := fun v182 : Int32 => (mkF m 84 #[iv p1, iv p2, iv p3, iv p4, iv p5, iv 4, iv c1, iv c2, iv c3, iv c4, rv ca178, rv b179, rv t181, iv v182, .unset, .unset] [])) ?_ ?_
      · intro v182
        show own_Go p e below _ T181 (mkF m 84 #[iv p1, iv p2, iv p3, iv p4, iv p5, iv 4, iv c1, iv c2, iv c3, iv c4, rv ca178, rv b179, rv t181, iv v182, .unset, .unset] [])
        refine og_iload X181 hx (hb hby at_84) rfl ?_
        refine og_iconst X181 hx (hb hby at_86) ?_
        refine og_icN X181 hx (hb hby at_87) (tlt (by decide)).2.2.2 ?_
        refine og_iload X181 hx (hb hby at_90) rfl ?_
        refine og_bipush X181 hx (hb hby at_92) ?_
        refine og_icN X181 hx (hb hby at_94) (teq k1).2 ?_
        refine og_iconst X181 hx (hb hby at_97) ?_
        refine og_istore X181 hx #[iv p1, iv p2, iv p3, iv p4, iv p5, iv 4, iv c1, iv c2, iv c3, iv c4, rv ca178, rv b179, rv t181, iv 1, .unset, .unset] (hb hby at_98) rfl ?_
        refine og_iload X181 hx (hb hby at_100) rfl ?_
        refine og_iconst X181 hx (hb hby at_102) ?_
        refine og_icN X181 hx (hb hby at_103) (tlt (by decide)).2.2.2 ?_
        refine og_iload X181 hx (hb hby at_106) rfl ?_
        refine og_bipush X181 hx (hb hby at_108) ?_
        refine og_icY X181 hx 116 (hb hby at_110) (feq m2).2 (by decide) (by decide) ?_
        refine og_iload X181 hx (hb hby at_116) rfl ?_
        refine og_iconst X181 hx (hb hby at_118) ?_
        refine og_icN X181 hx (hb hby at_119) (tlt (by decide)).2.2.2 ?_
        refine og_iload X181 hx (hb hby at_122) rfl ?_
        refine og_bipush X181 hx (hb hby at_124) ?_
        refine og_icY X181 hx 132 (hb hby at_126) (feq m3).2 (by decide) (by decide) ?_
        refine og_iload X181 hx (hb hby at_132) rfl ?_
        refine og_iload X181 hx (hb hby at_134) rfl ?_
        refine og_isub X181 hx (hb hby at_136) ?_
        refine og_iconst X181 hx (hb hby at_137) ?_
        refine og_isub X181 hx (hb hby at_138) ?_
        refine og_istore X181 hx #[iv p1, iv p2, iv p3, iv p4, iv p5, iv 4, iv c1, iv c2, iv c3, iv c4, rv ca178, rv b179, rv t181, iv 1, iv 2, .unset] (hb hby at_139) rfl ?_
        refine og_aload X181 hx (hb hby at_141) rfl rfl ?_
        refine own_callV X181 hx hZ hown (own_hw hw 89 rfl) (own_hw hw 40 rfl) (notFace_of_selects (args := #[]) (mvT hZ (own_hw hw 42 rfl))) (own_hw hw 42 rfl) (own_hw hw 41 rfl) (own_hw hw 43 rfl) (own_hw hw 11 rfl) (by decide) (b := t181) (argsL := []) (rest := []) (own_slen l Z a0 hw z sf t181 vb181 _ _ 2 _ T181.heap n0 O181 hG Et181 Ft181 Ct181 At181) rfl Et181 (by rw [hml]; rfl) (lenOf own_pd13941 rfl) rfl (hb hby at_143) (W := 0) (Nat.le_of_eq rfl) (by decide) ?_
        intro v183 T183 L183 X183 q183
        obtain ⟨rfl, N183q, e183⟩ := q183
        have N183 := Fr.app N181 N183q
        show own_Go p e below _ T183 (mkF m 146 #[iv p1, iv p2, iv p3, iv p4, iv p5, iv 4, iv c1, iv c2, iv c3, iv c4, rv ca178, rv b179, rv t181, iv 1, iv 2, .unset] [(.int 2)])
        refine og_iload X183 hx (hb hby at_146) rfl ?_
        refine og_icY X183 hx 153 (hb hby at_148) (teq rfl).1 (by decide) (by decide) ?_
        refine og_iconst X183 hx (hb hby at_153) ?_
        refine own_newP X183 hx hZ (own_hw hw 8 rfl) e183 (hb hby at_154) (by decide) 4 (by decide) (by decide) (by decide) (by decide) ?_
        intro T184 h184 k184 b184 g184 X184 e184 E184 A184
        have ne_t181_b184 : t181 ≠ b184 := Nat.ne_of_lt (Nat.lt_of_lt_of_eq Et181.lt g184.symm)
        have ne_vb181_b184 : vb181 ≠ b184 := Nat.ne_of_lt (Nat.lt_of_lt_of_eq At181.lt g184.symm)
        have ge_b184 : n0 ≤ b184 := Nat.le_trans (own_oldle O181) (Nat.le_of_eq g184.symm)
        have hk184 := Nat.le_trans hk181 E184.1
        have E_t181_184 := Et181.ext E184
        have F_t181_value_184 := Ft181.ext E184
        have F_t181_coder_184 := Ct181.ext E184
        have A_vb181_184 := At181.ext E184
        have C184 := C181.trans (CHr.ext E184 C181.1)
        have O184 := O181.ext E184
        have A_b184_184 : Arv Z h184 b184 k184 .char 4 [(.int (0 : Int32)), (.int (0 : Int32)), (.int (0 : Int32)), (.int (0 : Int32))] (.int (0 : Int32)) := A184
        show own_Go p e below _ T184 (mkF m 156 #[iv p1, iv p2, iv p3, iv p4, iv p5, iv 4, iv c1, iv c2, iv c3, iv c4, rv ca178, rv b179, rv t181, iv 1, iv 2, .unset] [(.ref b184)])
        refine og_dup X184 hx (hb hby at_156) rfl ?_
        refine og_iconst X184 hx (hb hby at_157) ?_
        refine og_iload X184 hx (hb hby at_158) rfl ?_
        refine own_stC X184 hx hZ e184 A_b184_184 ⟨by decide, by decide⟩ 0 rfl (by show 0 < 4; decide) (hb hby at_160) ?_
        intro T185 h185 X185 e185 W185 A185
        have hk185 := Nat.le_trans hk184 (Keep.of_wr W185).1
        have sf185 := (Safe.arv (EL := own_EL) hZ.alike A_b184_184 (by decide))
        have C185 := C184.trans (CHr.wr W185 sf185 C184.1)
        have E_t181_185 := E_t181_184.wr W185
        have F_t181_value_185 := F_t181_value_184.other W185 (Or.inl ne_t181_b184)
        have F_t181_coder_185 := F_t181_coder_184.other W185 (Or.inl ne_t181_b184)
        have A_vb181_185 := A_vb181_184.other W185 ne_vb181_b184
        have O185 := O184.wr W185 ge_b184
        have N185 := Fr.snoc X185 N183 ge_b184
        have A_b184_185 : Arv Z h185 b184 k184 .char 4 [(.int c1), (.int (0 : Int32)), (.int (0 : Int32)), (.int (0 : Int32))] (.int (0 : Int32)) := (by have q := A185; rw [show nar .char c1 = c1 from own_ic _ hc1] at q; exact q)
        show own_Go p e below _ T185 (mkF m 161 #[iv p1, iv p2, iv p3, iv p4, iv p5, iv 4, iv c1, iv c2, iv c3, iv c4, rv ca178, rv b179, rv t181, iv 1, iv 2, .unset] [(.ref b184)])
        refine og_dup X185 hx (hb hby at_161) rfl ?_
        refine og_iconst X185 hx (hb hby at_162) ?_
        refine og_iload X185 hx (hb hby at_163) rfl ?_
        refine own_stC X185 hx hZ e185 A_b184_185 ⟨by decide, by decide⟩ 1 rfl (by show 1 < 4; decide) (hb hby at_165) ?_
        intro T186 h186 X186 e186 W186 A186
        have hk186 := Nat.le_trans hk185 (Keep.of_wr W186).1
        have sf186 := (Safe.arv (EL := own_EL) hZ.alike A_b184_185 (by decide))
        have C186 := C185.trans (CHr.wr W186 sf186 C185.1)
        have E_t181_186 := E_t181_185.wr W186
        have F_t181_value_186 := F_t181_value_185.other W186 (Or.inl ne_t181_b184)
        have F_t181_coder_186 := F_t181_coder_185.other W186 (Or.inl ne_t181_b184)
        have A_vb181_186 := A_vb181_185.other W186 ne_vb181_b184
        have O186 := O185.wr W186 ge_b184
        have N186 := Fr.snoc X186 N185 ge_b184
        have A_b184_186 : Arv Z h186 b184 k184 .char 4 [(.int c1), (.int c2), (.int (0 : Int32)), (.int (0 : Int32))] (.int (0 : Int32)) := (by have q := A186; rw [show nar .char c2 = c2 from own_ic _ hc2] at q; exact q)
        show own_Go p e below _ T186 (mkF m 166 #[iv p1, iv p2, iv p3, iv p4, iv p5, iv 4, iv c1, iv c2, iv c3, iv c4, rv ca178, rv b179, rv t181, iv 1, iv 2, .unset] [(.ref b184)])
        refine og_dup X186 hx (hb hby at_166) rfl ?_
        refine og_iconst X186 hx (hb hby at_167) ?_
        refine og_iload X186 hx (hb hby at_168) rfl ?_
        refine own_stC X186 hx hZ e186 A_b184_186 ⟨by decide, by decide⟩ 2 rfl (by show 2 < 4; decide) (hb hby at_170) ?_
        intro T187 h187 X187 e187 W187 A187
        have hk187 := Nat.le_trans hk186 (Keep.of_wr W187).1
        have sf187 := (Safe.arv (EL := own_EL) hZ.alike A_b184_186 (by decide))
        have C187 := C186.trans (CHr.wr W187 sf187 C186.1)
        have E_t181_187 := E_t181_186.wr W187
        have F_t181_value_187 := F_t181_value_186.other W187 (Or.inl ne_t181_b184)
        have F_t181_coder_187 := F_t181_coder_186.other W187 (Or.inl ne_t181_b184)
        have A_vb181_187 := A_vb181_186.other W187 ne_vb181_b184
        have O187 := O186.wr W187 ge_b184
        have N187 := Fr.snoc X187 N186 ge_b184
        have A_b184_187 : Arv Z h187 b184 k184 .char 4 [(.int c1), (.int c2), (.int c3), (.int (0 : Int32))] (.int (0 : Int32)) := (by have q := A187; rw [show nar .char c3 = c3 from own_ic _ hc3] at q; exact q)
        show own_Go p e below _ T187 (mkF m 171 #[iv p1, iv p2, iv p3, iv p4, iv p5, iv 4, iv c1, iv c2, iv c3, iv c4, rv ca178, rv b179, rv t181, iv 1, iv 2, .unset] [(.ref b184)])
        refine og_dup X187 hx (hb hby at_171) rfl ?_
        refine og_iconst X187 hx (hb hby at_172) ?_
        refine og_iload X187 hx (hb hby at_173) rfl ?_
        refine own_stC X187 hx hZ e187 A_b184_187 ⟨by decide, by decide⟩ 3 rfl (by show 3 < 4; decide) (hb hby at_175) ?_
        intro T188 h188 X188 e188 W188 A188
        have hk188 := Nat.le_trans hk187 (Keep.of_wr W188).1
        have sf188 := (Safe.arv (EL := own_EL) hZ.alike A_b184_187 (by decide))
        have C188 := C187.trans (CHr.wr W188 sf188 C187.1)
        have E_t181_188 := E_t181_187.wr W188
        have F_t181_value_188 := F_t181_value_187.other W188 (Or.inl ne_t181_b184)
        have F_t181_coder_188 := F_t181_coder_187.other W188 (Or.inl ne_t181_b184)
        have A_vb181_188 := A_vb181_187.other W188 ne_vb181_b184
        have O188 := O187.wr W188 ge_b184
        have N188 := Fr.snoc X188 N187 ge_b184
        have A_b184_188 : Arv Z h188 b184 k184 .char 4 [(.int c1), (.int c2), (.int c3), (.int c4)] (.int (0 : Int32)) := (by have q := A188; rw [show nar .char c4 = c4 from own_ic _ hc4] at q; exact q)
        show own_Go p e below _ T188 (mkF m 176 #[iv p1, iv p2, iv p3, iv p4, iv p5, iv 4, iv c1, iv c2, iv c3, iv c4, rv ca178, rv b179, rv t181, iv 1, iv 2, .unset] [(.ref b184)])
        refine og_astore X188 hx #[iv p1, iv p2, iv p3, iv p4, iv p5, iv 4, iv c1, iv c2, iv c3, iv c4, rv ca178, rv b179, rv t181, iv 1, iv 2, rv b184] (hb hby at_176) rfl rfl ?_
        refine og_aload X188 hx (hb hby at_178) rfl rfl ?_
        refine og_iload X188 hx (hb hby at_180) rfl ?_
        refine og_iconst X188 hx (hb hby at_182) ?_
        refine og_aload X188 hx (hb hby at_183) rfl rfl ?_
        refine og_iload X188 hx (hb hby at_185) rfl ?_
        refine own_callS X188 hx hZ hown (own_hw hw 90 rfl) (own_hw hw 91 rfl) (own_hw hw 3 rfl) (own_hw hw 92 rfl) (by decide) (argsL := [(.ref t181), (.int 2), (.int 0), (.ref b184), (.int 1)]) (rest := []) (own_sm_2_0_1 l Z a0 hw z sf t181 vb181 _ _ b184 _ _ c1 c2 c3 c4 h188 n0 O188 hG hc3 E_t181_188 F_t181_value_188 F_t181_coder_188 A_vb181_188 A_b184_188) e188 (by rw [hml]; rfl) (lenOf own_pd39901 rfl) rfl (hb hby at_187) (W := 0) (Nat.le_of_eq rfl) (by decide) ?_
        intro v189 T189 L189 X189 q189
        obtain ⟨rfl, N189q, e189⟩ := q189
        have N189 := Fr.app N188 N189q
        show own_Go p e below _ T189 (mkF m 190 #[iv p1, iv p2, iv p3, iv p4, iv p5, iv 4, iv c1, iv c2, iv c3, iv c4, rv ca178, rv b179, rv t181, iv 1, iv 2, rv b184] [(.int 1)])
        refine og_ifN X189 hx (hb hby at_190) (feq (by decide)).1 ?_
        refine og_aload X189 hx (hb hby at_193) rfl rfl ?_
        refine og_iload X189 hx (hb hby at_195) rfl ?_
        refine og_iconst X189 hx (hb hby at_197) ?_
        refine og_aload X189 hx (hb hby at_198) rfl rfl ?_
        refine og_iload X189 hx (hb hby at_200) rfl ?_
        refine own_callS X189 hx hZ hown (own_hw hw 90 rfl) (own_hw hw 91 rfl) (own_hw hw 3 rfl) (own_hw hw 92 rfl) (by decide) (argsL := [(.ref t181), (.int 2), (.int 1), (.ref b184), (.int 1)]) (rest := []) (own_sm_2_1_1 l Z a0 hw z sf t181 vb181 _ _ b184 _ _ c1 c2 c3 c4 h188 n0 O188 hG hc4 E_t181_188 F_t181_value_188 F_t181_coder_188 A_vb181_188 A_b184_188) e189 (by rw [hml]; rfl) (lenOf own_pd39901 rfl) rfl (hb hby at_202) (W := 0) (Nat.le_of_eq rfl) (by decide) ?_
        intro v190 T190 L190 X190 q190
        obtain ⟨rfl, N190q, e190⟩ := q190
        have N190 := Fr.app N189 N190q
        show own_Go p e below _ T190 (mkF m 205 #[iv p1, iv p2, iv p3, iv p4, iv p5, iv 4, iv c1, iv c2, iv c3, iv c4, rv ca178, rv b179, rv t181, iv 1, iv 2, rv b184] [(.int 1)])
        refine og_ifN X190 hx (hb hby at_205) (feq (by decide)).1 ?_
        refine og_aload X190 hx (hb hby at_208) rfl rfl ?_
        refine og_iload X190 hx (hb hby at_210) rfl ?_
        refine og_iconst X190 hx (hb hby at_212) ?_
        refine og_aload X190 hx (hb hby at_213) rfl rfl ?_
        refine og_iload X190 hx (hb hby at_215) rfl ?_
        refine own_callS X190 hx hZ hown (own_hw hw 90 rfl) (own_hw hw 91 rfl) (own_hw hw 3 rfl) (own_hw hw 92 rfl) (by decide) (argsL := [(.ref t181), (.int 2), (.int 2), (.ref b184), (.int 1)]) (rest := []) (own_sm_2_2 l Z a0 hw t181 b184 1 h188 n0) e190 (by rw [hml]; rfl) (lenOf own_pd39901 rfl) rfl (hb hby at_217) (W := 0) (Nat.le_of_eq rfl) (by decide) ?_
        intro v191 T191 L191 X191 q191
        obtain ⟨rfl, N191q, e191⟩ := q191
        have N191 := Fr.app N190 N191q
        show own_Go p e below _ T191 (mkF m 220 #[iv p1, iv p2, iv p3, iv p4, iv p5, iv 4, iv c1, iv c2, iv c3, iv c4, rv ca178, rv b179, rv t181, iv 1, iv 2, rv b184] [(.int 1)])
        refine og_ifN X191 hx (hb hby at_220) (feq (by decide)).1 ?_
        refine og_aload X191 hx (hb hby at_223) rfl rfl ?_
        refine og_iload X191 hx (hb hby at_225) rfl ?_
        refine og_iconst X191 hx (hb hby at_227) ?_
        refine og_aload X191 hx (hb hby at_228) rfl rfl ?_
        refine og_iload X191 hx (hb hby at_230) rfl ?_
        refine own_callS X191 hx hZ hown (own_hw hw 90 rfl) (own_hw hw 91 rfl) (own_hw hw 3 rfl) (own_hw hw 92 rfl) (by decide) (argsL := [(.ref t181), (.int 2), (.int 3), (.ref b184), (.int 1)]) (rest := []) (own_sm_2_3 l Z a0 hw t181 b184 1 h188 n0) e191 (by rw [hml]; rfl) (lenOf own_pd39901 rfl) rfl (hb hby at_232) (W := 0) (Nat.le_of_eq rfl) (by decide) ?_
        intro v192 T192 L192 X192 q192
        obtain ⟨rfl, N192q, e192⟩ := q192
        have N192 := Fr.app N191 N192q
        show own_Go p e below _ T192 (mkF m 235 #[iv p1, iv p2, iv p3, iv p4, iv p5, iv 4, iv c1, iv c2, iv c3, iv c4, rv ca178, rv b179, rv t181, iv 1, iv 2, rv b184] [(.int 1)])
        refine og_ifN X192 hx (hb hby at_235) (feq (by decide)).1 ?_
        refine og_iconst X192 hx (hb hby at_238) ?_
        refine og_goto X192 hx 243 (hb hby at_239) (by decide) (by decide) ?_
        exact own_retIH X192 hx hret hlk (hb hby at_243) rfl (by simp) hZ (own_EW hw) C188 e192 hS hk188 (by decide) (by decide) (⟨rfl, N192⟩)
      intro tl182
      refine og_iload X181 hx (hb hby at_69) rfl ?_
      refine og_ifN X181 hx (hb hby at_71) (tlt (by decide)).2.2.2 ?_
      refine og_iload X181 hx (hb hby at_74) rfl ?_
      refine og_bipush X181 hx (hb hby at_76) ?_
      by_cases hc78 : c1 = 47
      · refine og_icN X181 hx (hb hby at_78) (teq hc78).2 ?_
        refine og_iconst X181 hx (hb hby at_81) ?_
        refine og_istore X181 hx #[iv p1, iv p2, iv p3, iv p4, iv p5, iv 4, iv c1, iv c2, iv c3, iv c4, rv ca178, rv b179, rv t181, iv 0, .unset, .unset] (hb hby at_82) rfl ?_
        exact tl182 _
      · refine og_icY X181 hx 84 (hb hby at_78) (feq hc78).2 (by decide) (by decide) ?_
        exact tl182 _
    · show own_Go p e below _ T4 (mkF m 35 #[iv p1, iv p2, iv p3, iv p4, iv p5, iv 4, iv c1, iv c2, iv c3, iv c4, .unset, .unset, .unset, .unset, .unset, .unset] [(.int 4)])
      refine og_iload X4 hx (hb hby at_35) rfl ?_
      refine og_iload X4 hx (hb hby at_37) rfl ?_
      refine og_iload X4 hx (hb hby at_39) rfl ?_
      refine og_iload X4 hx (hb hby at_41) rfl ?_
      refine own_callS X4 hx hZ hown (own_hw hw 5 rfl) (own_hw hw 6 rfl) (own_hw hw 3 rfl) (own_hw hw 7 rfl) (by decide) (argsL := [(.int 4), (.int c1), (.int c2), (.int c3), (.int c4)]) (rest := []) (own_mk4 l Z a0 hw c1 c2 c3 c4 h0 n0 hO hc1 hc2 hc3 hc4) e4 (by rw [hml]; rfl) (lenOf own_pd92197 rfl) rfl (hb hby at_43) (W := 0) (Nat.le_of_eq rfl) (by decide) ?_
      intro v193 T193 L193 X193 q193
      obtain ⟨ca193, k193, rfl, N193q, K193q, z193q, g193q, A193q⟩ := q193
      have N193 := Fr.app N4 N193q
      have hk193 := Nat.le_trans hk K193q.1
      have hs193 : ∀ x ∈ ([] : List Addr), Safe Z own_EL s.vm h0 x := sf0
      have C193 := C0.trans (CHr.keep K193q hs193 C0.1)
      have O193 := hO.keep K193q all0
      show own_Go p e below _ T193 (mkF m 46 #[iv p1, iv p2, iv p3, iv p4, iv p5, iv 4, iv c1, iv c2, iv c3, iv c4, .unset, .unset, .unset, .unset, .unset, .unset] [(.ref ca193)])
      refine og_astore X193 hx #[iv p1, iv p2, iv p3, iv p4, iv p5, iv 4, iv c1, iv c2, iv c3, iv c4, rv ca193, .unset, .unset, .unset, .unset, .unset] (hb hby at_46) rfl rfl ?_
      refine own_newO X193 hx hZ hown (own_hw hw 9 rfl) (own_hw hw 10 rfl) (own_hw hw 11 rfl) rfl (hb hby at_48) (by decide) (by decide) ?_
      intro T194 h194 b194 g194 X194 e194 E194 A194 D194
      have ne_ca193_b194 : ca193 ≠ b194 := Nat.ne_of_lt (Nat.lt_of_lt_of_eq A193q.lt g194.symm)
      have ge_b194 : n0 ≤ b194 := Nat.le_trans (own_oldle O193) (Nat.le_of_eq g194.symm)
      have S_b194 : Safe Z own_EL s.vm T193.heap b194 := Safe.new (Nat.le_of_eq g194.symm)
      have hk194 := Nat.le_trans hk193 E194.1
      have A_ca193_194 := A193q.ext E194
      have S_b194_194 := Safe.ext E194 C193.1 S_b194
      have C194 := C193.trans (CHr.ext E194 C193.1)
      have O194 := O193.ext E194
      have F_b194_value_194 : Fld Z h194 b194 "java/lang/String" "value" "[B" .null := D194 (Or.inr (own_hw hw 24 rfl)) (ty := (.array .byte)) (by decide)
      have F_b194_coder_194 : Fld Z h194 b194 "java/lang/String" "coder" "B" (.int 0) := D194 (Or.inr (own_hw hw 25 rfl)) (ty := .byte) (by decide)
      show own_Go p e below _ T194 (mkF m 51 #[iv p1, iv p2, iv p3, iv p4, iv p5, iv 4, iv c1, iv c2, iv c3, iv c4, rv ca193, .unset, .unset, .unset, .unset, .unset] [(.ref b194)])
      refine og_dup X194 hx (hb hby at_51) rfl ?_
      refine og_aload X194 hx (hb hby at_52) rfl rfl ?_
      have hws : ∀ d ∈ StrChars.Road.words, d.before a0 Z = true := fun d hd => hw d ((by decide +kernel : ∀ d ∈ StrChars.Road.words, d ∈ tables_1) d hd)
      have hp195 : ∀ c ∈ ([c1, c2, c3, c4] : List Int32), ¬ c < 0 ∧ ¬ (255 : Int32) < c := by
        intro c hc; simp only [List.mem_cons, List.not_mem_nil, or_false] at hc; rcases hc with rfl | rfl | rfl | rfl <;> assumption
      refine own_callNB X194 hx hZ hown (own_hw hw 12 rfl) (own_hw hw 13 rfl) (own_hw hw 14 rfl) (own_hw hw 11 rfl) (by decide) rfl (b := b194) (argsL := [(.ref ca193)]) (rest := [(.ref b194)]) (StrChars.Road.backV (W := 1) hZ hws (kI := 4) (own_hw hw 10 rfl) (cs := ([c1, c2, c3, c4] : List Int32)) (bs := (([c1, c2, c3, c4] : List Int32)).map (fun c => c.toInt8.toInt32)) (n := 4) ge_b194 (own_oldle O194) A194 F_b194_value_194 F_b194_coder_194 A_ca193_194 (SC.ext O194.2) hz rfl rfl (by decide) (by decide) hp195 rfl (by decide) (by decide)) e194 (by rw [hml]; rfl) (lenOf own_pd46664 rfl) rfl (hb hby at_54) (Nat.le_of_eq rfl) (by decide) (by decide) ?_
      intro v195 T195 L195 X195 q195
      obtain ⟨rfl, N195q, K195q, E195q, C195q, vb195, kb195, ge195, z195q, ne195q, V195q, A195q⟩ := q195
      have N195 := Fr.app N193 N195q
      have ne_b194_vb195 : b194 ≠ vb195 := Nat.ne_of_lt (Nat.lt_of_lt_of_le A194.lt z195q)
      have ne_ca193_vb195 : ca193 ≠ vb195 := Nat.ne_of_lt (Nat.lt_of_lt_of_le A_ca193_194.lt z195q)
      have hk195 := Nat.le_trans hk194 K195q.1
      have hs195 : ∀ x ∈ ([b194] : List Addr), Safe Z own_EL s.vm h194 x := (sfS S_b194_194 sf0)
      have C195 := C194.trans (CHr.keep K195q hs195 C194.1)
      have A_ca193_195 := A_ca193_194.keep K195q (ninS ne_ca193_b194 nin0)
      have S_b194_195 := Safe.keep K195q hs195 C194.1 S_b194_194
      have E_b194_195 := A194.keep K195q
      have O195 := O194.keep K195q (allS ge_b194 all0)
      show own_Go p e below _ T195 (mkF m 57 #[iv p1, iv p2, iv p3, iv p4, iv p5, iv 4, iv c1, iv c2, iv c3, iv c4, rv ca193, .unset, .unset, .unset, .unset, .unset] [(.ref b194)])
      refine og_astore X195 hx #[iv p1, iv p2, iv p3, iv p4, iv p5, iv 4, iv c1, iv c2, iv c3, iv c4, rv ca193, rv b194, .unset, .unset, .unset, .unset] (hb hby at_57) rfl rfl ?_
      refine og_aload X195 hx (hb hby at_59) rfl rfl ?_
      refine own_callS X195 hx hZ hown (own_hw hw 30 rfl) (own_hw hw 31 rfl) (own_hw hw 32 rfl) (own_hw hw 33 rfl) (by decide) (argsL := [(.ref b194)]) (rest := []) (own_po_4_0 l Z a0 hw z sf b194 vb195 _ _ c1 c2 c3 c4 T195.heap n0 O195 hG hc2 m1 hc3 m2 hc4 m3 k0 E_b194_195 V195q C195q A195q) rfl (by rw [hml]; rfl) (lenOf own_pd11897 rfl) rfl (hb hby at_61) (W := 0) (Nat.le_of_eq rfl) (by decide) ?_
      intro v196 T196 L196 X196 q196
      obtain ⟨t196, vb196, k196, rfl, N196q, K196q, zt196, gt196, zb196, gb196, ne_t196_vb196, Et196, Ft196, Ct196, At196⟩ := q196
      have N196 := Fr.app N195 N196q
      have ne_b194_t196 : b194 ≠ t196 := Nat.ne_of_lt (Nat.lt_of_lt_of_le E_b194_195.lt zt196)
      have ne_vb195_t196 : vb195 ≠ t196 := Nat.ne_of_lt (Nat.lt_of_lt_of_le A195q.lt zt196)
      have ne_b194_vb196 : b194 ≠ vb196 := Nat.ne_of_lt (Nat.lt_of_lt_of_le E_b194_195.lt zb196)
      have ne_vb195_vb196 : vb195 ≠ vb196 := Nat.ne_of_lt (Nat.lt_of_lt_of_le A195q.lt zb196)
      have hk196 := Nat.le_trans hk195 K196q.1
      have hs196 : ∀ x ∈ ([] : List Addr), Safe Z own_EL s.vm T195.heap x := sf0
      have C196 := C195.trans (CHr.keep K196q hs196 C195.1)
      have E_b194_196 := E_b194_195.keep K196q
      have F_b194_value_196 := V195q.keep K196q nin0
      have F_b194_coder_196 := C195q.keep K196q nin0
      have A_vb195_196 := A195q.keep K196q nin0
      have O196 := O195.keep K196q all0
      show own_Go p e below _ T196 (mkF m 64 #[iv p1, iv p2, iv p3, iv p4, iv p5, iv 4, iv c1, iv c2, iv c3, iv c4, rv ca193, rv b194, .unset, .unset, .unset, .unset] [(.ref t196)])
      refine og_astore X196 hx #[iv p1, iv p2, iv p3, iv p4, iv p5, iv 4, iv c1, iv c2, iv c3, iv c4, rv ca193, rv b194, rv t196, .unset, .unset, .unset] (hb hby at_64) rfl rfl ?_
      refine og_iconst X196 hx (hb hby at_66) ?_
      refine og_istore X196 hx #[iv p1, iv p2, iv p3, iv p4, iv p5, iv 4, iv c1, iv c2, iv c3, iv c4, rv ca193, rv b194, rv t196, iv (-1), .unset, .unset] (hb hby at_67) rfl ?_
      refine og_iload X196 hx (hb hby at_69) rfl ?_
      refine og_ifN X196 hx (hb hby at_71) (tlt (by decide)).2.2.2 ?_
      refine og_iload X196 hx (hb hby at_74) rfl ?_
      refine og_bipush X196 hx (hb hby at_76) ?_
      refine og_icN X196 hx (hb hby at_78) (teq k0).2 ?_
      refine og_iconst X196 hx (hb hby at_81) ?_
      refine og_istore X196 hx #[iv p1, iv p2, iv p3, iv p4, iv p5, iv 4, iv c1, iv c2, iv c3, iv c4, rv ca193, rv b194, rv t196, iv 0, .unset, .unset] (hb hby at_82) rfl ?_
      refine og_iload X196 hx (hb hby at_84) rfl ?_
      refine og_iconst X196 hx (hb hby at_86) ?_
      refine og_icN X196 hx (hb hby at_87) (tlt (by decide)).2.2.2 ?_
      refine og_iload X196 hx (hb hby at_90) rfl ?_
      refine og_bipush X196 hx (hb hby at_92) ?_
      refine og_icY X196 hx 100 (hb hby at_94) (feq m1).2 (by decide) (by decide) ?_
      refine og_iload X196 hx (hb hby at_100) rfl ?_
      refine og_iconst X196 hx (hb hby at_102) ?_
      refine og_icN X196 hx (hb hby at_103) (tlt (by decide)).2.2.2 ?_
      refine og_iload X196 hx (hb hby at_106) rfl ?_
      refine og_bipush X196 hx (hb hby at_108) ?_
      refine og_icY X196 hx 116 (hb hby at_110) (feq m2).2 (by decide) (by decide) ?_
      refine og_iload X196 hx (hb hby at_116) rfl ?_
      refine og_iconst X196 hx (hb hby at_118) ?_
      refine og_icN X196 hx (hb hby at_119) (tlt (by decide)).2.2.2 ?_
      refine og_iload X196 hx (hb hby at_122) rfl ?_
      refine og_bipush X196 hx (hb hby at_124) ?_
      refine og_icY X196 hx 132 (hb hby at_126) (feq m3).2 (by decide) (by decide) ?_
      refine og_iload X196 hx (hb hby at_132) rfl ?_
      refine og_iload X196 hx (hb hby at_134) rfl ?_
      refine og_isub X196 hx (hb hby at_136) ?_
      refine og_iconst X196 hx (hb hby at_137) ?_
      refine og_isub X196 hx (hb hby at_138) ?_
      refine og_istore X196 hx #[iv p1, iv p2, iv p3, iv p4, iv p5, iv 4, iv c1, iv c2, iv c3, iv c4, rv ca193, rv b194, rv t196, iv 0, iv 3, .unset] (hb hby at_139) rfl ?_
      refine og_aload X196 hx (hb hby at_141) rfl rfl ?_
      refine own_callV X196 hx hZ hown (own_hw hw 89 rfl) (own_hw hw 40 rfl) (notFace_of_selects (args := #[]) (mvT hZ (own_hw hw 42 rfl))) (own_hw hw 42 rfl) (own_hw hw 41 rfl) (own_hw hw 43 rfl) (own_hw hw 11 rfl) (by decide) (b := t196) (argsL := []) (rest := []) (own_slen l Z a0 hw z sf t196 vb196 _ _ 3 _ T196.heap n0 O196 hG Et196 Ft196 Ct196 At196) rfl Et196 (by rw [hml]; rfl) (lenOf own_pd13941 rfl) rfl (hb hby at_143) (W := 0) (Nat.le_of_eq rfl) (by decide) ?_
      intro v197 T197 L197 X197 q197
      obtain ⟨rfl, N197q, e197⟩ := q197
      have N197 := Fr.app N196 N197q
      show own_Go p e below _ T197 (mkF m 146 #[iv p1, iv p2, iv p3, iv p4, iv p5, iv 4, iv c1, iv c2, iv c3, iv c4, rv ca193, rv b194, rv t196, iv 0, iv 3, .unset] [(.int 3)])
      refine og_iload X197 hx (hb hby at_146) rfl ?_
      refine og_icY X197 hx 153 (hb hby at_148) (teq rfl).1 (by decide) (by decide) ?_
      refine og_iconst X197 hx (hb hby at_153) ?_
      refine own_newP X197 hx hZ (own_hw hw 8 rfl) e197 (hb hby at_154) (by decide) 4 (by decide) (by decide) (by decide) (by decide) ?_
      intro T198 h198 k198 b198 g198 X198 e198 E198 A198
      have ne_t196_b198 : t196 ≠ b198 := Nat.ne_of_lt (Nat.lt_of_lt_of_eq Et196.lt g198.symm)
      have ne_vb196_b198 : vb196 ≠ b198 := Nat.ne_of_lt (Nat.lt_of_lt_of_eq At196.lt g198.symm)
      have ge_b198 : n0 ≤ b198 := Nat.le_trans (own_oldle O196) (Nat.le_of_eq g198.symm)
      have hk198 := Nat.le_trans hk196 E198.1
      have E_t196_198 := Et196.ext E198
      have F_t196_value_198 := Ft196.ext E198
      have F_t196_coder_198 := Ct196.ext E198
      have A_vb196_198 := At196.ext E198
      have C198 := C196.trans (CHr.ext E198 C196.1)
      have O198 := O196.ext E198
      have A_b198_198 : Arv Z h198 b198 k198 .char 4 [(.int (0 : Int32)), (.int (0 : Int32)), (.int (0 : Int32)), (.int (0 : Int32))] (.int (0 : Int32)) := A198
      show own_Go p e below _ T198 (mkF m 156 #[iv p1, iv p2, iv p3, iv p4, iv p5, iv 4, iv c1, iv c2, iv c3, iv c4, rv ca193, rv b194, rv t196, iv 0, iv 3, .unset] [(.ref b198)])
      refine og_dup X198 hx (hb hby at_156) rfl ?_
      refine og_iconst X198 hx (hb hby at_157) ?_
      refine og_iload X198 hx (hb hby at_158) rfl ?_
      refine own_stC X198 hx hZ e198 A_b198_198 ⟨by decide, by decide⟩ 0 rfl (by show 0 < 4; decide) (hb hby at_160) ?_
      intro T199 h199 X199 e199 W199 A199
      have hk199 := Nat.le_trans hk198 (Keep.of_wr W199).1
      have sf199 := (Safe.arv (EL := own_EL) hZ.alike A_b198_198 (by decide))
      have C199 := C198.trans (CHr.wr W199 sf199 C198.1)
      have E_t196_199 := E_t196_198.wr W199
      have F_t196_value_199 := F_t196_value_198.other W199 (Or.inl ne_t196_b198)
      have F_t196_coder_199 := F_t196_coder_198.other W199 (Or.inl ne_t196_b198)
      have A_vb196_199 := A_vb196_198.other W199 ne_vb196_b198
      have O199 := O198.wr W199 ge_b198
      have N199 := Fr.snoc X199 N197 ge_b198
      have A_b198_199 : Arv Z h199 b198 k198 .char 4 [(.int c1), (.int (0 : Int32)), (.int (0 : Int32)), (.int (0 : Int32))] (.int (0 : Int32)) := (by have q := A199; rw [show nar .char c1 = c1 from own_ic _ hc1] at q; exact q)
      show own_Go p e below _ T199 (mkF m 161 #[iv p1, iv p2, iv p3, iv p4, iv p5, iv 4, iv c1, iv c2, iv c3, iv c4, rv ca193, rv b194, rv t196, iv 0, iv 3, .unset] [(.ref b198)])
      refine og_dup X199 hx (hb hby at_161) rfl ?_
      refine og_iconst X199 hx (hb hby at_162) ?_
      refine og_iload X199 hx (hb hby at_163) rfl ?_
      refine own_stC X199 hx hZ e199 A_b198_199 ⟨by decide, by decide⟩ 1 rfl (by show 1 < 4; decide) (hb hby at_165) ?_
      intro T200 h200 X200 e200 W200 A200
      have hk200 := Nat.le_trans hk199 (Keep.of_wr W200).1
      have sf200 := (Safe.arv (EL := own_EL) hZ.alike A_b198_199 (by decide))
      have C200 := C199.trans (CHr.wr W200 sf200 C199.1)
      have E_t196_200 := E_t196_199.wr W200
      have F_t196_value_200 := F_t196_value_199.other W200 (Or.inl ne_t196_b198)
      have F_t196_coder_200 := F_t196_coder_199.other W200 (Or.inl ne_t196_b198)
      have A_vb196_200 := A_vb196_199.other W200 ne_vb196_b198
      have O200 := O199.wr W200 ge_b198
      have N200 := Fr.snoc X200 N199 ge_b198
      have A_b198_200 : Arv Z h200 b198 k198 .char 4 [(.int c1), (.int c2), (.int (0 : Int32)), (.int (0 : Int32))] (.int (0 : Int32)) := (by have q := A200; rw [show nar .char c2 = c2 from own_ic _ hc2] at q; exact q)
      show own_Go p e below _ T200 (mkF m 166 #[iv p1, iv p2, iv p3, iv p4, iv p5, iv 4, iv c1, iv c2, iv c3, iv c4, rv ca193, rv b194, rv t196, iv 0, iv 3, .unset] [(.ref b198)])
      refine og_dup X200 hx (hb hby at_166) rfl ?_
      refine og_iconst X200 hx (hb hby at_167) ?_
      refine og_iload X200 hx (hb hby at_168) rfl ?_
      refine own_stC X200 hx hZ e200 A_b198_200 ⟨by decide, by decide⟩ 2 rfl (by show 2 < 4; decide) (hb hby at_170) ?_
      intro T201 h201 X201 e201 W201 A201
      have hk201 := Nat.le_trans hk200 (Keep.of_wr W201).1
      have sf201 := (Safe.arv (EL := own_EL) hZ.alike A_b198_200 (by decide))
      have C201 := C200.trans (CHr.wr W201 sf201 C200.1)
      have E_t196_201 := E_t196_200.wr W201
      have F_t196_value_201 := F_t196_value_200.other W201 (Or.inl ne_t196_b198)
      have F_t196_coder_201 := F_t196_coder_200.other W201 (Or.inl ne_t196_b198)
      have A_vb196_201 := A_vb196_200.other W201 ne_vb196_b198
      have O201 := O200.wr W201 ge_b198
      have N201 := Fr.snoc X201 N200 ge_b198
      have A_b198_201 : Arv Z h201 b198 k198 .char 4 [(.int c1), (.int c2), (.int c3), (.int (0 : Int32))] (.int (0 : Int32)) := (by have q := A201; rw [show nar .char c3 = c3 from own_ic _ hc3] at q; exact q)
      show own_Go p e below _ T201 (mkF m 171 #[iv p1, iv p2, iv p3, iv p4, iv p5, iv 4, iv c1, iv c2, iv c3, iv c4, rv ca193, rv b194, rv t196, iv 0, iv 3, .unset] [(.ref b198)])
      refine og_dup X201 hx (hb hby at_171) rfl ?_
      refine og_iconst X201 hx (hb hby at_172) ?_
      refine og_iload X201 hx (hb hby at_173) rfl ?_
      refine own_stC X201 hx hZ e201 A_b198_201 ⟨by decide, by decide⟩ 3 rfl (by show 3 < 4; decide) (hb hby at_175) ?_
      intro T202 h202 X202 e202 W202 A202
      have hk202 := Nat.le_trans hk201 (Keep.of_wr W202).1
      have sf202 := (Safe.arv (EL := own_EL) hZ.alike A_b198_201 (by decide))
      have C202 := C201.trans (CHr.wr W202 sf202 C201.1)
      have E_t196_202 := E_t196_201.wr W202
      have F_t196_value_202 := F_t196_value_201.other W202 (Or.inl ne_t196_b198)
      have F_t196_coder_202 := F_t196_coder_201.other W202 (Or.inl ne_t196_b198)
      have A_vb196_202 := A_vb196_201.other W202 ne_vb196_b198
      have O202 := O201.wr W202 ge_b198
      have N202 := Fr.snoc X202 N201 ge_b198
      have A_b198_202 : Arv Z h202 b198 k198 .char 4 [(.int c1), (.int c2), (.int c3), (.int c4)] (.int (0 : Int32)) := (by have q := A202; rw [show nar .char c4 = c4 from own_ic _ hc4] at q; exact q)
      show own_Go p e below _ T202 (mkF m 176 #[iv p1, iv p2, iv p3, iv p4, iv p5, iv 4, iv c1, iv c2, iv c3, iv c4, rv ca193, rv b194, rv t196, iv 0, iv 3, .unset] [(.ref b198)])
      refine og_astore X202 hx #[iv p1, iv p2, iv p3, iv p4, iv p5, iv 4, iv c1, iv c2, iv c3, iv c4, rv ca193, rv b194, rv t196, iv 0, iv 3, rv b198] (hb hby at_176) rfl rfl ?_
      refine og_aload X202 hx (hb hby at_178) rfl rfl ?_
      refine og_iload X202 hx (hb hby at_180) rfl ?_
      refine og_iconst X202 hx (hb hby at_182) ?_
      refine og_aload X202 hx (hb hby at_183) rfl rfl ?_
      refine og_iload X202 hx (hb hby at_185) rfl ?_
      refine own_callS X202 hx hZ hown (own_hw hw 90 rfl) (own_hw hw 91 rfl) (own_hw hw 3 rfl) (own_hw hw 92 rfl) (by decide) (argsL := [(.ref t196), (.int 3), (.int 0), (.ref b198), (.int 0)]) (rest := []) (own_sm_3_0_0 l Z a0 hw z sf t196 vb196 _ _ b198 _ _ c1 c2 c3 c4 h202 n0 O202 hG hc2 E_t196_202 F_t196_value_202 F_t196_coder_202 A_vb196_202 A_b198_202) e202 (by rw [hml]; rfl) (lenOf own_pd39901 rfl) rfl (hb hby at_187) (W := 0) (Nat.le_of_eq rfl) (by decide) ?_
      intro v203 T203 L203 X203 q203
      obtain ⟨rfl, N203q, e203⟩ := q203
      have N203 := Fr.app N202 N203q
      show own_Go p e below _ T203 (mkF m 190 #[iv p1, iv p2, iv p3, iv p4, iv p5, iv 4, iv c1, iv c2, iv c3, iv c4, rv ca193, rv b194, rv t196, iv 0, iv 3, rv b198] [(.int 1)])
      refine og_ifN X203 hx (hb hby at_190) (feq (by decide)).1 ?_
      refine og_aload X203 hx (hb hby at_193) rfl rfl ?_
      refine og_iload X203 hx (hb hby at_195) rfl ?_
      refine og_iconst X203 hx (hb hby at_197) ?_
      refine og_aload X203 hx (hb hby at_198) rfl rfl ?_
      refine og_iload X203 hx (hb hby at_200) rfl ?_
      refine own_callS X203 hx hZ hown (own_hw hw 90 rfl) (own_hw hw 91 rfl) (own_hw hw 3 rfl) (own_hw hw 92 rfl) (by decide) (argsL := [(.ref t196), (.int 3), (.int 1), (.ref b198), (.int 0)]) (rest := []) (own_sm_3_1_0 l Z a0 hw z sf t196 vb196 _ _ b198 _ _ c1 c2 c3 c4 h202 n0 O202 hG hc3 E_t196_202 F_t196_value_202 F_t196_coder_202 A_vb196_202 A_b198_202) e203 (by rw [hml]; rfl) (lenOf own_pd39901 rfl) rfl (hb hby at_202) (W := 0) (Nat.le_of_eq rfl) (by decide) ?_
      intro v204 T204 L204 X204 q204
      obtain ⟨rfl, N204q, e204⟩ := q204
      have N204 := Fr.app N203 N204q
      show own_Go p e below _ T204 (mkF m 205 #[iv p1, iv p2, iv p3, iv p4, iv p5, iv 4, iv c1, iv c2, iv c3, iv c4, rv ca193, rv b194, rv t196, iv 0, iv 3, rv b198] [(.int 1)])
      refine og_ifN X204 hx (hb hby at_205) (feq (by decide)).1 ?_
      refine og_aload X204 hx (hb hby at_208) rfl rfl ?_
      refine og_iload X204 hx (hb hby at_210) rfl ?_
      refine og_iconst X204 hx (hb hby at_212) ?_
      refine og_aload X204 hx (hb hby at_213) rfl rfl ?_
      refine og_iload X204 hx (hb hby at_215) rfl ?_
      refine own_callS X204 hx hZ hown (own_hw hw 90 rfl) (own_hw hw 91 rfl) (own_hw hw 3 rfl) (own_hw hw 92 rfl) (by decide) (argsL := [(.ref t196), (.int 3), (.int 2), (.ref b198), (.int 0)]) (rest := []) (own_sm_3_2_0 l Z a0 hw z sf t196 vb196 _ _ b198 _ _ c1 c2 c3 c4 h202 n0 O202 hG hc4 E_t196_202 F_t196_value_202 F_t196_coder_202 A_vb196_202 A_b198_202) e204 (by rw [hml]; rfl) (lenOf own_pd39901 rfl) rfl (hb hby at_217) (W := 0) (Nat.le_of_eq rfl) (by decide) ?_
      intro v205 T205 L205 X205 q205
      obtain ⟨rfl, N205q, e205⟩ := q205
      have N205 := Fr.app N204 N205q
      show own_Go p e below _ T205 (mkF m 220 #[iv p1, iv p2, iv p3, iv p4, iv p5, iv 4, iv c1, iv c2, iv c3, iv c4, rv ca193, rv b194, rv t196, iv 0, iv 3, rv b198] [(.int 1)])
      refine og_ifN X205 hx (hb hby at_220) (feq (by decide)).1 ?_
      refine og_aload X205 hx (hb hby at_223) rfl rfl ?_
      refine og_iload X205 hx (hb hby at_225) rfl ?_
      refine og_iconst X205 hx (hb hby at_227) ?_
      refine og_aload X205 hx (hb hby at_228) rfl rfl ?_
      refine og_iload X205 hx (hb hby at_230) rfl ?_
      refine own_callS X205 hx hZ hown (own_hw hw 90 rfl) (own_hw hw 91 rfl) (own_hw hw 3 rfl) (own_hw hw 92 rfl) (by decide) (argsL := [(.ref t196), (.int 3), (.int 3), (.ref b198), (.int 0)]) (rest := []) (own_sm_3_3 l Z a0 hw t196 b198 0 h202 n0) e205 (by rw [hml]; rfl) (lenOf own_pd39901 rfl) rfl (hb hby at_232) (W := 0) (Nat.le_of_eq rfl) (by decide) ?_
      intro v206 T206 L206 X206 q206
      obtain ⟨rfl, N206q, e206⟩ := q206
      have N206 := Fr.app N205 N206q
      show own_Go p e below _ T206 (mkF m 235 #[iv p1, iv p2, iv p3, iv p4, iv p5, iv 4, iv c1, iv c2, iv c3, iv c4, rv ca193, rv b194, rv t196, iv 0, iv 3, rv b198] [(.int 1)])
      refine og_ifN X206 hx (hb hby at_235) (feq (by decide)).1 ?_
      refine og_iconst X206 hx (hb hby at_238) ?_
      refine og_goto X206 hx 243 (hb hby at_239) (by decide) (by decide) ?_
      exact own_retIH X206 hx hret hlk (hb hby at_243) rfl (by simp) hZ (own_EW hw) C202 e206 hS hk202 (by decide) (by decide) (⟨rfl, N206⟩)
    · show own_Go p e below _ T4 (mkF m 35 #[iv p1, iv p2, iv p3, iv p4, iv p5, iv 4, iv c1, iv c2, iv c3, iv c4, .unset, .unset, .unset, .unset, .unset, .unset] [(.int 4)])
      refine og_iload X4 hx (hb hby at_35) rfl ?_
      refine og_iload X4 hx (hb hby at_37) rfl ?_
      refine og_iload X4 hx (hb hby at_39) rfl ?_
      refine og_iload X4 hx (hb hby at_41) rfl ?_
      refine own_callS X4 hx hZ hown (own_hw hw 5 rfl) (own_hw hw 6 rfl) (own_hw hw 3 rfl) (own_hw hw 7 rfl) (by decide) (argsL := [(.int 4), (.int c1), (.int c2), (.int c3), (.int c4)]) (rest := []) (own_mk4 l Z a0 hw c1 c2 c3 c4 h0 n0 hO hc1 hc2 hc3 hc4) e4 (by rw [hml]; rfl) (lenOf own_pd92197 rfl) rfl (hb hby at_43) (W := 0) (Nat.le_of_eq rfl) (by decide) ?_
      intro v207 T207 L207 X207 q207
      obtain ⟨ca207, k207, rfl, N207q, K207q, z207q, g207q, A207q⟩ := q207
      have N207 := Fr.app N4 N207q
      have hk207 := Nat.le_trans hk K207q.1
      have hs207 : ∀ x ∈ ([] : List Addr), Safe Z own_EL s.vm h0 x := sf0
      have C207 := C0.trans (CHr.keep K207q hs207 C0.1)
      have O207 := hO.keep K207q all0
      show own_Go p e below _ T207 (mkF m 46 #[iv p1, iv p2, iv p3, iv p4, iv p5, iv 4, iv c1, iv c2, iv c3, iv c4, .unset, .unset, .unset, .unset, .unset, .unset] [(.ref ca207)])
      refine og_astore X207 hx #[iv p1, iv p2, iv p3, iv p4, iv p5, iv 4, iv c1, iv c2, iv c3, iv c4, rv ca207, .unset, .unset, .unset, .unset, .unset] (hb hby at_46) rfl rfl ?_
      refine own_newO X207 hx hZ hown (own_hw hw 9 rfl) (own_hw hw 10 rfl) (own_hw hw 11 rfl) rfl (hb hby at_48) (by decide) (by decide) ?_
      intro T208 h208 b208 g208 X208 e208 E208 A208 D208
      have ne_ca207_b208 : ca207 ≠ b208 := Nat.ne_of_lt (Nat.lt_of_lt_of_eq A207q.lt g208.symm)
      have ge_b208 : n0 ≤ b208 := Nat.le_trans (own_oldle O207) (Nat.le_of_eq g208.symm)
      have S_b208 : Safe Z own_EL s.vm T207.heap b208 := Safe.new (Nat.le_of_eq g208.symm)
      have hk208 := Nat.le_trans hk207 E208.1
      have A_ca207_208 := A207q.ext E208
      have S_b208_208 := Safe.ext E208 C207.1 S_b208
      have C208 := C207.trans (CHr.ext E208 C207.1)
      have O208 := O207.ext E208
      have F_b208_value_208 : Fld Z h208 b208 "java/lang/String" "value" "[B" .null := D208 (Or.inr (own_hw hw 24 rfl)) (ty := (.array .byte)) (by decide)
      have F_b208_coder_208 : Fld Z h208 b208 "java/lang/String" "coder" "B" (.int 0) := D208 (Or.inr (own_hw hw 25 rfl)) (ty := .byte) (by decide)
      show own_Go p e below _ T208 (mkF m 51 #[iv p1, iv p2, iv p3, iv p4, iv p5, iv 4, iv c1, iv c2, iv c3, iv c4, rv ca207, .unset, .unset, .unset, .unset, .unset] [(.ref b208)])
      refine og_dup X208 hx (hb hby at_51) rfl ?_
      refine og_aload X208 hx (hb hby at_52) rfl rfl ?_
      have hws : ∀ d ∈ StrChars.Road.words, d.before a0 Z = true := fun d hd => hw d ((by decide +kernel : ∀ d ∈ StrChars.Road.words, d ∈ tables_1) d hd)
      have hp209 : ∀ c ∈ ([c1, c2, c3, c4] : List Int32), ¬ c < 0 ∧ ¬ (255 : Int32) < c := by
        intro c hc; simp only [List.mem_cons, List.not_mem_nil, or_false] at hc; rcases hc with rfl | rfl | rfl | rfl <;> assumption
      refine own_callNB X208 hx hZ hown (own_hw hw 12 rfl) (own_hw hw 13 rfl) (own_hw hw 14 rfl) (own_hw hw 11 rfl) (by decide) rfl (b := b208) (argsL := [(.ref ca207)]) (rest := [(.ref b208)]) (StrChars.Road.backV (W := 1) hZ hws (kI := 4) (own_hw hw 10 rfl) (cs := ([c1, c2, c3, c4] : List Int32)) (bs := (([c1, c2, c3, c4] : List Int32)).map (fun c => c.toInt8.toInt32)) (n := 4) ge_b208 (own_oldle O208) A208 F_b208_value_208 F_b208_coder_208 A_ca207_208 (SC.ext O208.2) hz rfl rfl (by decide) (by decide) hp209 rfl (by decide) (by decide)) e208 (by rw [hml]; rfl) (lenOf own_pd46664 rfl) rfl (hb hby at_54) (Nat.le_of_eq rfl) (by decide) (by decide) ?_
      intro v209 T209 L209 X209 q209
      obtain ⟨rfl, N209q, K209q, E209q, C209q, vb209, kb209, ge209, z209q, ne209q, V209q, A209q⟩ := q209
      have N209 := Fr.app N207 N209q
      have ne_b208_vb209 : b208 ≠ vb209 := Nat.ne_of_lt (Nat.lt_of_lt_of_le A208.lt z209q)
      have ne_ca207_vb209 : ca207 ≠ vb209 := Nat.ne_of_lt (Nat.lt_of_lt_of_le A_ca207_208.lt z209q)
      have hk209 := Nat.le_trans hk208 K209q.1
      have hs209 : ∀ x ∈ ([b208] : List Addr), Safe Z own_EL s.vm h208 x := (sfS S_b208_208 sf0)
      have C209 := C208.trans (CHr.keep K209q hs209 C208.1)
      have A_ca207_209 := A_ca207_208.keep K209q (ninS ne_ca207_b208 nin0)
      have S_b208_209 := Safe.keep K209q hs209 C208.1 S_b208_208
      have E_b208_209 := A208.keep K209q
      have O209 := O208.keep K209q (allS ge_b208 all0)
      show own_Go p e below _ T209 (mkF m 57 #[iv p1, iv p2, iv p3, iv p4, iv p5, iv 4, iv c1, iv c2, iv c3, iv c4, rv ca207, .unset, .unset, .unset, .unset, .unset] [(.ref b208)])
      refine og_astore X209 hx #[iv p1, iv p2, iv p3, iv p4, iv p5, iv 4, iv c1, iv c2, iv c3, iv c4, rv ca207, rv b208, .unset, .unset, .unset, .unset] (hb hby at_57) rfl rfl ?_
      refine og_aload X209 hx (hb hby at_59) rfl rfl ?_
      refine own_callS X209 hx hZ hown (own_hw hw 30 rfl) (own_hw hw 31 rfl) (own_hw hw 32 rfl) (own_hw hw 33 rfl) (by decide) (argsL := [(.ref b208)]) (rest := []) (own_po_4_m1 l Z a0 hw z sf b208 vb209 _ _ c1 c2 c3 c4 T209.heap n0 O209 hG hc1 m0 hc2 m1 hc3 m2 hc4 m3 E_b208_209 V209q C209q A209q) rfl (by rw [hml]; rfl) (lenOf own_pd11897 rfl) rfl (hb hby at_61) (W := 0) (Nat.le_of_eq rfl) (by decide) ?_
      intro v210 T210 L210 X210 q210
      obtain ⟨rfl, N210q, e210⟩ := q210
      have N210 := Fr.app N209 N210q
      show own_Go p e below _ T210 (mkF m 64 #[iv p1, iv p2, iv p3, iv p4, iv p5, iv 4, iv c1, iv c2, iv c3, iv c4, rv ca207, rv b208, .unset, .unset, .unset, .unset] [(.ref b208)])
      refine og_astore X210 hx #[iv p1, iv p2, iv p3, iv p4, iv p5, iv 4, iv c1, iv c2, iv c3, iv c4, rv ca207, rv b208, rv b208, .unset, .unset, .unset] (hb hby at_64) rfl rfl ?_
      refine og_iconst X210 hx (hb hby at_66) ?_
      refine og_istore X210 hx #[iv p1, iv p2, iv p3, iv p4, iv p5, iv 4, iv c1, iv c2, iv c3, iv c4, rv ca207, rv b208, rv b208, iv (-1), .unset, .unset] (hb hby at_67) rfl ?_
      refine og_iload X210 hx (hb hby at_69) rfl ?_
      refine og_ifN X210 hx (hb hby at_71) (tlt (by decide)).2.2.2 ?_
      refine og_iload X210 hx (hb hby at_74) rfl ?_
      refine og_bipush X210 hx (hb hby at_76) ?_
      refine og_icY X210 hx 84 (hb hby at_78) (feq m0).2 (by decide) (by decide) ?_
      refine og_iload X210 hx (hb hby at_84) rfl ?_
      refine og_iconst X210 hx (hb hby at_86) ?_
      refine og_icN X210 hx (hb hby at_87) (tlt (by decide)).2.2.2 ?_
      refine og_iload X210 hx (hb hby at_90) rfl ?_
      refine og_bipush X210 hx (hb hby at_92) ?_
      refine og_icY X210 hx 100 (hb hby at_94) (feq m1).2 (by decide) (by decide) ?_
      refine og_iload X210 hx (hb hby at_100) rfl ?_
      refine og_iconst X210 hx (hb hby at_102) ?_
      refine og_icN X210 hx (hb hby at_103) (tlt (by decide)).2.2.2 ?_
      refine og_iload X210 hx (hb hby at_106) rfl ?_
      refine og_bipush X210 hx (hb hby at_108) ?_
      refine og_icY X210 hx 116 (hb hby at_110) (feq m2).2 (by decide) (by decide) ?_
      refine og_iload X210 hx (hb hby at_116) rfl ?_
      refine og_iconst X210 hx (hb hby at_118) ?_
      refine og_icN X210 hx (hb hby at_119) (tlt (by decide)).2.2.2 ?_
      refine og_iload X210 hx (hb hby at_122) rfl ?_
      refine og_bipush X210 hx (hb hby at_124) ?_
      refine og_icY X210 hx 132 (hb hby at_126) (feq m3).2 (by decide) (by decide) ?_
      refine og_iload X210 hx (hb hby at_132) rfl ?_
      refine og_iload X210 hx (hb hby at_134) rfl ?_
      refine og_isub X210 hx (hb hby at_136) ?_
      refine og_iconst X210 hx (hb hby at_137) ?_
      refine og_isub X210 hx (hb hby at_138) ?_
      refine og_istore X210 hx #[iv p1, iv p2, iv p3, iv p4, iv p5, iv 4, iv c1, iv c2, iv c3, iv c4, rv ca207, rv b208, rv b208, iv (-1), iv 4, .unset] (hb hby at_139) rfl ?_
      refine og_aload X210 hx (hb hby at_141) rfl rfl ?_
      refine own_callV X210 hx hZ hown (own_hw hw 89 rfl) (own_hw hw 40 rfl) (notFace_of_selects (args := #[]) (mvT hZ (own_hw hw 42 rfl))) (own_hw hw 42 rfl) (own_hw hw 41 rfl) (own_hw hw 43 rfl) (own_hw hw 11 rfl) (by decide) (b := b208) (argsL := []) (rest := []) (own_slen l Z a0 hw z sf b208 vb209 _ _ (4 : Int32) _ T209.heap n0 O209 hG E_b208_209 V209q C209q A209q) e210 E_b208_209 (by rw [hml]; rfl) (lenOf own_pd13941 rfl) rfl (hb hby at_143) (W := 0) (Nat.le_of_eq rfl) (by decide) ?_
      intro v211 T211 L211 X211 q211
      obtain ⟨rfl, N211q, e211⟩ := q211
      have N211 := Fr.app N210 N211q
      show own_Go p e below _ T211 (mkF m 146 #[iv p1, iv p2, iv p3, iv p4, iv p5, iv 4, iv c1, iv c2, iv c3, iv c4, rv ca207, rv b208, rv b208, iv (-1), iv 4, .unset] [(.int (4 : Int32))])
      refine og_iload X211 hx (hb hby at_146) rfl ?_
      refine og_icY X211 hx 153 (hb hby at_148) (teq (by decide)).1 (by decide) (by decide) ?_
      refine og_iconst X211 hx (hb hby at_153) ?_
      refine own_newP X211 hx hZ (own_hw hw 8 rfl) e211 (hb hby at_154) (by decide) 4 (by decide) (by decide) (by decide) (by decide) ?_
      intro T212 h212 k212 b212 g212 X212 e212 E212 A212
      have ne_b208_b212 : b208 ≠ b212 := Nat.ne_of_lt (Nat.lt_of_lt_of_eq E_b208_209.lt g212.symm)
      have ne_vb209_b212 : vb209 ≠ b212 := Nat.ne_of_lt (Nat.lt_of_lt_of_eq A209q.lt g212.symm)
      have ge_b212 : n0 ≤ b212 := Nat.le_trans (own_oldle O209) (Nat.le_of_eq g212.symm)
      have hk212 := Nat.le_trans hk209 E212.1
      have E_b208_212 := E_b208_209.ext E212
      have F_b208_value_212 := V209q.ext E212
      have F_b208_coder_212 := C209q.ext E212
      have A_vb209_212 := A209q.ext E212
      have C212 := C209.trans (CHr.ext E212 C209.1)
      have O212 := O209.ext E212
      have A_b212_212 : Arv Z h212 b212 k212 .char 4 [(.int (0 : Int32)), (.int (0 : Int32)), (.int (0 : Int32)), (.int (0 : Int32))] (.int (0 : Int32)) := A212
      show own_Go p e below _ T212 (mkF m 156 #[iv p1, iv p2, iv p3, iv p4, iv p5, iv 4, iv c1, iv c2, iv c3, iv c4, rv ca207, rv b208, rv b208, iv (-1), iv 4, .unset] [(.ref b212)])
      refine og_dup X212 hx (hb hby at_156) rfl ?_
      refine og_iconst X212 hx (hb hby at_157) ?_
      refine og_iload X212 hx (hb hby at_158) rfl ?_
      refine own_stC X212 hx hZ e212 A_b212_212 ⟨by decide, by decide⟩ 0 rfl (by show 0 < 4; decide) (hb hby at_160) ?_
      intro T213 h213 X213 e213 W213 A213
      have hk213 := Nat.le_trans hk212 (Keep.of_wr W213).1
      have sf213 := (Safe.arv (EL := own_EL) hZ.alike A_b212_212 (by decide))
      have C213 := C212.trans (CHr.wr W213 sf213 C212.1)
      have E_b208_213 := E_b208_212.wr W213
      have F_b208_value_213 := F_b208_value_212.other W213 (Or.inl ne_b208_b212)
      have F_b208_coder_213 := F_b208_coder_212.other W213 (Or.inl ne_b208_b212)
      have A_vb209_213 := A_vb209_212.other W213 ne_vb209_b212
      have O213 := O212.wr W213 ge_b212
      have N213 := Fr.snoc X213 N211 ge_b212
      have A_b212_213 : Arv Z h213 b212 k212 .char 4 [(.int c1), (.int (0 : Int32)), (.int (0 : Int32)), (.int (0 : Int32))] (.int (0 : Int32)) := (by have q := A213; rw [show nar .char c1 = c1 from own_ic _ hc1] at q; exact q)
      show own_Go p e below _ T213 (mkF m 161 #[iv p1, iv p2, iv p3, iv p4, iv p5, iv 4, iv c1, iv c2, iv c3, iv c4, rv ca207, rv b208, rv b208, iv (-1), iv 4, .unset] [(.ref b212)])
      refine og_dup X213 hx (hb hby at_161) rfl ?_
      refine og_iconst X213 hx (hb hby at_162) ?_
      refine og_iload X213 hx (hb hby at_163) rfl ?_
      refine own_stC X213 hx hZ e213 A_b212_213 ⟨by decide, by decide⟩ 1 rfl (by show 1 < 4; decide) (hb hby at_165) ?_
      intro T214 h214 X214 e214 W214 A214
      have hk214 := Nat.le_trans hk213 (Keep.of_wr W214).1
      have sf214 := (Safe.arv (EL := own_EL) hZ.alike A_b212_213 (by decide))
      have C214 := C213.trans (CHr.wr W214 sf214 C213.1)
      have E_b208_214 := E_b208_213.wr W214
      have F_b208_value_214 := F_b208_value_213.other W214 (Or.inl ne_b208_b212)
      have F_b208_coder_214 := F_b208_coder_213.other W214 (Or.inl ne_b208_b212)
      have A_vb209_214 := A_vb209_213.other W214 ne_vb209_b212
      have O214 := O213.wr W214 ge_b212
      have N214 := Fr.snoc X214 N213 ge_b212
      have A_b212_214 : Arv Z h214 b212 k212 .char 4 [(.int c1), (.int c2), (.int (0 : Int32)), (.int (0 : Int32))] (.int (0 : Int32)) := (by have q := A214; rw [show nar .char c2 = c2 from own_ic _ hc2] at q; exact q)
      show own_Go p e below _ T214 (mkF m 166 #[iv p1, iv p2, iv p3, iv p4, iv p5, iv 4, iv c1, iv c2, iv c3, iv c4, rv ca207, rv b208, rv b208, iv (-1), iv 4, .unset] [(.ref b212)])
      refine og_dup X214 hx (hb hby at_166) rfl ?_
      refine og_iconst X214 hx (hb hby at_167) ?_
      refine og_iload X214 hx (hb hby at_168) rfl ?_
      refine own_stC X214 hx hZ e214 A_b212_214 ⟨by decide, by decide⟩ 2 rfl (by show 2 < 4; decide) (hb hby at_170) ?_
      intro T215 h215 X215 e215 W215 A215
      have hk215 := Nat.le_trans hk214 (Keep.of_wr W215).1
      have sf215 := (Safe.arv (EL := own_EL) hZ.alike A_b212_214 (by decide))
      have C215 := C214.trans (CHr.wr W215 sf215 C214.1)
      have E_b208_215 := E_b208_214.wr W215
      have F_b208_value_215 := F_b208_value_214.other W215 (Or.inl ne_b208_b212)
      have F_b208_coder_215 := F_b208_coder_214.other W215 (Or.inl ne_b208_b212)
      have A_vb209_215 := A_vb209_214.other W215 ne_vb209_b212
      have O215 := O214.wr W215 ge_b212
      have N215 := Fr.snoc X215 N214 ge_b212
      have A_b212_215 : Arv Z h215 b212 k212 .char 4 [(.int c1), (.int c2), (.int c3), (.int (0 : Int32))] (.int (0 : Int32)) := (by have q := A215; rw [show nar .char c3 = c3 from own_ic _ hc3] at q; exact q)
      show own_Go p e below _ T215 (mkF m 171 #[iv p1, iv p2, iv p3, iv p4, iv p5, iv 4, iv c1, iv c2, iv c3, iv c4, rv ca207, rv b208, rv b208, iv (-1), iv 4, .unset] [(.ref b212)])
      refine og_dup X215 hx (hb hby at_171) rfl ?_
      refine og_iconst X215 hx (hb hby at_172) ?_
      refine og_iload X215 hx (hb hby at_173) rfl ?_
      refine own_stC X215 hx hZ e215 A_b212_215 ⟨by decide, by decide⟩ 3 rfl (by show 3 < 4; decide) (hb hby at_175) ?_
      intro T216 h216 X216 e216 W216 A216
      have hk216 := Nat.le_trans hk215 (Keep.of_wr W216).1
      have sf216 := (Safe.arv (EL := own_EL) hZ.alike A_b212_215 (by decide))
      have C216 := C215.trans (CHr.wr W216 sf216 C215.1)
      have E_b208_216 := E_b208_215.wr W216
      have F_b208_value_216 := F_b208_value_215.other W216 (Or.inl ne_b208_b212)
      have F_b208_coder_216 := F_b208_coder_215.other W216 (Or.inl ne_b208_b212)
      have A_vb209_216 := A_vb209_215.other W216 ne_vb209_b212
      have O216 := O215.wr W216 ge_b212
      have N216 := Fr.snoc X216 N215 ge_b212
      have A_b212_216 : Arv Z h216 b212 k212 .char 4 [(.int c1), (.int c2), (.int c3), (.int c4)] (.int (0 : Int32)) := (by have q := A216; rw [show nar .char c4 = c4 from own_ic _ hc4] at q; exact q)
      show own_Go p e below _ T216 (mkF m 176 #[iv p1, iv p2, iv p3, iv p4, iv p5, iv 4, iv c1, iv c2, iv c3, iv c4, rv ca207, rv b208, rv b208, iv (-1), iv 4, .unset] [(.ref b212)])
      refine og_astore X216 hx #[iv p1, iv p2, iv p3, iv p4, iv p5, iv 4, iv c1, iv c2, iv c3, iv c4, rv ca207, rv b208, rv b208, iv (-1), iv 4, rv b212] (hb hby at_176) rfl rfl ?_
      refine og_aload X216 hx (hb hby at_178) rfl rfl ?_
      refine og_iload X216 hx (hb hby at_180) rfl ?_
      refine og_iconst X216 hx (hb hby at_182) ?_
      refine og_aload X216 hx (hb hby at_183) rfl rfl ?_
      refine og_iload X216 hx (hb hby at_185) rfl ?_
      refine own_callS X216 hx hZ hown (own_hw hw 90 rfl) (own_hw hw 91 rfl) (own_hw hw 3 rfl) (own_hw hw 92 rfl) (by decide) (argsL := [(.ref b208), (.int 4), (.int 0), (.ref b212), (.int (-1))]) (rest := []) (own_sm_4_0_m1 l Z a0 hw z sf b208 vb209 _ _ b212 _ _ c1 c2 c3 c4 h216 n0 O216 hG hc1 E_b208_216 F_b208_value_216 F_b208_coder_216 A_vb209_216 A_b212_216) e216 (by rw [hml]; rfl) (lenOf own_pd39901 rfl) rfl (hb hby at_187) (W := 0) (Nat.le_of_eq rfl) (by decide) ?_
      intro v217 T217 L217 X217 q217
      obtain ⟨rfl, N217q, e217⟩ := q217
      have N217 := Fr.app N216 N217q
      show own_Go p e below _ T217 (mkF m 190 #[iv p1, iv p2, iv p3, iv p4, iv p5, iv 4, iv c1, iv c2, iv c3, iv c4, rv ca207, rv b208, rv b208, iv (-1), iv 4, rv b212] [(.int 1)])
      refine og_ifN X217 hx (hb hby at_190) (feq (by decide)).1 ?_
      refine og_aload X217 hx (hb hby at_193) rfl rfl ?_
      refine og_iload X217 hx (hb hby at_195) rfl ?_
      refine og_iconst X217 hx (hb hby at_197) ?_
      refine og_aload X217 hx (hb hby at_198) rfl rfl ?_
      refine og_iload X217 hx (hb hby at_200) rfl ?_
      refine own_callS X217 hx hZ hown (own_hw hw 90 rfl) (own_hw hw 91 rfl) (own_hw hw 3 rfl) (own_hw hw 92 rfl) (by decide) (argsL := [(.ref b208), (.int 4), (.int 1), (.ref b212), (.int (-1))]) (rest := []) (own_sm_4_1_m1 l Z a0 hw z sf b208 vb209 _ _ b212 _ _ c1 c2 c3 c4 h216 n0 O216 hG hc2 E_b208_216 F_b208_value_216 F_b208_coder_216 A_vb209_216 A_b212_216) e217 (by rw [hml]; rfl) (lenOf own_pd39901 rfl) rfl (hb hby at_202) (W := 0) (Nat.le_of_eq rfl) (by decide) ?_
      intro v218 T218 L218 X218 q218
      obtain ⟨rfl, N218q, e218⟩ := q218
      have N218 := Fr.app N217 N218q
      show own_Go p e below _ T218 (mkF m 205 #[iv p1, iv p2, iv p3, iv p4, iv p5, iv 4, iv c1, iv c2, iv c3, iv c4, rv ca207, rv b208, rv b208, iv (-1), iv 4, rv b212] [(.int 1)])
      refine og_ifN X218 hx (hb hby at_205) (feq (by decide)).1 ?_
      refine og_aload X218 hx (hb hby at_208) rfl rfl ?_
      refine og_iload X218 hx (hb hby at_210) rfl ?_
      refine og_iconst X218 hx (hb hby at_212) ?_
      refine og_aload X218 hx (hb hby at_213) rfl rfl ?_
      refine og_iload X218 hx (hb hby at_215) rfl ?_
      refine own_callS X218 hx hZ hown (own_hw hw 90 rfl) (own_hw hw 91 rfl) (own_hw hw 3 rfl) (own_hw hw 92 rfl) (by decide) (argsL := [(.ref b208), (.int 4), (.int 2), (.ref b212), (.int (-1))]) (rest := []) (own_sm_4_2_m1 l Z a0 hw z sf b208 vb209 _ _ b212 _ _ c1 c2 c3 c4 h216 n0 O216 hG hc3 E_b208_216 F_b208_value_216 F_b208_coder_216 A_vb209_216 A_b212_216) e218 (by rw [hml]; rfl) (lenOf own_pd39901 rfl) rfl (hb hby at_217) (W := 0) (Nat.le_of_eq rfl) (by decide) ?_
      intro v219 T219 L219 X219 q219
      obtain ⟨rfl, N219q, e219⟩ := q219
      have N219 := Fr.app N218 N219q
      show own_Go p e below _ T219 (mkF m 220 #[iv p1, iv p2, iv p3, iv p4, iv p5, iv 4, iv c1, iv c2, iv c3, iv c4, rv ca207, rv b208, rv b208, iv (-1), iv 4, rv b212] [(.int 1)])
      refine og_ifN X219 hx (hb hby at_220) (feq (by decide)).1 ?_
      refine og_aload X219 hx (hb hby at_223) rfl rfl ?_
      refine og_iload X219 hx (hb hby at_225) rfl ?_
      refine og_iconst X219 hx (hb hby at_227) ?_
      refine og_aload X219 hx (hb hby at_228) rfl rfl ?_
      refine og_iload X219 hx (hb hby at_230) rfl ?_
      refine own_callS X219 hx hZ hown (own_hw hw 90 rfl) (own_hw hw 91 rfl) (own_hw hw 3 rfl) (own_hw hw 92 rfl) (by decide) (argsL := [(.ref b208), (.int 4), (.int 3), (.ref b212), (.int (-1))]) (rest := []) (own_sm_4_3_m1 l Z a0 hw z sf b208 vb209 _ _ b212 _ _ c1 c2 c3 c4 h216 n0 O216 hG hc4 E_b208_216 F_b208_value_216 F_b208_coder_216 A_vb209_216 A_b212_216) e219 (by rw [hml]; rfl) (lenOf own_pd39901 rfl) rfl (hb hby at_232) (W := 0) (Nat.le_of_eq rfl) (by decide) ?_
      intro v220 T220 L220 X220 q220
      obtain ⟨rfl, N220q, e220⟩ := q220
      have N220 := Fr.app N219 N220q
      show own_Go p e below _ T220 (mkF m 235 #[iv p1, iv p2, iv p3, iv p4, iv p5, iv 4, iv c1, iv c2, iv c3, iv c4, rv ca207, rv b208, rv b208, iv (-1), iv 4, rv b212] [(.int 1)])
      refine og_ifN X220 hx (hb hby at_235) (feq (by decide)).1 ?_
      refine og_iconst X220 hx (hb hby at_238) ?_
      refine og_goto X220 hx 243 (hb hby at_239) (by decide) (by decide) ?_
      exact own_retIH X220 hx hret hlk (hb hby at_243) rfl (by simp) hZ (own_EW hw) C216 e220 hS hk216 (by decide) (by decide) (⟨rfl, N220⟩)
set_option maxRecDepth 65536 in
set_option maxHeartbeats 40000000 in
theorem comes_1 {Post : Tables → Env → Array Value → State → Outcome → State → Prop} (hpost : ∀ tb e args s v u, (limb_1_1.after args s (.returned v) u = true ∧ limb_1_2.after args s (.returned v) u = true ∧ True) → ReturnedEndW s (.returned v) u (Jvm.fieldLocs frame_1_writes args s ++ Jvm.arrayLocs frame_1_arrays args s ++ Jvm.staticLocs frame_1_statics s) 24 2176 → Post tb e args s (.returned v) u) :
    ArmFor flags0 classFile x code maxLocals ret World_1 tables_1 room_1 Calls_1 rest_1 Pre_1 Post := by
  intro l hfl _ _ p e ha hc hk s m args below hf hA hF happ hP
  obtain ⟨hcalls, hrest, hpre⟩ := hP
  obtain ⟨-, -, -, hnamed, -, -, -, hat⟩ := (Spec.applies_iff hf).mp happ
  obtain ⟨hg, hn⟩ := and_e (Cond.before_iff.mp (show (Jvm.Cond.and given_1 narrow_1).before args s = true from hpre))
  obtain ⟨hcount, hk0⟩ := and_e hg
  obtain ⟨w0, w1, w2, w3, w4, rfl⟩ : ∃ w0 w1 w2 w3 w4 : Value, args = #[w0, w1, w2, w3, w4] := by
    have hs : args.size = 5 := by simpa [Cond.value, given_1] using hcount
    obtain ⟨L⟩ := args
    match L, hs with
    | [w0, w1, w2, w3, w4], _ => exact ⟨w0, w1, w2, w3, w4, rfl⟩
  have hw := fun d (hd : d ∈ tables_1) => atoms_spec (ws := Jvm.Cond.code x code maxLocals ret :: tables_1) hat d (List.mem_cons_of_mem _ hd)
  have hfit : Fit s := fun {y c} hc i hi => by
    obtain ⟨ha, rfl⟩ := Array.getElem?_eq_some_iff.mp hc
    have q := List.all_eq_true.mp ((Array.all_eq_true_iff_forall_mem.mp hF) _ (Array.getElem_mem ha)) i (List.mem_range.mpr hi)
    simpa [Array.getElem?_eq_getElem hi] using q
  obtain ⟨hi0, hk1⟩ := and_e hk0
  obtain ⟨i0, ei0⟩ := is_v hi0
  obtain rfl : w0 = (.int i0) := Option.some.inj ei0
  obtain ⟨hi1, hk2⟩ := and_e hk1
  obtain ⟨i1, ei1⟩ := is_v hi1
  obtain rfl : w1 = (.int i1) := Option.some.inj ei1
  obtain ⟨hi2, hk3⟩ := and_e hk2
  obtain ⟨i2, ei2⟩ := is_v hi2
  obtain rfl : w2 = (.int i2) := Option.some.inj ei2
  obtain ⟨hi3, hk4⟩ := and_e hk3
  obtain ⟨i3, ei3⟩ := is_v hi3
  obtain rfl : w3 = (.int i3) := Option.some.inj ei3
  obtain ⟨i4, ei4⟩ := is_v hk4
  obtain rfl : w4 = (.int i4) := Option.some.inj ei4
  obtain ⟨hsets, hown0⟩ := atoms_of _ (rest_1_c_eq ▸ (show rest_1_c.before _ s = true from hrest))
  have z1 := not_v (Cond.before_iff.mp (hsets _ (List.mem_of_getElem? (i := 2) rfl)))
  obtain ⟨z, ez⟩ := is_v (Cond.before_iff.mp (hsets _ (List.mem_of_getElem? (i := 1) rfl)))
  have SC : Sta s s.heap "java/lang/String" "COMPACT_STRINGS" "Z" (.int z) := Sta.start ez (Or.inl (hsets _ (List.mem_of_getElem? (i := 0) rfl)))
  have hz : ¬ (z = (0 : Int32)) := gotF (Cond.eq_ints ez (Term.int_eval (0))) z1
  obtain ⟨sf, ef, rf⟩ := isR_v (Cond.before_iff.mp (hsets _ (List.mem_of_getElem? (i := 8) rfl)))
  have SF : Sta s s.heap "jdk/internal/util/Preconditions" "SIOOBE_FORMATTER" "Ljava/util/function/BiFunction;" sf := Sta.start ef (Or.inl (hsets _ (List.mem_of_getElem? (i := 7) rfl)))
  have hG : own_Gs s z sf := ⟨SC, hz, SF, rf⟩
  have CH0 : CHv s own_EL s.vm s.heap := CHv.start (own_EW hw) (fun p hp => hcalls.1 p ((by decide +kernel : ∀ p ∈ own_EL, p ∈ consts_1) p hp)) (hsets _ (List.mem_of_getElem? (i := 2) rfl)) (own_hw hw 23 rfl) (own_hw hw 10 rfl)
  obtain ⟨n, o, h1, h2, h3, _, L, rfl, ⟨rfl, N⟩, -, hq⟩ := (own_rm0 l s _ hw i0 i1 i2 i3 i4 z sf s.heap s.heap.size (Old.start s) hG) tables_1 p e ha hc hk s m _ below hf ((Spec.applies_iff_loose hf).mp happ).1 ⟨rfl, State.Warmed39.refl s, rfl, CH0⟩ trivial
  refine ⟨n, _, h1, h2, h3, hpost _ _ _ _ _ _ ⟨Cond.after_iff.mpr rfl, Cond.after_iff.mpr (eq_i res_at (Term.int_eval (1)) rfl), trivial⟩ ⟨hq.1, hq.2.1, hq.2.2.1, (hq.2.2.2.sift fun y hy => Or.inr (N y hy)).mono (by decide) (by decide)⟩⟩
theorem main_1_1 : Claimed_1_1 := comes_1 fun _ _ _ _ _ _ h hF => ⟨h.1, hF⟩
theorem main_1_2 : Claimed_1_2 := comes_1 fun _ _ _ _ _ _ h hF => ⟨h.2.1, hF⟩
end Jvm.Pilot.@@N@@
namespace Jvm.Pilot.@@N@@
open Jvm Jvm.ClassFile Sem Op Lib Jvm.Free Jvm.Stand Jvm.Pilot.@@N@@.Jvm.D
/-! MADE BY PROGRAM (witnessworld.py) out of the Statement's table words and the real class files: 25 classes; the members and pool entries that the words name. The judged class is class 1, her method 1. -/
namespace start1
open Jvm.ClassFile
def u (s : String) : CpInfo := .utf8 (stringToUtf16 s)
/-- a pool by its gaps: so many unusable entries, then the entry; so many at the end -/
def gap : Nat → List CpInfo → List CpInfo
  | 0, r => r
  | n + 1, r => .unusable :: gap n r
def poolList (es : List (Nat × CpInfo)) (last : Nat) : List CpInfo := es.foldr (fun e r => gap e.1 (e.2 :: r)) (gap last [])
def pool (es : List (Nat × CpInfo)) (last : Nat) : Array CpInfo := ⟨poolList es last⟩
def fileOf (pool : Array CpInfo) (this : Nat) (attrs : Array Attribute := #[]) (ms : Array MethodInfo := #[]) (fl : Nat := 33) (sup : Nat := 0) (ifs : Array Nat := #[]) (fds : Array FieldInfo := #[]) : ClassFile where
  minorVersion := 0
  majorVersion := 65
  constantPool := pool
  accessFlags := fl
  thisClass := this
  superClass := sup
  interfaces := ifs
  fields := fds
  methods := ms
  attributes := attrs
def plain (name : String) (sup : Option ClassId) : Class where
  name := name
  kind := .ordinary
  loader := none
  accessFlags := 33
  super := sup
  interfaces := #[]
  cf := none
  fields := #[]
  methods := #[]
  instanceTypes := #[]
  staticTypes := #[]
  resolved := #[]
  callSites := []
  init := .initialized
  statics := none
  mirror := none

def pool0 : Array CpInfo := pool [(5, u "<init>"), (0, u "()V"), (1, .class_ 10), (1, u "java/lang/Object")] 113

def k0c0 : Code := { maxStack := 0, maxLocals := 1, code := object_method_1_code, exceptionTable := #[], attributes := #[] }
def k0m0 : Method := { name := "<init>", desc := "()V", sig := { parameters := [], returnType := none }, accessFlags := 1, code := some k0c0 }
/-- java/lang/Object -/
def k0 : Class := { plain "java/lang/Object" none with
  accessFlags := 33
  interfaces := #[]
  cf := some (fileOf pool0 8 #[] #[{ accessFlags := 1, nameIndex := 5, descriptorIndex := 6, attributes := #[] }] 33 0 #[] #[])
  fields := #[]
  methods := #[k0m0]
  instanceTypes := #[]
  staticTypes := #[]
  resolved := Array.replicate 124 none
  statics := none }

def pool1 : Array CpInfo := pool [(2, .class_ 4), (1, u "java/lang/Object"), (0, u "<init>"), (0, u "()V"), (0, .integer 2147483647), (0, .methodref 9 10), (0, .class_ 11), (0, .nameAndType 12 13), (0, u "com/example/svazek/svazek/PackageFolderNameOfPinLaw"), (0, u "draw"), (0, u "(I)C"), (0, .methodref 9 15), (0, .nameAndType 16 17), (0, u "chars"), (0, u "(ICCCC)[C"), (0, .class_ 19), (0, u "java/lang/String"), (0, .methodref 18 21), (0, .nameAndType 5 22), (0, u "([C)V"), (0, .methodref 24 25), (0, .class_ 26), (0, .nameAndType 27 28), (0, u "com/example/svazek/svazek/PackageFolder"), (0, u "nameOf"), (0, u "(Ljava/lang/String;)Ljava/lang/String;"), (0, .methodref 18 30), (0, .nameAndType 31 32), (0, u "length"), (0, u "()I"), (0, .methodref 9 34), (0, .nameAndType 35 36), (0, u "same"), (0, u "(Ljava/lang/String;II[CI)Z"), (0, .methodref 18 38), (0, .nameAndType 39 13), (0, u "charAt"), (2, u "law"), (0, u "(IIIII)Z")] 5

def k1m0 : Method := { name := "<init>", desc := "()V", sig := { parameters := [], returnType := none }, accessFlags := 1, code := none }
def k1c1 : Code := { maxStack := 5, maxLocals := 16, code := code, exceptionTable := #[], attributes := #[] }
def k1m1 : Method := { name := "law", desc := "(IIIII)Z", sig := { parameters := [.int, .int, .int, .int, .int], returnType := some .boolean }, accessFlags := 9, code := some k1c1 }
def k1c2 : Code := { maxStack := 4, maxLocals := 5, code := method_3_code, exceptionTable := #[], attributes := #[] }
def k1m2 : Method := { name := "same", desc := "(Ljava/lang/String;II[CI)Z", sig := { parameters := [(.object "java/lang/String"), .int, .int, (.array .char), .int], returnType := some .boolean }, accessFlags := 10, code := some k1c2 }
def k1c3 : Code := { maxStack := 2, maxLocals := 1, code := method_4_code, exceptionTable := #[], attributes := #[] }
def k1m3 : Method := { name := "draw", desc := "(I)C", sig := { parameters := [.int], returnType := some .char }, accessFlags := 10, code := some k1c3 }
def k1c4 : Code := { maxStack := 4, maxLocals := 5, code := method_5_code, exceptionTable := #[], attributes := #[] }
def k1m4 : Method := { name := "chars", desc := "(ICCCC)[C", sig := { parameters := [.int, .char, .char, .char, .char], returnType := some (.array .char) }, accessFlags := 10, code := some k1c4 }
/-- com/example/svazek/svazek/PackageFolderNameOfPinLaw -/
def k1 : Class := { plain "com/example/svazek/svazek/PackageFolderNameOfPinLaw" (some 0) with
  accessFlags := 49
  interfaces := #[]
  cf := some (fileOf pool1 9 #[] #[{ accessFlags := 1, nameIndex := 5, descriptorIndex := 6, attributes := #[] }, { accessFlags := 9, nameIndex := 42, descriptorIndex := 43, attributes := #[] }, { accessFlags := 10, nameIndex := 35, descriptorIndex := 36, attributes := #[] }, { accessFlags := 10, nameIndex := 12, descriptorIndex := 13, attributes := #[] }, { accessFlags := 10, nameIndex := 16, descriptorIndex := 17, attributes := #[] }] 49 2 #[] #[])
  fields := #[]
  methods := #[k1m0, k1m1, k1m2, k1m3, k1m4]
  instanceTypes := #[]
  staticTypes := #[]
  resolved := Array.replicate 49 none
  statics := none }

def pool2 : Array CpInfo := pool [(1, .class_ 2), (0, u "java/io/Serializable"), (0, .class_ 4), (0, u "java/lang/Object")] 2

/-- java/io/Serializable -/
def k2 : Class := { plain "java/io/Serializable" (some 0) with
  accessFlags := 1537
  interfaces := #[]
  cf := some (fileOf pool2 1 #[] #[] 1537 3 #[] #[])
  fields := #[]
  methods := #[]
  instanceTypes := #[]
  staticTypes := #[]
  resolved := Array.replicate 7 none
  statics := none }

def pool3 : Array CpInfo := pool [(1, .class_ 2), (0, u "java/lang/Comparable"), (0, .class_ 4), (0, u "java/lang/Object")] 7

/-- java/lang/Comparable -/
def k3 : Class := { plain "java/lang/Comparable" (some 0) with
  accessFlags := 1537
  interfaces := #[]
  cf := some (fileOf pool3 1 #[] #[] 1537 3 #[] #[])
  fields := #[]
  methods := #[]
  instanceTypes := #[]
  staticTypes := #[]
  resolved := Array.replicate 12 none
  statics := none }

def pool4 : Array CpInfo := pool [(2, .class_ 4), (1, u "java/lang/CharSequence"), (42, .class_ 48), (0, u "java/lang/CharSequence$1CodePointIterator"), (10, .class_ 60), (0, u "java/lang/CharSequence$1CharIterator"), (5, .class_ 67), (0, u "java/lang/Object")] 63

/-- java/lang/CharSequence -/
def k4 : Class := { plain "java/lang/CharSequence" (some 0) with
  accessFlags := 1537
  interfaces := #[]
  cf := some (fileOf pool4 2 #[.nestMembers #[47, 59]] #[] 1537 66 #[] #[])
  fields := #[]
  methods := #[]
  instanceTypes := #[]
  staticTypes := #[]
  resolved := Array.replicate 131 none
  statics := none }

def pool5 : Array CpInfo := pool [(1, .class_ 2), (0, u "java/lang/constant/Constable"), (0, .class_ 4), (0, u "java/lang/Object")] 6

/-- java/lang/constant/Constable -/
def k5 : Class := { plain "java/lang/constant/Constable" (some 0) with
  accessFlags := 1537
  interfaces := #[]
  cf := some (fileOf pool5 1 #[] #[] 1537 3 #[] #[])
  fields := #[]
  methods := #[]
  instanceTypes := #[]
  staticTypes := #[]
  resolved := Array.replicate 11 none
  statics := none }

def pool6 : Array CpInfo := pool [(1, .class_ 2), (0, u "java/lang/constant/ConstantDesc"), (0, .class_ 4), (0, u "java/lang/Object")] 32

/-- java/lang/constant/ConstantDesc -/
def k6 : Class := { plain "java/lang/constant/ConstantDesc" (some 0) with
  accessFlags := 1537
  interfaces := #[]
  cf := some (fileOf pool6 1 #[] #[] 1537 3 #[] #[])
  fields := #[]
  methods := #[]
  instanceTypes := #[]
  staticTypes := #[]
  resolved := Array.replicate 37 none
  statics := none }

def pool7 : Array CpInfo := pool [(1, .methodref 2 3), (0, .class_ 4), (0, .nameAndType 5 6), (0, u "java/lang/Object"), (0, u "<init>"), (0, u "()V"), (0, .string 8), (0, u ""), (0, .fieldref 10 11), (0, .class_ 12), (0, .nameAndType 13 14), (0, u "java/lang/String"), (0, u "value"), (0, u "[B"), (0, .fieldref 10 16), (0, .nameAndType 17 18), (0, u "coder"), (0, u "B"), (2, u "hash"), (0, u "I"), (2, u "hashIsZero"), (0, u "Z"), (0, .methodref 10 28), (0, .nameAndType 5 29), (0, u "([CIILjava/lang/Void;)V"), (8, .fieldref 10 39), (0, .nameAndType 40 26), (0, u "COMPACT_STRINGS"), (1, .class_ 44), (1, u "java/lang/StringUTF16"), (0, u "compress"), (1, .methodref 42 48), (0, .nameAndType 49 50), (0, u "coderFromArrayLen"), (0, u "([BI)B"), (46, u "([BII)I"), (9, .class_ 109), (1, u "java/lang/StringLatin1"), (32, u "()Z"), (34, .methodref 42 178), (0, .nameAndType 45 179), (0, u "([CII)[B"), (31, u "([BB)V"), (122, u "()I"), (0, .methodref 10 336), (0, .nameAndType 17 337), (0, u "()B"), (25, u "([BI)C"), (27, u "(II)V"), (35, u "(I)C"), (64, .methodref 10 493), (0, .nameAndType 494 142), (0, u "isLatin1"), (0, .methodref 107 496), (0, .nameAndType 497 363), (0, u "charAt"), (3, u "checkIndex"), (3, .methodref 10 506), (0, .nameAndType 507 334), (0, u "length"), (5, u "checkFromToIndex"), (7, .methodref 10 522), (0, .nameAndType 523 524), (0, u "checkBoundsBeginEnd"), (0, u "(III)V"), (50, .class_ 576), (0, u "java/lang/CharSequence"), (22, u "CASE_INSENSITIVE_ORDER"), (0, u "Ljava/util/Comparator;"), (35, u "(II)I"), (4, .methodref 10 642), (0, .nameAndType 643 636), (0, u "lastIndexOf"), (0, .methodref 107 645), (0, .nameAndType 643 97), (35, .methodref 10 682), (0, .nameAndType 683 684), (0, u "substring"), (0, u "(II)Ljava/lang/String;"), (0, .methodref 107 686), (0, .nameAndType 687 688), (0, u "newString"), (0, u "([BII)Ljava/lang/String;"), (76, u "(I)I"), (126, u "(I)Ljava/lang/String;"), (117, u "([C)V"), (42, .fieldref 1054 1055), (0, .class_ 1056), (0, .nameAndType 1057 1058), (0, u "jdk/internal/util/Preconditions"), (0, u "SIOOBE_FORMATTER"), (0, u "Ljava/util/function/BiFunction;"), (0, .methodref 1054 1060), (0, .nameAndType 501 1061), (0, u "(IILjava/util/function/BiFunction;)I"), (0, .methodref 1054 1063), (0, .nameAndType 513 1064), (0, u "(IIILjava/util/function/BiFunction;)I"), (36, u "serialPersistentFields"), (0, u "[Ljava/io/ObjectStreamField;"), (0, .class_ 1104), (0, u "java/lang/String$CaseInsensitiveComparator"), (1, .class_ 1107), (0, u "java/io/Serializable"), (0, .class_ 1109), (0, u "java/lang/Comparable"), (0, .class_ 1111), (0, u "java/lang/constant/Constable"), (0, .class_ 1113), (0, u "java/lang/constant/ConstantDesc"), (2, u "serialVersionUID"), (0, u "J"), (3, u "REPL"), (0, u "C"), (2, u "LATIN1"), (1, u "UTF16")] 323

def k7m0 : Method := { name := "<init>", desc := "()V", sig := { parameters := [], returnType := none }, accessFlags := 1, code := none }
def k7c1 : Code := { maxStack := 5, maxLocals := 2, code := jdk_42_method_3_code, exceptionTable := #[], attributes := #[] }
def k7m1 : Method := { name := "<init>", desc := "([C)V", sig := { parameters := [(.array .char)], returnType := none }, accessFlags := 1, code := some k7c1 }
def k7c2 : Code := { maxStack := 2, maxLocals := 1, code := jdk_42_method_54_code, exceptionTable := #[], attributes := #[] }
def k7m2 : Method := { name := "length", desc := "()I", sig := { parameters := [], returnType := some .int }, accessFlags := 1, code := some k7c2 }
def k7c3 : Code := { maxStack := 2, maxLocals := 2, code := jdk_42_method_56_code, exceptionTable := #[], attributes := #[] }
def k7m3 : Method := { name := "charAt", desc := "(I)C", sig := { parameters := [.int], returnType := some .char }, accessFlags := 1, code := some k7c3 }
def k7c4 : Code := { maxStack := 4, maxLocals := 2, code := jdk_42_method_82_code, exceptionTable := #[], attributes := #[] }
def k7m4 : Method := { name := "lastIndexOf", desc := "(I)I", sig := { parameters := [.int], returnType := some .int }, accessFlags := 1, code := some k7c4 }
def k7c5 : Code := { maxStack := 3, maxLocals := 3, code := jdk_42_method_83_code, exceptionTable := #[], attributes := #[] }
def k7m5 : Method := { name := "lastIndexOf", desc := "(II)I", sig := { parameters := [.int, .int], returnType := some .int }, accessFlags := 1, code := some k7c5 }
def k7c6 : Code := { maxStack := 3, maxLocals := 2, code := jdk_42_method_91_code, exceptionTable := #[], attributes := #[] }
def k7m6 : Method := { name := "substring", desc := "(I)Ljava/lang/String;", sig := { parameters := [.int], returnType := some (.object "java/lang/String") }, accessFlags := 1, code := some k7c6 }
def k7c7 : Code := { maxStack := 3, maxLocals := 5, code := jdk_42_method_92_code, exceptionTable := #[], attributes := #[] }
def k7m7 : Method := { name := "substring", desc := "(II)Ljava/lang/String;", sig := { parameters := [.int, .int], returnType := some (.object "java/lang/String") }, accessFlags := 1, code := some k7c7 }
def k7c8 : Code := { maxStack := 4, maxLocals := 6, code := jdk_42_method_149_code, exceptionTable := #[], attributes := #[] }
def k7m8 : Method := { name := "<init>", desc := "([CIILjava/lang/Void;)V", sig := { parameters := [(.array .char), .int, .int, (.object "java/lang/Void")], returnType := none }, accessFlags := 2, code := some k7c8 }
def k7c9 : Code := { maxStack := 2, maxLocals := 3, code := jdk_42_method_151_code, exceptionTable := #[], attributes := #[] }
def k7m9 : Method := { name := "<init>", desc := "([BB)V", sig := { parameters := [(.array .byte), .byte], returnType := none }, accessFlags := 0, code := some k7c9 }
def k7c10 : Code := { maxStack := 1, maxLocals := 1, code := jdk_42_method_152_code, exceptionTable := #[], attributes := #[] }
def k7m10 : Method := { name := "coder", desc := "()B", sig := { parameters := [], returnType := some .byte }, accessFlags := 0, code := some k7c10 }
def k7c11 : Code := { maxStack := 1, maxLocals := 1, code := jdk_42_method_154_code, exceptionTable := #[], attributes := #[] }
def k7m11 : Method := { name := "isLatin1", desc := "()Z", sig := { parameters := [], returnType := some .boolean }, accessFlags := 0, code := some k7c11 }
def k7c12 : Code := { maxStack := 3, maxLocals := 2, code := jdk_42_method_155_code, exceptionTable := #[], attributes := #[] }
def k7m12 : Method := { name := "checkIndex", desc := "(II)V", sig := { parameters := [.int, .int], returnType := none }, accessFlags := 8, code := some k7c12 }
def k7c13 : Code := { maxStack := 4, maxLocals := 3, code := jdk_42_method_158_code, exceptionTable := #[], attributes := #[] }
def k7m13 : Method := { name := "checkBoundsBeginEnd", desc := "(III)V", sig := { parameters := [.int, .int, .int], returnType := none }, accessFlags := 8, code := some k7c13 }
/-- java/lang/String -/
def k7 : Class := { plain "java/lang/String" (some 0) with
  accessFlags := 49
  interfaces := #[2, 3, 4, 5, 6]
  cf := some (fileOf pool7 10 #[.nestMembers #[1103]] #[{ accessFlags := 1, nameIndex := 5, descriptorIndex := 6, attributes := #[] }, { accessFlags := 1, nameIndex := 5, descriptorIndex := 1010, attributes := #[] }, { accessFlags := 1, nameIndex := 507, descriptorIndex := 334, attributes := #[] }, { accessFlags := 1, nameIndex := 497, descriptorIndex := 427, attributes := #[] }, { accessFlags := 1, nameIndex := 643, descriptorIndex := 765, attributes := #[] }, { accessFlags := 1, nameIndex := 643, descriptorIndex := 636, attributes := #[] }, { accessFlags := 1, nameIndex := 683, descriptorIndex := 892, attributes := #[] }, { accessFlags := 1, nameIndex := 683, descriptorIndex := 684, attributes := #[] }, { accessFlags := 2, nameIndex := 5, descriptorIndex := 29, attributes := #[] }, { accessFlags := 0, nameIndex := 5, descriptorIndex := 211, attributes := #[] }, { accessFlags := 0, nameIndex := 17, descriptorIndex := 337, attributes := #[] }, { accessFlags := 0, nameIndex := 494, descriptorIndex := 142, attributes := #[] }, { accessFlags := 8, nameIndex := 501, descriptorIndex := 391, attributes := #[] }, { accessFlags := 8, nameIndex := 523, descriptorIndex := 524, attributes := #[] }] 49 2 #[1106, 1108, 575, 1110, 1112] #[{ accessFlags := 18, nameIndex := 13, descriptorIndex := 14, attributes := #[] }, { accessFlags := 18, nameIndex := 17, descriptorIndex := 18, attributes := #[] }, { accessFlags := 2, nameIndex := 21, descriptorIndex := 22, attributes := #[] }, { accessFlags := 2, nameIndex := 25, descriptorIndex := 26, attributes := #[] }, { accessFlags := 26, nameIndex := 1116, descriptorIndex := 1117, attributes := #[] }, { accessFlags := 24, nameIndex := 40, descriptorIndex := 26, attributes := #[] }, { accessFlags := 26, nameIndex := 1101, descriptorIndex := 1102, attributes := #[] }, { accessFlags := 26, nameIndex := 1121, descriptorIndex := 1122, attributes := #[] }, { accessFlags := 25, nameIndex := 599, descriptorIndex := 600, attributes := #[] }, { accessFlags := 24, nameIndex := 1125, descriptorIndex := 18, attributes := #[] }, { accessFlags := 24, nameIndex := 1127, descriptorIndex := 18, attributes := #[] }])
  fields := #[{ name := "value", type := (.array .byte), accessFlags := 18, slot := 0, constantValue := 0 }, { name := "coder", type := .byte, accessFlags := 18, slot := 1, constantValue := 0 }, { name := "hash", type := .int, accessFlags := 2, slot := 2, constantValue := 0 }, { name := "hashIsZero", type := .boolean, accessFlags := 2, slot := 3, constantValue := 0 }, { name := "serialVersionUID", type := .long, accessFlags := 26, slot := 0, constantValue := 0 }, { name := "COMPACT_STRINGS", type := .boolean, accessFlags := 24, slot := 1, constantValue := 0 }, { name := "serialPersistentFields", type := (.array (.object "java/io/ObjectStreamField")), accessFlags := 26, slot := 2, constantValue := 0 }, { name := "REPL", type := .char, accessFlags := 26, slot := 3, constantValue := 0 }, { name := "CASE_INSENSITIVE_ORDER", type := (.object "java/util/Comparator"), accessFlags := 25, slot := 4, constantValue := 0 }, { name := "LATIN1", type := .byte, accessFlags := 24, slot := 5, constantValue := 0 }, { name := "UTF16", type := .byte, accessFlags := 24, slot := 6, constantValue := 0 }]
  methods := #[k7m0, k7m1, k7m2, k7m3, k7m4, k7m5, k7m6, k7m7, k7m8, k7m9, k7m10, k7m11, k7m12, k7m13]
  instanceTypes := #[(.array .byte), .byte, .int, .boolean]
  staticTypes := #[.long, .boolean, (.array (.object "java/io/ObjectStreamField")), .char, (.object "java/util/Comparator"), .byte, .byte]
  resolved := Array.replicate 1451 none
  statics := some 0 }

def pool8 : Array CpInfo := pool [(1, .class_ 2), (0, u "java/lang/AutoCloseable"), (0, .class_ 4), (0, u "java/lang/Object")] 7

/-- java/lang/AutoCloseable -/
def k8 : Class := { plain "java/lang/AutoCloseable" (some 0) with
  accessFlags := 1537
  interfaces := #[]
  cf := some (fileOf pool8 1 #[] #[] 1537 3 #[] #[])
  fields := #[]
  methods := #[]
  instanceTypes := #[]
  staticTypes := #[]
  resolved := Array.replicate 12 none
  statics := none }

def pool9 : Array CpInfo := pool [(1, .class_ 2), (0, u "java/io/Closeable"), (0, .class_ 4), (0, u "java/lang/Object"), (0, .class_ 6), (0, u "java/lang/AutoCloseable")] 7

/-- java/io/Closeable -/
def k9 : Class := { plain "java/io/Closeable" (some 0) with
  accessFlags := 1537
  interfaces := #[8]
  cf := some (fileOf pool9 1 #[] #[] 1537 3 #[5] #[])
  fields := #[]
  methods := #[]
  instanceTypes := #[]
  staticTypes := #[]
  resolved := Array.replicate 14 none
  statics := none }

def pool10 : Array CpInfo := pool [(2, .class_ 4), (1, u "java/lang/Object"), (6, .class_ 13), (1, u "com/example/svazek/svazek/PackageFolder"), (0, u "digests"), (0, u "Ljava/util/Map;"), (2, u "name"), (0, u "Ljava/lang/String;"), (8, u "folders"), (0, u "Ljava/util/NavigableSet;"), (6, u "sizes"), (0, u "Ljava/util/NavigableMap;"), (2, u "leftOut"), (2, u "source"), (0, u "Lcom/example/svazek/svazek/PackageFolder$Source;"), (42, .class_ 88), (0, u "com/example/svazek/svazek/PackageFolder$1"), (34, .class_ 125), (1, u "java/lang/String"), (9, u "(I)I"), (22, .methodref 123 159), (0, .nameAndType 160 135), (0, u "lastIndexOf"), (4, u "substring"), (1, .methodref 123 168), (0, .nameAndType 165 169), (0, u "(I)Ljava/lang/String;"), (72, .class_ 244), (1, u "com/example/svazek/svazek/PackageFolder$Source"), (3, u "feed"), (0, u "Lcom/example/svazek/svazek/DigestFeed;"), (18, u "(Ljava/lang/String;)Ljava/lang/String;"), (123, .class_ 393), (0, u "java/io/Closeable"), (0, u "READ_SIZE"), (0, u "I"), (19, u "nameOf"), (21, .class_ 438), (0, u "com/example/svazek/svazek/PackageFolder$LeftOut")] 38

def k10c0 : Code := { maxStack := 3, maxLocals := 1, code := prog_41_method_8_code, exceptionTable := #[], attributes := #[] }
def k10m0 : Method := { name := "nameOf", desc := "(Ljava/lang/String;)Ljava/lang/String;", sig := { parameters := [(.object "java/lang/String")], returnType := some (.object "java/lang/String") }, accessFlags := 8, code := some k10c0 }
/-- com/example/svazek/svazek/PackageFolder -/
def k10 : Class := { plain "com/example/svazek/svazek/PackageFolder" (some 0) with
  accessFlags := 48
  interfaces := #[9]
  cf := some (fileOf pool10 11 #[.nestMembers #[242, 437, 87]] #[{ accessFlags := 8, nameIndex := 415, descriptorIndex := 268, attributes := #[] }] 48 2 #[392] #[{ accessFlags := 24, nameIndex := 394, descriptorIndex := 395, attributes := #[] }, { accessFlags := 18, nameIndex := 18, descriptorIndex := 19, attributes := #[] }, { accessFlags := 18, nameIndex := 28, descriptorIndex := 29, attributes := #[] }, { accessFlags := 18, nameIndex := 36, descriptorIndex := 37, attributes := #[] }, { accessFlags := 18, nameIndex := 40, descriptorIndex := 37, attributes := #[] }, { accessFlags := 18, nameIndex := 43, descriptorIndex := 44, attributes := #[] }, { accessFlags := 18, nameIndex := 14, descriptorIndex := 15, attributes := #[] }, { accessFlags := 2, nameIndex := 248, descriptorIndex := 249, attributes := #[] }])
  fields := #[{ name := "READ_SIZE", type := .int, accessFlags := 24, slot := 0, constantValue := 0 }, { name := "name", type := (.object "java/lang/String"), accessFlags := 18, slot := 0, constantValue := 0 }, { name := "folders", type := (.object "java/util/NavigableSet"), accessFlags := 18, slot := 1, constantValue := 0 }, { name := "sizes", type := (.object "java/util/NavigableMap"), accessFlags := 18, slot := 2, constantValue := 0 }, { name := "leftOut", type := (.object "java/util/NavigableMap"), accessFlags := 18, slot := 3, constantValue := 0 }, { name := "source", type := (.object "com/example/svazek/svazek/PackageFolder$Source"), accessFlags := 18, slot := 4, constantValue := 0 }, { name := "digests", type := (.object "java/util/Map"), accessFlags := 18, slot := 5, constantValue := 0 }, { name := "feed", type := (.object "com/example/svazek/svazek/DigestFeed"), accessFlags := 2, slot := 6, constantValue := 0 }]
  methods := #[k10m0]
  instanceTypes := #[(.object "java/lang/String"), (.object "java/util/NavigableSet"), (.object "java/util/NavigableMap"), (.object "java/util/NavigableMap"), (.object "com/example/svazek/svazek/PackageFolder$Source"), (.object "java/util/Map"), (.object "com/example/svazek/svazek/DigestFeed")]
  staticTypes := #[.int]
  resolved := Array.replicate 477 none
  statics := none }

def pool11 : Array CpInfo := pool [(1, .class_ 2), (0, u "java/lang/String"), (1, .class_ 6), (1, u "java/lang/Object"), (0, u "<init>"), (0, u "()V"), (0, .methodref 1 10), (0, .nameAndType 11 12), (0, u "checkIndex"), (0, u "(II)V"), (1, .class_ 16), (1, u "java/lang/StringLatin1"), (21, .methodref 39 40), (0, .class_ 41), (0, .nameAndType 42 43), (0, u "java/lang/Math"), (0, u "min"), (0, u "(II)I"), (9, u "([BI)C"), (34, .methodref 14 89), (0, .nameAndType 90 91), (0, u "canEncode"), (0, u "(I)Z"), (20, .methodref 1 113), (0, .nameAndType 7 114), (0, u "([BB)V"), (6, u "$assertionsDisabled"), (0, u "Z"), (8, .class_ 133), (1, u "java/util/Arrays"), (17, .string 152), (0, u ""), (43, u "newString"), (0, u "([BII)Ljava/lang/String;"), (23, .class_ 223), (1, u "java/lang/StringLatin1$LinesSpliterator"), (8, .methodref 131 233), (0, .nameAndType 234 235), (0, u "copyOfRange"), (0, u "([BII)[B"), (16, u "charAt"), (8, u "([BII)I"), (47, u "lastIndexOf"), (80, .class_ 391), (0, u "java/lang/StringLatin1$CharsSpliterator")] 3

def k11m0 : Method := { name := "<init>", desc := "()V", sig := { parameters := [], returnType := none }, accessFlags := 0, code := none }
def k11c1 : Code := { maxStack := 2, maxLocals := 2, code := jdk_43_method_2_code, exceptionTable := #[], attributes := #[] }
def k11m1 : Method := { name := "charAt", desc := "([BI)C", sig := { parameters := [(.array .byte), .int], returnType := some .char }, accessFlags := 9, code := some k11c1 }
def k11c2 : Code := { maxStack := 2, maxLocals := 1, code := jdk_43_method_4_code, exceptionTable := #[], attributes := #[] }
def k11m2 : Method := { name := "canEncode", desc := "(I)Z", sig := { parameters := [.int], returnType := some .boolean }, accessFlags := 9, code := some k11c2 }
def k11c3 : Code := { maxStack := 3, maxLocals := 4, code := jdk_43_method_27_code, exceptionTable := #[], attributes := #[] }
def k11m3 : Method := { name := "lastIndexOf", desc := "([BII)I", sig := { parameters := [(.array .byte), .int, .int], returnType := some .int }, accessFlags := 9, code := some k11c3 }
def k11c4 : Code := { maxStack := 6, maxLocals := 3, code := jdk_43_method_47_code, exceptionTable := #[], attributes := #[] }
def k11m4 : Method := { name := "newString", desc := "([BII)Ljava/lang/String;", sig := { parameters := [(.array .byte), .int, .int], returnType := some (.object "java/lang/String") }, accessFlags := 9, code := some k11c4 }
/-- java/lang/StringLatin1 -/
def k11 : Class := { plain "java/lang/StringLatin1" (some 0) with
  accessFlags := 48
  interfaces := #[]
  cf := some (fileOf pool11 14 #[.nestMembers #[390, 221]] #[{ accessFlags := 0, nameIndex := 7, descriptorIndex := 8, attributes := #[] }, { accessFlags := 9, nameIndex := 252, descriptorIndex := 53, attributes := #[] }, { accessFlags := 9, nameIndex := 90, descriptorIndex := 91, attributes := #[] }, { accessFlags := 9, nameIndex := 309, descriptorIndex := 261, attributes := #[] }, { accessFlags := 9, nameIndex := 196, descriptorIndex := 197, attributes := #[] }] 48 4 #[] #[{ accessFlags := 4120, nameIndex := 121, descriptorIndex := 122, attributes := #[] }])
  fields := #[{ name := "$assertionsDisabled", type := .boolean, accessFlags := 4120, slot := 0, constantValue := 0 }]
  methods := #[k11m0, k11m1, k11m2, k11m3, k11m4]
  instanceTypes := #[]
  staticTypes := #[.boolean]
  resolved := Array.replicate 395 none
  statics := none }

def pool12 : Array CpInfo := pool [(1, .class_ 2), (0, u "java/lang/Math"), (1, .class_ 6), (1, u "java/lang/Object"), (0, u "<init>"), (0, u "()V"), (89, .class_ 100), (1, u "java/lang/Math$RandomNumberGeneratorHolder"), (71, u "negativeZeroFloatBits"), (0, u "J"), (2, u "negativeZeroDoubleBits"), (24, u "min"), (43, u "$assertionsDisabled"), (0, u "Z"), (88, u "(II)I"), (2, u "twoToTheDoubleScaleDown"), (0, u "D"), (4, u "twoToTheDoubleScaleUp"), (9, u "E"), (3, u "PI"), (2, u "TAU"), (2, u "DEGREES_TO_RADIANS"), (0, u "RADIANS_TO_DEGREES")] 94

def k12m0 : Method := { name := "<init>", desc := "()V", sig := { parameters := [], returnType := none }, accessFlags := 2, code := none }
def k12c1 : Code := { maxStack := 2, maxLocals := 2, code := jdk_29_method_69_code, exceptionTable := #[], attributes := #[] }
def k12m1 : Method := { name := "min", desc := "(II)I", sig := { parameters := [.int, .int], returnType := some .int }, accessFlags := 9, code := some k12c1 }
/-- java/lang/Math -/
def k12 : Class := { plain "java/lang/Math" (some 0) with
  accessFlags := 49
  interfaces := #[]
  cf := some (fileOf pool12 1 #[.nestMembers #[98]] #[{ accessFlags := 2, nameIndex := 7, descriptorIndex := 8, attributes := #[] }, { accessFlags := 9, nameIndex := 201, descriptorIndex := 335, attributes := #[] }] 49 4 #[] #[{ accessFlags := 25, nameIndex := 354, descriptorIndex := 339, attributes := #[] }, { accessFlags := 25, nameIndex := 358, descriptorIndex := 339, attributes := #[] }, { accessFlags := 25, nameIndex := 361, descriptorIndex := 339, attributes := #[] }, { accessFlags := 26, nameIndex := 364, descriptorIndex := 339, attributes := #[] }, { accessFlags := 26, nameIndex := 365, descriptorIndex := 339, attributes := #[] }, { accessFlags := 26, nameIndex := 172, descriptorIndex := 173, attributes := #[] }, { accessFlags := 26, nameIndex := 176, descriptorIndex := 173, attributes := #[] }, { accessFlags := 8, nameIndex := 344, descriptorIndex := 339, attributes := #[] }, { accessFlags := 8, nameIndex := 338, descriptorIndex := 339, attributes := #[] }, { accessFlags := 4120, nameIndex := 245, descriptorIndex := 246, attributes := #[] }])
  fields := #[{ name := "E", type := .double, accessFlags := 25, slot := 0, constantValue := 0 }, { name := "PI", type := .double, accessFlags := 25, slot := 1, constantValue := 0 }, { name := "TAU", type := .double, accessFlags := 25, slot := 2, constantValue := 0 }, { name := "DEGREES_TO_RADIANS", type := .double, accessFlags := 26, slot := 3, constantValue := 0 }, { name := "RADIANS_TO_DEGREES", type := .double, accessFlags := 26, slot := 4, constantValue := 0 }, { name := "negativeZeroFloatBits", type := .long, accessFlags := 26, slot := 5, constantValue := 0 }, { name := "negativeZeroDoubleBits", type := .long, accessFlags := 26, slot := 6, constantValue := 0 }, { name := "twoToTheDoubleScaleUp", type := .double, accessFlags := 8, slot := 7, constantValue := 0 }, { name := "twoToTheDoubleScaleDown", type := .double, accessFlags := 8, slot := 8, constantValue := 0 }, { name := "$assertionsDisabled", type := .boolean, accessFlags := 4120, slot := 9, constantValue := 0 }]
  methods := #[k12m0, k12m1]
  instanceTypes := #[]
  staticTypes := #[.double, .double, .double, .double, .double, .long, .long, .double, .double, .boolean]
  resolved := Array.replicate 460 none
  statics := none }

def pool13 : Array CpInfo := pool [(2, .class_ 4), (1, u "java/lang/Object"), (0, u "<init>"), (0, u "()V"), (17, .class_ 26), (1, u "jdk/internal/util/Preconditions"), (6, u "checkIndex"), (13, u "checkFromToIndex"), (7, .class_ 56), (0, u "jdk/internal/util/Preconditions$4"), (57, .class_ 115), (0, u "jdk/internal/util/Preconditions$1"), (7, u "SIOOBE_FORMATTER"), (0, u "Ljava/util/function/BiFunction;"), (0, .class_ 126), (0, u "jdk/internal/util/Preconditions$2"), (3, u "AIOOBE_FORMATTER"), (0, .class_ 132), (0, u "jdk/internal/util/Preconditions$3"), (3, u "IOOBE_FORMATTER"), (41, u "(IILjava/util/function/BiFunction;)I"), (4, u "(IIILjava/util/function/BiFunction;)I")] 10

def k13m0 : Method := { name := "<init>", desc := "()V", sig := { parameters := [], returnType := none }, accessFlags := 1, code := none }
def k13c1 : Code := { maxStack := 3, maxLocals := 3, code := jdk_41_method_11_code, exceptionTable := #[], attributes := #[] }
def k13m1 : Method := { name := "checkIndex", desc := "(IILjava/util/function/BiFunction;)I", sig := { parameters := [.int, .int, (.object "java/util/function/BiFunction")], returnType := some .int }, accessFlags := 9, code := some k13c1 }
def k13c2 : Code := { maxStack := 4, maxLocals := 4, code := jdk_41_method_12_code, exceptionTable := #[], attributes := #[] }
def k13m2 : Method := { name := "checkFromToIndex", desc := "(IIILjava/util/function/BiFunction;)I", sig := { parameters := [.int, .int, .int, (.object "java/util/function/BiFunction")], returnType := some .int }, accessFlags := 9, code := some k13c2 }
/-- jdk/internal/util/Preconditions -/
def k13 : Class := { plain "jdk/internal/util/Preconditions" (some 0) with
  accessFlags := 33
  interfaces := #[]
  cf := some (fileOf pool13 24 #[.nestMembers #[55, 131, 125, 114]] #[{ accessFlags := 1, nameIndex := 5, descriptorIndex := 6, attributes := #[] }, { accessFlags := 9, nameIndex := 33, descriptorIndex := 178, attributes := #[] }, { accessFlags := 9, nameIndex := 47, descriptorIndex := 183, attributes := #[] }] 33 2 #[] #[{ accessFlags := 25, nameIndex := 123, descriptorIndex := 124, attributes := #[] }, { accessFlags := 25, nameIndex := 130, descriptorIndex := 124, attributes := #[] }, { accessFlags := 25, nameIndex := 136, descriptorIndex := 124, attributes := #[] }])
  fields := #[{ name := "SIOOBE_FORMATTER", type := (.object "java/util/function/BiFunction"), accessFlags := 25, slot := 0, constantValue := 0 }, { name := "AIOOBE_FORMATTER", type := (.object "java/util/function/BiFunction"), accessFlags := 25, slot := 1, constantValue := 0 }, { name := "IOOBE_FORMATTER", type := (.object "java/util/function/BiFunction"), accessFlags := 25, slot := 2, constantValue := 0 }]
  methods := #[k13m0, k13m1, k13m2]
  instanceTypes := #[]
  staticTypes := #[(.object "java/util/function/BiFunction"), (.object "java/util/function/BiFunction"), (.object "java/util/function/BiFunction")]
  resolved := Array.replicate 194 none
  statics := some 1 }

def pool14 : Array CpInfo := pool [(6, .class_ 8), (1, u "java/lang/Object"), (0, u "<init>"), (0, u "()V"), (1, .class_ 14), (1, u "java/lang/StringUTF16"), (31, u "$assertionsDisabled"), (0, u "Z"), (13, u "HI_BYTE_SHIFT"), (0, u "I"), (2, u "LO_BYTE_SHIFT"), (49, .methodref 12 116), (0, .nameAndType 117 118), (0, u "compress"), (0, u "([CI[BII)I"), (3, u "([CII)[B"), (138, u "coderFromArrayLen"), (0, u "([BI)B"), (106, .class_ 371), (1, u "java/lang/StringUTF16$LinesSpliterator"), (58, u "MAX_LENGTH"), (196, .class_ 628), (0, u "java/lang/StringUTF16$CodePointsSpliterator"), (0, .class_ 630), (0, u "java/lang/StringUTF16$CharsSpliterator")] 4

def k14m0 : Method := { name := "<init>", desc := "()V", sig := { parameters := [], returnType := none }, accessFlags := 0, code := none }
def k14c1 : Code := { maxStack := 2, maxLocals := 2, code := jdk_52_method_15_code, exceptionTable := #[], attributes := #[] }
def k14m1 : Method := { name := "coderFromArrayLen", desc := "([BI)B", sig := { parameters := [(.array .byte), .int], returnType := some .byte }, accessFlags := 8, code := some k14c1 }
def k14c2 : Code := { maxStack := 5, maxLocals := 6, code := jdk_52_method_16_code, exceptionTable := #[], attributes := #[] }
def k14m2 : Method := { name := "compress", desc := "([CII)[B", sig := { parameters := [(.array .char), .int, .int], returnType := some (.array .byte) }, accessFlags := 9, code := some k14c2 }
def k14c3 : Code := { maxStack := 3, maxLocals := 7, code := jdk_52_method_21_code, exceptionTable := #[], attributes := #[] }
def k14m3 : Method := { name := "compress", desc := "([CI[BII)I", sig := { parameters := [(.array .char), .int, (.array .byte), .int, .int], returnType := some .int }, accessFlags := 9, code := some k14c3 }
/-- java/lang/StringUTF16 -/
def k14 : Class := { plain "java/lang/StringUTF16" (some 0) with
  accessFlags := 48
  interfaces := #[]
  cf := some (fileOf pool14 12 #[.nestMembers #[627, 629, 369]] #[{ accessFlags := 0, nameIndex := 9, descriptorIndex := 10, attributes := #[] }, { accessFlags := 8, nameIndex := 261, descriptorIndex := 262, attributes := #[] }, { accessFlags := 9, nameIndex := 117, descriptorIndex := 122, attributes := #[] }, { accessFlags := 9, nameIndex := 117, descriptorIndex := 118, attributes := #[] }] 48 6 #[] #[{ accessFlags := 26, nameIndex := 61, descriptorIndex := 62, attributes := #[] }, { accessFlags := 26, nameIndex := 65, descriptorIndex := 62, attributes := #[] }, { accessFlags := 24, nameIndex := 430, descriptorIndex := 62, attributes := #[] }, { accessFlags := 4120, nameIndex := 46, descriptorIndex := 47, attributes := #[] }])
  fields := #[{ name := "HI_BYTE_SHIFT", type := .int, accessFlags := 26, slot := 0, constantValue := 0 }, { name := "LO_BYTE_SHIFT", type := .int, accessFlags := 26, slot := 1, constantValue := 0 }, { name := "MAX_LENGTH", type := .int, accessFlags := 24, slot := 2, constantValue := 0 }, { name := "$assertionsDisabled", type := .boolean, accessFlags := 4120, slot := 3, constantValue := 0 }]
  methods := #[k14m0, k14m1, k14m2, k14m3]
  instanceTypes := #[]
  staticTypes := #[.int, .int, .int, .boolean]
  resolved := Array.replicate 635 none
  statics := none }

def pool15 : Array CpInfo := pool [(2, .class_ 4), (1, u "java/lang/Object"), (0, u "<init>"), (0, u "()V"), (7, .class_ 16), (1, u "java/util/Arrays"), (57, .class_ 76), (1, u "java/util/Arrays$NaturalOrder"), (36, .class_ 115), (1, u "java/util/Arrays$LegacyMergeSort"), (1, u "Z"), (21, u "copyOfRange"), (10, .methodref 151 152), (0, .class_ 153), (0, .nameAndType 154 155), (0, u "java/lang/System"), (0, u "arraycopy"), (0, u "(Ljava/lang/Object;ILjava/lang/Object;II)V"), (148, .methodref 305 306), (0, .class_ 307), (0, .nameAndType 308 309), (0, u "java/lang/Math"), (0, u "min"), (0, u "(II)I"), (29, .methodref 14 340), (0, .nameAndType 341 342), (0, u "copyOfRangeByte"), (0, u "([BII)[B"), (0, .methodref 14 344), (0, .nameAndType 345 346), (0, u "checkLength"), (0, u "(II)V"), (28, .class_ 376), (0, u "java/util/Arrays$ArrayList"), (68, u "$assertionsDisabled"), (269, u "MIN_ARRAY_SORT_GRAN"), (0, u "I"), (2, u "INSERTIONSORT_THRESHOLD"), (255, .class_ 976), (0, u "java/util/Arrays$ArrayItr")] 52

def k15m0 : Method := { name := "<init>", desc := "()V", sig := { parameters := [], returnType := none }, accessFlags := 2, code := none }
def k15c1 : Code := { maxStack := 4, maxLocals := 2, code := jdk_65_method_131_code, exceptionTable := #[], attributes := #[] }
def k15m1 : Method := { name := "checkLength", desc := "(II)V", sig := { parameters := [.int, .int], returnType := none }, accessFlags := 10, code := some k15c1 }
def k15c2 : Code := { maxStack := 3, maxLocals := 3, code := jdk_65_method_132_code, exceptionTable := #[], attributes := #[] }
def k15m2 : Method := { name := "copyOfRange", desc := "([BII)[B", sig := { parameters := [(.array .byte), .int, .int], returnType := some (.array .byte) }, accessFlags := 9, code := some k15c2 }
def k15c3 : Code := { maxStack := 6, maxLocals := 5, code := jdk_65_method_133_code, exceptionTable := #[], attributes := #[] }
def k15m3 : Method := { name := "copyOfRangeByte", desc := "([BII)[B", sig := { parameters := [(.array .byte), .int, .int], returnType := some (.array .byte) }, accessFlags := 10, code := some k15c3 }
/-- java/util/Arrays -/
def k15 : Class := { plain "java/util/Arrays" (some 0) with
  accessFlags := 49
  interfaces := #[]
  cf := some (fileOf pool15 14 #[.nestMembers #[975, 375, 113, 74]] #[{ accessFlags := 2, nameIndex := 5, descriptorIndex := 6, attributes := #[] }, { accessFlags := 10, nameIndex := 345, descriptorIndex := 346, attributes := #[] }, { accessFlags := 9, nameIndex := 139, descriptorIndex := 342, attributes := #[] }, { accessFlags := 10, nameIndex := 341, descriptorIndex := 342, attributes := #[] }] 49 2 #[] #[{ accessFlags := 26, nameIndex := 715, descriptorIndex := 716, attributes := #[] }, { accessFlags := 26, nameIndex := 719, descriptorIndex := 716, attributes := #[] }, { accessFlags := 4120, nameIndex := 445, descriptorIndex := 117, attributes := #[] }])
  fields := #[{ name := "MIN_ARRAY_SORT_GRAN", type := .int, accessFlags := 26, slot := 0, constantValue := 0 }, { name := "INSERTIONSORT_THRESHOLD", type := .int, accessFlags := 26, slot := 1, constantValue := 0 }, { name := "$assertionsDisabled", type := .boolean, accessFlags := 4120, slot := 2, constantValue := 0 }]
  methods := #[k15m0, k15m1, k15m2, k15m3]
  instanceTypes := #[]
  staticTypes := #[.int, .int, .boolean]
  resolved := Array.replicate 1029 none
  statics := none }

def pool16 : Array CpInfo := pool [(2, .class_ 4), (1, u "java/lang/Object"), (0, u "<init>"), (0, u "()V"), (1, .class_ 10), (1, u "java/lang/System"), (0, u "allowSecurityManager"), (0, u "I"), (16, u "cons"), (0, u "Ljava/io/Console;"), (77, .class_ 110), (1, u "java/lang/System$CallersHolder"), (43, u "initialErrStream"), (0, u "Ljava/io/PrintStream;"), (19, u "security"), (0, u "Ljava/lang/SecurityManager;"), (31, .class_ 209), (0, u "java/lang/System$1"), (7, u "props"), (0, u "Ljava/util/Properties;"), (2, u "lineSeparator"), (0, u "Ljava/lang/String;"), (96, .class_ 321), (1, u "java/lang/System$LoggerFinder"), (5, .class_ 328), (0, u "java/lang/System$Logger"), (67, u "err"), (2, u "out"), (91, u "notSupportedJnuEncoding"), (15, u "in"), (17, u "initialIn"), (0, u "Ljava/io/InputStream;"), (35, u "bootLayer"), (0, u "Ljava/lang/ModuleLayer;"), (99, .class_ 664), (0, u "java/lang/System$2"), (9, u "NEVER"), (2, u "MAYBE"), (49, u "arraycopy"), (0, u "(Ljava/lang/Object;ILjava/lang/Object;II)V"), (72, .class_ 802), (0, u "java/lang/System$Logger$Level")] 31

def k16m0 : Method := { name := "<init>", desc := "()V", sig := { parameters := [], returnType := none }, accessFlags := 2, code := none }
def k16m1 : Method := { name := "arraycopy", desc := "(Ljava/lang/Object;ILjava/lang/Object;II)V", sig := { parameters := [(.object "java/lang/Object"), .int, (.object "java/lang/Object"), .int, .int], returnType := none }, accessFlags := 265, code := none }
/-- java/lang/System -/
def k16 : Class := { plain "java/lang/System" (some 0) with
  accessFlags := 49
  interfaces := #[]
  cf := some (fileOf pool16 8 #[.nestMembers #[319, 327, 801, 108, 663, 208]] #[{ accessFlags := 2, nameIndex := 5, descriptorIndex := 6, attributes := #[] }, { accessFlags := 265, nameIndex := 727, descriptorIndex := 728, attributes := #[] }] 49 2 #[] #[{ accessFlags := 25, nameIndex := 507, descriptorIndex := 526, attributes := #[] }, { accessFlags := 25, nameIndex := 399, descriptorIndex := 155, attributes := #[] }, { accessFlags := 25, nameIndex := 396, descriptorIndex := 155, attributes := #[] }, { accessFlags := 10, nameIndex := 525, descriptorIndex := 526, attributes := #[] }, { accessFlags := 26, nameIndex := 674, descriptorIndex := 12, attributes := #[] }, { accessFlags := 26, nameIndex := 677, descriptorIndex := 12, attributes := #[] }, { accessFlags := 10, nameIndex := 11, descriptorIndex := 12, attributes := #[] }, { accessFlags := 74, nameIndex := 175, descriptorIndex := 176, attributes := #[] }, { accessFlags := 10, nameIndex := 491, descriptorIndex := 222, attributes := #[] }, { accessFlags := 74, nameIndex := 29, descriptorIndex := 30, attributes := #[] }, { accessFlags := 74, nameIndex := 154, descriptorIndex := 155, attributes := #[] }, { accessFlags := 10, nameIndex := 217, descriptorIndex := 218, attributes := #[] }, { accessFlags := 10, nameIndex := 221, descriptorIndex := 222, attributes := #[] }, { accessFlags := 8, nameIndex := 562, descriptorIndex := 563, attributes := #[] }])
  fields := #[{ name := "in", type := (.object "java/io/InputStream"), accessFlags := 25, slot := 0, constantValue := 0 }, { name := "out", type := (.object "java/io/PrintStream"), accessFlags := 25, slot := 1, constantValue := 0 }, { name := "err", type := (.object "java/io/PrintStream"), accessFlags := 25, slot := 2, constantValue := 0 }, { name := "initialIn", type := (.object "java/io/InputStream"), accessFlags := 10, slot := 3, constantValue := 0 }, { name := "NEVER", type := .int, accessFlags := 26, slot := 4, constantValue := 0 }, { name := "MAYBE", type := .int, accessFlags := 26, slot := 5, constantValue := 0 }, { name := "allowSecurityManager", type := .int, accessFlags := 10, slot := 6, constantValue := 0 }, { name := "security", type := (.object "java/lang/SecurityManager"), accessFlags := 74, slot := 7, constantValue := 0 }, { name := "notSupportedJnuEncoding", type := (.object "java/lang/String"), accessFlags := 10, slot := 8, constantValue := 0 }, { name := "cons", type := (.object "java/io/Console"), accessFlags := 74, slot := 9, constantValue := 0 }, { name := "initialErrStream", type := (.object "java/io/PrintStream"), accessFlags := 74, slot := 10, constantValue := 0 }, { name := "props", type := (.object "java/util/Properties"), accessFlags := 10, slot := 11, constantValue := 0 }, { name := "lineSeparator", type := (.object "java/lang/String"), accessFlags := 10, slot := 12, constantValue := 0 }, { name := "bootLayer", type := (.object "java/lang/ModuleLayer"), accessFlags := 8, slot := 13, constantValue := 0 }]
  methods := #[k16m0, k16m1]
  instanceTypes := #[]
  staticTypes := #[(.object "java/io/InputStream"), (.object "java/io/PrintStream"), (.object "java/io/PrintStream"), (.object "java/io/InputStream"), .int, .int, .int, (.object "java/lang/SecurityManager"), (.object "java/lang/String"), (.object "java/io/Console"), (.object "java/io/PrintStream"), (.object "java/util/Properties"), (.object "java/lang/String"), (.object "java/lang/ModuleLayer")]
  resolved := Array.replicate 834 none
  statics := none }

def pool17 : Array CpInfo := pool [(9, u "<init>"), (6, .class_ 18), (1, u "java/lang/Object"), (0, u "()V"), (1, .class_ 23), (1, u "jdk/internal/util/ArraysSupport"), (0, u "LOG2_ARRAY_LONG_INDEX_SCALE"), (0, u "I"), (2, u "U"), (0, u "Ljdk/internal/misc/Unsafe;"), (8, u "BIG_ENDIAN"), (0, u "Z"), (8, u "LOG2_BYTE_BIT_SIZE"), (4, u "LOG2_ARRAY_INT_INDEX_SCALE"), (54, u "JLA"), (0, u "Ljdk/internal/access/JavaLangAccess;"), (11, u "LOG2_ARRAY_BOOLEAN_INDEX_SCALE"), (9, u "LOG2_ARRAY_BYTE_INDEX_SCALE"), (5, u "LOG2_ARRAY_CHAR_INDEX_SCALE"), (5, u "LOG2_ARRAY_SHORT_INDEX_SCALE"), (18, u "LOG2_ARRAY_FLOAT_INDEX_SCALE"), (24, u "LOG2_ARRAY_DOUBLE_INDEX_SCALE"), (89, u "T_BOOLEAN"), (2, u "T_CHAR"), (1, u "T_FLOAT"), (1, u "T_DOUBLE"), (1, u "T_BYTE"), (1, u "T_SHORT"), (1, u "T_INT"), (1, u "T_LONG"), (1, u "SOFT_MAX_ARRAY_LENGTH")] 83

def k17m0 : Method := { name := "<init>", desc := "()V", sig := { parameters := [], returnType := none }, accessFlags := 2, code := none }
/-- jdk/internal/util/ArraysSupport -/
def k17 : Class := { plain "jdk/internal/util/ArraysSupport" (some 0) with
  accessFlags := 33
  interfaces := #[]
  cf := some (fileOf pool17 21 #[] #[{ accessFlags := 2, nameIndex := 9, descriptorIndex := 19, attributes := #[] }] 33 16 #[] #[{ accessFlags := 24, nameIndex := 28, descriptorIndex := 29, attributes := #[] }, { accessFlags := 26, nameIndex := 38, descriptorIndex := 39, attributes := #[] }, { accessFlags := 25, nameIndex := 121, descriptorIndex := 25, attributes := #[] }, { accessFlags := 25, nameIndex := 131, descriptorIndex := 25, attributes := #[] }, { accessFlags := 25, nameIndex := 137, descriptorIndex := 25, attributes := #[] }, { accessFlags := 25, nameIndex := 143, descriptorIndex := 25, attributes := #[] }, { accessFlags := 25, nameIndex := 53, descriptorIndex := 25, attributes := #[] }, { accessFlags := 25, nameIndex := 24, descriptorIndex := 25, attributes := #[] }, { accessFlags := 25, nameIndex := 162, descriptorIndex := 25, attributes := #[] }, { accessFlags := 25, nameIndex := 187, descriptorIndex := 25, attributes := #[] }, { accessFlags := 26, nameIndex := 48, descriptorIndex := 25, attributes := #[] }, { accessFlags := 25, nameIndex := 277, descriptorIndex := 25, attributes := #[] }, { accessFlags := 25, nameIndex := 280, descriptorIndex := 25, attributes := #[] }, { accessFlags := 25, nameIndex := 282, descriptorIndex := 25, attributes := #[] }, { accessFlags := 25, nameIndex := 284, descriptorIndex := 25, attributes := #[] }, { accessFlags := 25, nameIndex := 286, descriptorIndex := 25, attributes := #[] }, { accessFlags := 25, nameIndex := 288, descriptorIndex := 25, attributes := #[] }, { accessFlags := 25, nameIndex := 290, descriptorIndex := 25, attributes := #[] }, { accessFlags := 25, nameIndex := 292, descriptorIndex := 25, attributes := #[] }, { accessFlags := 26, nameIndex := 108, descriptorIndex := 109, attributes := #[] }, { accessFlags := 25, nameIndex := 294, descriptorIndex := 25, attributes := #[] }])
  fields := #[{ name := "U", type := (.object "jdk/internal/misc/Unsafe"), accessFlags := 24, slot := 0, constantValue := 0 }, { name := "BIG_ENDIAN", type := .boolean, accessFlags := 26, slot := 1, constantValue := 0 }, { name := "LOG2_ARRAY_BOOLEAN_INDEX_SCALE", type := .int, accessFlags := 25, slot := 2, constantValue := 0 }, { name := "LOG2_ARRAY_BYTE_INDEX_SCALE", type := .int, accessFlags := 25, slot := 3, constantValue := 0 }, { name := "LOG2_ARRAY_CHAR_INDEX_SCALE", type := .int, accessFlags := 25, slot := 4, constantValue := 0 }, { name := "LOG2_ARRAY_SHORT_INDEX_SCALE", type := .int, accessFlags := 25, slot := 5, constantValue := 0 }, { name := "LOG2_ARRAY_INT_INDEX_SCALE", type := .int, accessFlags := 25, slot := 6, constantValue := 0 }, { name := "LOG2_ARRAY_LONG_INDEX_SCALE", type := .int, accessFlags := 25, slot := 7, constantValue := 0 }, { name := "LOG2_ARRAY_FLOAT_INDEX_SCALE", type := .int, accessFlags := 25, slot := 8, constantValue := 0 }, { name := "LOG2_ARRAY_DOUBLE_INDEX_SCALE", type := .int, accessFlags := 25, slot := 9, constantValue := 0 }, { name := "LOG2_BYTE_BIT_SIZE", type := .int, accessFlags := 26, slot := 10, constantValue := 0 }, { name := "T_BOOLEAN", type := .int, accessFlags := 25, slot := 11, constantValue := 0 }, { name := "T_CHAR", type := .int, accessFlags := 25, slot := 12, constantValue := 0 }, { name := "T_FLOAT", type := .int, accessFlags := 25, slot := 13, constantValue := 0 }, { name := "T_DOUBLE", type := .int, accessFlags := 25, slot := 14, constantValue := 0 }, { name := "T_BYTE", type := .int, accessFlags := 25, slot := 15, constantValue := 0 }, { name := "T_SHORT", type := .int, accessFlags := 25, slot := 16, constantValue := 0 }, { name := "T_INT", type := .int, accessFlags := 25, slot := 17, constantValue := 0 }, { name := "T_LONG", type := .int, accessFlags := 25, slot := 18, constantValue := 0 }, { name := "JLA", type := (.object "jdk/internal/access/JavaLangAccess"), accessFlags := 26, slot := 19, constantValue := 0 }, { name := "SOFT_MAX_ARRAY_LENGTH", type := .int, accessFlags := 25, slot := 20, constantValue := 0 }]
  methods := #[k17m0]
  instanceTypes := #[]
  staticTypes := #[(.object "jdk/internal/misc/Unsafe"), .boolean, .int, .int, .int, .int, .int, .int, .int, .int, .int, .int, .int, .int, .int, .int, .int, .int, .int, (.object "jdk/internal/access/JavaLangAccess"), .int]
  resolved := Array.replicate 378 none
  statics := none }

def pool18 : Array CpInfo := pool [(1, u "java/lang/Cloneable"), (0, .class_ 1), (0, u "java/lang/Object"), (0, .class_ 3)] 3

/-- java/lang/Cloneable -/
def k18 : Class := { plain "java/lang/Cloneable" (some 0) with
  accessFlags := 1537
  interfaces := #[]
  cf := some (fileOf pool18 2 #[] #[] 1537 4 #[] #[])
  fields := #[]
  methods := #[]
  instanceTypes := #[]
  staticTypes := #[]
  resolved := Array.replicate 8 none
  statics := none }

/-- the primitive byte -/
def k19 : Class := { plain "byte" none with kind := .primitive 'B', accessFlags := 0x411 }
/-- [B -/
def k20 : Class := { plain "[B" (some 0) with kind := .array 19 .byte, interfaces := #[18, 2], accessFlags := 1041 }

/-- the primitive char -/
def k21 : Class := { plain "char" none with kind := .primitive 'C', accessFlags := 0x411 }
/-- [C -/
def k22 : Class := { plain "[C" (some 0) with kind := .array 21 .char, interfaces := #[18, 2], accessFlags := 1041 }

/-- the primitive int -/
def k23 : Class := { plain "int" none with kind := .primitive 'I', accessFlags := 0x411 }
/-- [I -/
def k24 : Class := { plain "[I" (some 0) with kind := .array 23 .int, interfaces := #[18, 2], accessFlags := 1041 }

def heap : Heap := #[{ cls := 7, slots := #[.long 0, .int 1, .null, .int 0, .null, .int 0, .int 0], vm := .statics 7 },
  { cls := 13, slots := #[.null, .null, .null], vm := .statics 13 }]
def classes : Array Class := #[k0, k1, k2, k3, k4, k5, k6, k7, k8, k9, k10, k11, k12, k13, k14, k15, k16, k17, k18, k19, k20, k21, k22, k23, k24]
def interned : List (Array UInt16 × Addr) := []
def slotsUsed : Nat := 10
def theMethod : MethodId := ⟨1, 1⟩
def args0 : Array Value := #[.int 5, .int 6, .int 7, .int 8, .int 9]
def aboutOver (below : List Frame) : State where
  vm := { classes := classes, interned := interned.toArray }
  heap := heap
  slotsUsed := slotsUsed
  threads := #[{ frames := .invoking theMethod args0 :: below }]
def below0 : List Frame := [.native { method := ⟨0, 0⟩, args := #[] }]
def about1 : State := aboutOver below0
def p0 : Program := .bare "" "" ""
def e0 : Env := launch0.env 0 0 0
theorem w_frames : about1.frames = Frame.invoking theMethod args0 :: below0 := rfl
set_option maxRecDepth 65536 in
theorem w_args : argsFit about1.vm theMethod args0 = true := by decide +kernel
set_option maxRecDepth 65536 in
theorem w_heap : heapFits about1 = true := by decide +kernel
set_option maxRecDepth 65536 in
theorem w_runnable : about1.curStatus? = some .runnable := by decide +kernel
set_option maxRecDepth 65536 in
theorem w_alone : about1.alone = true := by decide +kernel
set_option maxRecDepth 65536 in
theorem w_named : about1.methodNamed? x = some theMethod := by decide +kernel
set_option maxRecDepth 65536 in
theorem w_hears : about1.hears theMethod below0 = true := by decide +kernel
set_option maxRecDepth 65536 in
theorem w_ripe : about1.ripe theMethod args0 below0 = true := by decide +kernel
theorem w_running : about1.status = .running := rfl
set_option maxRecDepth 65536 in
theorem w_room : about1.hasRoom e0.platform room_1 = true :=
  launch0.hasRoom_least _ room_1 (by decide +kernel) (by decide +kernel) (by decide +kernel) (by decide +kernel) (by decide +kernel) (by decide +kernel)
theorem allAtoms_all (ts : List Jvm.Cond) (a : Array Jvm.Value) (st : Jvm.State) : (allAtoms ts).before a st = ts.all (fun c => c.before a st) := by
  induction ts with
  | nil => rfl
  | cons c t ih =>
    show (Jvm.Cond.and c (allAtoms t)).before a st = _
    rw [Jvm.Cond.before_and, ih, List.all_cons]
def words1 : List Jvm.Cond := Jvm.Cond.code x code maxLocals ret :: tables_1
/-- a 'code' word, met by the world's own term for the bytes: nothing is compared byte by byte -/
theorem code_word {y : MethodName} {bytes : ByteArray} {mx : Nat} {rt : Option FieldType} {a : Array Value} {s : State} {m : MethodId} {meth : Method} {c : Code} (h1 : s.methodNamed? y = some m) (h2 : s.vm.method? m = some meth) (h3 : meth.code = some c) (h4 : c.code = bytes)
    (h5 : (c.maxLocals == mx && c.exceptionTable.isEmpty && decide (c.maxStack ≤ mostOperands) && decide (meth.sig.returnType = rt) && !meth.locks && decide (parseMethodDescriptor y.desc = some meth.sig)) = true) : (Jvm.Cond.code y bytes mx rt).before a s = true := by
  simp only [Bool.and_eq_true, beq_iff_eq, Bool.not_eq_true', decide_eq_true_eq] at h5
  obtain ⟨⟨⟨⟨⟨g1, g2⟩, g3⟩, g4⟩, g5⟩, g6⟩ := h5
  simp [Cond.before, Cond.holds, Cond.value, h1, h2, h3, h4, g1, g2, g3, g4, g5, g6]
def isCode : Jvm.Cond → Bool
  | .code _ _ _ _ => true
  | _ => false
theorem all_split {L : List Jvm.Cond} {P : Jvm.Cond → Bool} (h1 : L.all (fun c => isCode c || P c) = true) (h2 : ∀ c ∈ L.filter isCode, P c = true) : L.all P = true := by
  refine List.all_eq_true.mpr fun c hc => ?_
  have h := List.all_eq_true.mp h1 c hc
  rcases Bool.eq_false_or_eq_true (isCode c) with hi | hi
  · exact h2 c (List.mem_filter.mpr ⟨hc, hi⟩)
  · simpa [hi] using h
set_option maxRecDepth 65536 in
theorem w_c0 : (Jvm.Cond.code x code maxLocals ret).before args0 about1 = true := code_word (m := ⟨1, 1⟩) (meth := k1m1) (c := k1c1) (by decide +kernel) rfl rfl rfl (by decide +kernel)
set_option maxRecDepth 65536 in
theorem w_c1 : (Jvm.Cond.code ({ cls := "com/example/svazek/svazek/PackageFolderNameOfPinLaw", name := "draw", desc := "(I)C" } : Jvm.MethodName) method_4_code (1 : Nat) (Option.some Jvm.ClassFile.FieldType.char)).before args0 about1 = true := code_word (m := ⟨1, 3⟩) (meth := k1m3) (c := k1c3) (by decide +kernel) rfl rfl rfl (by decide +kernel)
set_option maxRecDepth 65536 in
theorem w_c2 : (Jvm.Cond.code ({ cls := "com/example/svazek/svazek/PackageFolderNameOfPinLaw", name := "chars", desc := "(ICCCC)[C" } : Jvm.MethodName) method_5_code (5 : Nat) (Option.some (Jvm.ClassFile.FieldType.array Jvm.ClassFile.FieldType.char))).before args0 about1 = true := code_word (m := ⟨1, 4⟩) (meth := k1m4) (c := k1c4) (by decide +kernel) rfl rfl rfl (by decide +kernel)
set_option maxRecDepth 65536 in
theorem w_c3 : (Jvm.Cond.code ({ cls := "java/lang/String", name := "<init>", desc := "([C)V" } : Jvm.MethodName) jdk_42_method_3_code (2 : Nat) (Option.none : Option Jvm.ClassFile.FieldType)).before args0 about1 = true := code_word (m := ⟨7, 1⟩) (meth := k7m1) (c := k7c1) (by decide +kernel) rfl rfl rfl (by decide +kernel)
set_option maxRecDepth 65536 in
theorem w_c4 : (Jvm.Cond.code ({ cls := "java/lang/String", name := "<init>", desc := "([CIILjava/lang/Void;)V" } : Jvm.MethodName) jdk_42_method_149_code (6 : Nat) (Option.none : Option Jvm.ClassFile.FieldType)).before args0 about1 = true := code_word (m := ⟨7, 8⟩) (meth := k7m8) (c := k7c8) (by decide +kernel) rfl rfl rfl (by decide +kernel)
set_option maxRecDepth 65536 in
theorem w_c5 : (Jvm.Cond.code ({ cls := "java/lang/Object", name := "<init>", desc := "()V" } : Jvm.MethodName) object_method_1_code (1 : Nat) (Option.none : Option Jvm.ClassFile.FieldType)).before args0 about1 = true := code_word (m := ⟨0, 0⟩) (meth := k0m0) (c := k0c0) (by decide +kernel) rfl rfl rfl (by decide +kernel)
set_option maxRecDepth 65536 in
theorem w_c6 : (Jvm.Cond.code ({ cls := "com/example/svazek/svazek/PackageFolder", name := "nameOf", desc := "(Ljava/lang/String;)Ljava/lang/String;" } : Jvm.MethodName) prog_41_method_8_code (1 : Nat) (Option.some (Jvm.ClassFile.FieldType.object "java/lang/String"))).before args0 about1 = true := code_word (m := ⟨10, 0⟩) (meth := k10m0) (c := k10c0) (by decide +kernel) rfl rfl rfl (by decide +kernel)
set_option maxRecDepth 65536 in
theorem w_c7 : (Jvm.Cond.code ({ cls := "java/lang/String", name := "lastIndexOf", desc := "(I)I" } : Jvm.MethodName) jdk_42_method_82_code (2 : Nat) (Option.some Jvm.ClassFile.FieldType.int)).before args0 about1 = true := code_word (m := ⟨7, 4⟩) (meth := k7m4) (c := k7c4) (by decide +kernel) rfl rfl rfl (by decide +kernel)
set_option maxRecDepth 65536 in
theorem w_c8 : (Jvm.Cond.code ({ cls := "java/lang/String", name := "length", desc := "()I" } : Jvm.MethodName) jdk_42_method_54_code (1 : Nat) (Option.some Jvm.ClassFile.FieldType.int)).before args0 about1 = true := code_word (m := ⟨7, 2⟩) (meth := k7m2) (c := k7c2) (by decide +kernel) rfl rfl rfl (by decide +kernel)
set_option maxRecDepth 65536 in
theorem w_c9 : (Jvm.Cond.code ({ cls := "java/lang/String", name := "coder", desc := "()B" } : Jvm.MethodName) jdk_42_method_152_code (1 : Nat) (Option.some Jvm.ClassFile.FieldType.byte)).before args0 about1 = true := code_word (m := ⟨7, 10⟩) (meth := k7m10) (c := k7c10) (by decide +kernel) rfl rfl rfl (by decide +kernel)
set_option maxRecDepth 65536 in
theorem w_c10 : (Jvm.Cond.code ({ cls := "java/lang/String", name := "lastIndexOf", desc := "(II)I" } : Jvm.MethodName) jdk_42_method_83_code (3 : Nat) (Option.some Jvm.ClassFile.FieldType.int)).before args0 about1 = true := code_word (m := ⟨7, 5⟩) (meth := k7m5) (c := k7c5) (by decide +kernel) rfl rfl rfl (by decide +kernel)
set_option maxRecDepth 65536 in
theorem w_c11 : (Jvm.Cond.code ({ cls := "java/lang/String", name := "isLatin1", desc := "()Z" } : Jvm.MethodName) jdk_42_method_154_code (1 : Nat) (Option.some Jvm.ClassFile.FieldType.boolean)).before args0 about1 = true := code_word (m := ⟨7, 11⟩) (meth := k7m11) (c := k7c11) (by decide +kernel) rfl rfl rfl (by decide +kernel)
set_option maxRecDepth 65536 in
theorem w_c12 : (Jvm.Cond.code ({ cls := "java/lang/StringLatin1", name := "lastIndexOf", desc := "([BII)I" } : Jvm.MethodName) jdk_43_method_27_code (4 : Nat) (Option.some Jvm.ClassFile.FieldType.int)).before args0 about1 = true := code_word (m := ⟨11, 3⟩) (meth := k11m3) (c := k11c3) (by decide +kernel) rfl rfl rfl (by decide +kernel)
set_option maxRecDepth 65536 in
theorem w_c13 : (Jvm.Cond.code ({ cls := "java/lang/StringLatin1", name := "canEncode", desc := "(I)Z" } : Jvm.MethodName) jdk_43_method_4_code (1 : Nat) (Option.some Jvm.ClassFile.FieldType.boolean)).before args0 about1 = true := code_word (m := ⟨11, 2⟩) (meth := k11m2) (c := k11c2) (by decide +kernel) rfl rfl rfl (by decide +kernel)
set_option maxRecDepth 65536 in
theorem w_c14 : (Jvm.Cond.code ({ cls := "java/lang/Math", name := "min", desc := "(II)I" } : Jvm.MethodName) jdk_29_method_69_code (2 : Nat) (Option.some Jvm.ClassFile.FieldType.int)).before args0 about1 = true := code_word (m := ⟨12, 1⟩) (meth := k12m1) (c := k12c1) (by decide +kernel) rfl rfl rfl (by decide +kernel)
set_option maxRecDepth 65536 in
theorem w_c15 : (Jvm.Cond.code ({ cls := "java/lang/String", name := "substring", desc := "(I)Ljava/lang/String;" } : Jvm.MethodName) jdk_42_method_91_code (2 : Nat) (Option.some (Jvm.ClassFile.FieldType.object "java/lang/String"))).before args0 about1 = true := code_word (m := ⟨7, 6⟩) (meth := k7m6) (c := k7c6) (by decide +kernel) rfl rfl rfl (by decide +kernel)
set_option maxRecDepth 65536 in
theorem w_c16 : (Jvm.Cond.code ({ cls := "java/lang/String", name := "substring", desc := "(II)Ljava/lang/String;" } : Jvm.MethodName) jdk_42_method_92_code (5 : Nat) (Option.some (Jvm.ClassFile.FieldType.object "java/lang/String"))).before args0 about1 = true := code_word (m := ⟨7, 7⟩) (meth := k7m7) (c := k7c7) (by decide +kernel) rfl rfl rfl (by decide +kernel)
set_option maxRecDepth 65536 in
theorem w_c17 : (Jvm.Cond.code ({ cls := "java/lang/String", name := "checkBoundsBeginEnd", desc := "(III)V" } : Jvm.MethodName) jdk_42_method_158_code (3 : Nat) (Option.none : Option Jvm.ClassFile.FieldType)).before args0 about1 = true := code_word (m := ⟨7, 13⟩) (meth := k7m13) (c := k7c13) (by decide +kernel) rfl rfl rfl (by decide +kernel)
set_option maxRecDepth 65536 in
theorem w_c18 : (Jvm.Cond.code ({ cls := "jdk/internal/util/Preconditions", name := "checkFromToIndex", desc := "(IIILjava/util/function/BiFunction;)I" } : Jvm.MethodName) jdk_41_method_12_code (4 : Nat) (Option.some Jvm.ClassFile.FieldType.int)).before args0 about1 = true := code_word (m := ⟨13, 2⟩) (meth := k13m2) (c := k13c2) (by decide +kernel) rfl rfl rfl (by decide +kernel)
set_option maxRecDepth 65536 in
theorem w_c19 : (Jvm.Cond.code ({ cls := "com/example/svazek/svazek/PackageFolderNameOfPinLaw", name := "same", desc := "(Ljava/lang/String;II[CI)Z" } : Jvm.MethodName) method_3_code (5 : Nat) (Option.some Jvm.ClassFile.FieldType.boolean)).before args0 about1 = true := code_word (m := ⟨1, 2⟩) (meth := k1m2) (c := k1c2) (by decide +kernel) rfl rfl rfl (by decide +kernel)
set_option maxRecDepth 65536 in
theorem w_c20 : (Jvm.Cond.code ({ cls := "java/lang/StringUTF16", name := "compress", desc := "([CII)[B" } : Jvm.MethodName) jdk_52_method_16_code (6 : Nat) (Option.some (Jvm.ClassFile.FieldType.array Jvm.ClassFile.FieldType.byte))).before args0 about1 = true := code_word (m := ⟨14, 2⟩) (meth := k14m2) (c := k14c2) (by decide +kernel) rfl rfl rfl (by decide +kernel)
set_option maxRecDepth 65536 in
theorem w_c21 : (Jvm.Cond.code ({ cls := "java/lang/StringUTF16", name := "compress", desc := "([CI[BII)I" } : Jvm.MethodName) jdk_52_method_21_code (7 : Nat) (Option.some Jvm.ClassFile.FieldType.int)).before args0 about1 = true := code_word (m := ⟨14, 3⟩) (meth := k14m3) (c := k14c3) (by decide +kernel) rfl rfl rfl (by decide +kernel)
set_option maxRecDepth 65536 in
theorem w_c22 : (Jvm.Cond.code ({ cls := "java/lang/StringUTF16", name := "coderFromArrayLen", desc := "([BI)B" } : Jvm.MethodName) jdk_52_method_15_code (2 : Nat) (Option.some Jvm.ClassFile.FieldType.byte)).before args0 about1 = true := code_word (m := ⟨14, 1⟩) (meth := k14m1) (c := k14c1) (by decide +kernel) rfl rfl rfl (by decide +kernel)
set_option maxRecDepth 65536 in
theorem w_c23 : (Jvm.Cond.code ({ cls := "java/lang/StringLatin1", name := "newString", desc := "([BII)Ljava/lang/String;" } : Jvm.MethodName) jdk_43_method_47_code (3 : Nat) (Option.some (Jvm.ClassFile.FieldType.object "java/lang/String"))).before args0 about1 = true := code_word (m := ⟨11, 4⟩) (meth := k11m4) (c := k11c4) (by decide +kernel) rfl rfl rfl (by decide +kernel)
set_option maxRecDepth 65536 in
theorem w_c24 : (Jvm.Cond.code ({ cls := "java/lang/String", name := "charAt", desc := "(I)C" } : Jvm.MethodName) jdk_42_method_56_code (2 : Nat) (Option.some Jvm.ClassFile.FieldType.char)).before args0 about1 = true := code_word (m := ⟨7, 3⟩) (meth := k7m3) (c := k7c3) (by decide +kernel) rfl rfl rfl (by decide +kernel)
set_option maxRecDepth 65536 in
theorem w_c25 : (Jvm.Cond.code ({ cls := "java/lang/StringLatin1", name := "charAt", desc := "([BI)C" } : Jvm.MethodName) jdk_43_method_2_code (2 : Nat) (Option.some Jvm.ClassFile.FieldType.char)).before args0 about1 = true := code_word (m := ⟨11, 1⟩) (meth := k11m1) (c := k11c1) (by decide +kernel) rfl rfl rfl (by decide +kernel)
set_option maxRecDepth 65536 in
theorem w_c26 : (Jvm.Cond.code ({ cls := "java/lang/String", name := "checkIndex", desc := "(II)V" } : Jvm.MethodName) jdk_42_method_155_code (2 : Nat) (Option.none : Option Jvm.ClassFile.FieldType)).before args0 about1 = true := code_word (m := ⟨7, 12⟩) (meth := k7m12) (c := k7c12) (by decide +kernel) rfl rfl rfl (by decide +kernel)
set_option maxRecDepth 65536 in
theorem w_c27 : (Jvm.Cond.code ({ cls := "jdk/internal/util/Preconditions", name := "checkIndex", desc := "(IILjava/util/function/BiFunction;)I" } : Jvm.MethodName) jdk_41_method_11_code (3 : Nat) (Option.some Jvm.ClassFile.FieldType.int)).before args0 about1 = true := code_word (m := ⟨13, 1⟩) (meth := k13m1) (c := k13c1) (by decide +kernel) rfl rfl rfl (by decide +kernel)
set_option maxRecDepth 65536 in
theorem w_c28 : (Jvm.Cond.code ({ cls := "java/util/Arrays", name := "copyOfRange", desc := "([BII)[B" } : Jvm.MethodName) jdk_65_method_132_code (3 : Nat) (Option.some (Jvm.ClassFile.FieldType.array Jvm.ClassFile.FieldType.byte))).before args0 about1 = true := code_word (m := ⟨15, 2⟩) (meth := k15m2) (c := k15c2) (by decide +kernel) rfl rfl rfl (by decide +kernel)
set_option maxRecDepth 65536 in
theorem w_c29 : (Jvm.Cond.code ({ cls := "java/util/Arrays", name := "copyOfRangeByte", desc := "([BII)[B" } : Jvm.MethodName) jdk_65_method_133_code (5 : Nat) (Option.some (Jvm.ClassFile.FieldType.array Jvm.ClassFile.FieldType.byte))).before args0 about1 = true := code_word (m := ⟨15, 3⟩) (meth := k15m3) (c := k15c3) (by decide +kernel) rfl rfl rfl (by decide +kernel)
set_option maxRecDepth 65536 in
theorem w_c30 : (Jvm.Cond.code ({ cls := "java/util/Arrays", name := "checkLength", desc := "(II)V" } : Jvm.MethodName) jdk_65_method_131_code (2 : Nat) (Option.none : Option Jvm.ClassFile.FieldType)).before args0 about1 = true := code_word (m := ⟨15, 1⟩) (meth := k15m1) (c := k15c1) (by decide +kernel) rfl rfl rfl (by decide +kernel)
set_option maxRecDepth 65536 in
theorem w_c31 : (Jvm.Cond.code ({ cls := "java/lang/String", name := "<init>", desc := "([BB)V" } : Jvm.MethodName) jdk_42_method_151_code (3 : Nat) (Option.none : Option Jvm.ClassFile.FieldType)).before args0 about1 = true := code_word (m := ⟨7, 9⟩) (meth := k7m9) (c := k7c9) (by decide +kernel) rfl rfl rfl (by decide +kernel)
def codes1 : List Jvm.Cond := [Jvm.Cond.code x code maxLocals ret, Jvm.Cond.code ({ cls := "com/example/svazek/svazek/PackageFolderNameOfPinLaw", name := "draw", desc := "(I)C" } : Jvm.MethodName) method_4_code (1 : Nat) (Option.some Jvm.ClassFile.FieldType.char), Jvm.Cond.code ({ cls := "com/example/svazek/svazek/PackageFolderNameOfPinLaw", name := "chars", desc := "(ICCCC)[C" } : Jvm.MethodName) method_5_code (5 : Nat) (Option.some (Jvm.ClassFile.FieldType.array Jvm.ClassFile.FieldType.char)), Jvm.Cond.code ({ cls := "java/lang/String", name := "<init>", desc := "([C)V" } : Jvm.MethodName) jdk_42_method_3_code (2 : Nat) (Option.none : Option Jvm.ClassFile.FieldType), Jvm.Cond.code ({ cls := "java/lang/String", name := "<init>", desc := "([CIILjava/lang/Void;)V" } : Jvm.MethodName) jdk_42_method_149_code (6 : Nat) (Option.none : Option Jvm.ClassFile.FieldType), Jvm.Cond.code ({ cls := "java/lang/Object", name := "<init>", desc := "()V" } : Jvm.MethodName) object_method_1_code (1 : Nat) (Option.none : Option Jvm.ClassFile.FieldType), Jvm.Cond.code ({ cls := "com/example/svazek/svazek/PackageFolder", name := "nameOf", desc := "(Ljava/lang/String;)Ljava/lang/String;" } : Jvm.MethodName) prog_41_method_8_code (1 : Nat) (Option.some (Jvm.ClassFile.FieldType.object "java/lang/String")), Jvm.Cond.code ({ cls := "java/lang/String", name := "lastIndexOf", desc := "(I)I" } : Jvm.MethodName) jdk_42_method_82_code (2 : Nat) (Option.some Jvm.ClassFile.FieldType.int), Jvm.Cond.code ({ cls := "java/lang/String", name := "length", desc := "()I" } : Jvm.MethodName) jdk_42_method_54_code (1 : Nat) (Option.some Jvm.ClassFile.FieldType.int), Jvm.Cond.code ({ cls := "java/lang/String", name := "coder", desc := "()B" } : Jvm.MethodName) jdk_42_method_152_code (1 : Nat) (Option.some Jvm.ClassFile.FieldType.byte), Jvm.Cond.code ({ cls := "java/lang/String", name := "lastIndexOf", desc := "(II)I" } : Jvm.MethodName) jdk_42_method_83_code (3 : Nat) (Option.some Jvm.ClassFile.FieldType.int), Jvm.Cond.code ({ cls := "java/lang/String", name := "isLatin1", desc := "()Z" } : Jvm.MethodName) jdk_42_method_154_code (1 : Nat) (Option.some Jvm.ClassFile.FieldType.boolean), Jvm.Cond.code ({ cls := "java/lang/StringLatin1", name := "lastIndexOf", desc := "([BII)I" } : Jvm.MethodName) jdk_43_method_27_code (4 : Nat) (Option.some Jvm.ClassFile.FieldType.int), Jvm.Cond.code ({ cls := "java/lang/StringLatin1", name := "canEncode", desc := "(I)Z" } : Jvm.MethodName) jdk_43_method_4_code (1 : Nat) (Option.some Jvm.ClassFile.FieldType.boolean), Jvm.Cond.code ({ cls := "java/lang/Math", name := "min", desc := "(II)I" } : Jvm.MethodName) jdk_29_method_69_code (2 : Nat) (Option.some Jvm.ClassFile.FieldType.int), Jvm.Cond.code ({ cls := "java/lang/String", name := "substring", desc := "(I)Ljava/lang/String;" } : Jvm.MethodName) jdk_42_method_91_code (2 : Nat) (Option.some (Jvm.ClassFile.FieldType.object "java/lang/String")), Jvm.Cond.code ({ cls := "java/lang/String", name := "substring", desc := "(II)Ljava/lang/String;" } : Jvm.MethodName) jdk_42_method_92_code (5 : Nat) (Option.some (Jvm.ClassFile.FieldType.object "java/lang/String")), Jvm.Cond.code ({ cls := "java/lang/String", name := "checkBoundsBeginEnd", desc := "(III)V" } : Jvm.MethodName) jdk_42_method_158_code (3 : Nat) (Option.none : Option Jvm.ClassFile.FieldType), Jvm.Cond.code ({ cls := "jdk/internal/util/Preconditions", name := "checkFromToIndex", desc := "(IIILjava/util/function/BiFunction;)I" } : Jvm.MethodName) jdk_41_method_12_code (4 : Nat) (Option.some Jvm.ClassFile.FieldType.int), Jvm.Cond.code ({ cls := "com/example/svazek/svazek/PackageFolderNameOfPinLaw", name := "same", desc := "(Ljava/lang/String;II[CI)Z" } : Jvm.MethodName) method_3_code (5 : Nat) (Option.some Jvm.ClassFile.FieldType.boolean), Jvm.Cond.code ({ cls := "java/lang/StringUTF16", name := "compress", desc := "([CII)[B" } : Jvm.MethodName) jdk_52_method_16_code (6 : Nat) (Option.some (Jvm.ClassFile.FieldType.array Jvm.ClassFile.FieldType.byte)), Jvm.Cond.code ({ cls := "java/lang/StringUTF16", name := "compress", desc := "([CI[BII)I" } : Jvm.MethodName) jdk_52_method_21_code (7 : Nat) (Option.some Jvm.ClassFile.FieldType.int), Jvm.Cond.code ({ cls := "java/lang/StringUTF16", name := "coderFromArrayLen", desc := "([BI)B" } : Jvm.MethodName) jdk_52_method_15_code (2 : Nat) (Option.some Jvm.ClassFile.FieldType.byte), Jvm.Cond.code ({ cls := "java/lang/StringLatin1", name := "newString", desc := "([BII)Ljava/lang/String;" } : Jvm.MethodName) jdk_43_method_47_code (3 : Nat) (Option.some (Jvm.ClassFile.FieldType.object "java/lang/String")), Jvm.Cond.code ({ cls := "java/lang/String", name := "charAt", desc := "(I)C" } : Jvm.MethodName) jdk_42_method_56_code (2 : Nat) (Option.some Jvm.ClassFile.FieldType.char), Jvm.Cond.code ({ cls := "java/lang/StringLatin1", name := "charAt", desc := "([BI)C" } : Jvm.MethodName) jdk_43_method_2_code (2 : Nat) (Option.some Jvm.ClassFile.FieldType.char), Jvm.Cond.code ({ cls := "java/lang/String", name := "checkIndex", desc := "(II)V" } : Jvm.MethodName) jdk_42_method_155_code (2 : Nat) (Option.none : Option Jvm.ClassFile.FieldType), Jvm.Cond.code ({ cls := "jdk/internal/util/Preconditions", name := "checkIndex", desc := "(IILjava/util/function/BiFunction;)I" } : Jvm.MethodName) jdk_41_method_11_code (3 : Nat) (Option.some Jvm.ClassFile.FieldType.int), Jvm.Cond.code ({ cls := "java/util/Arrays", name := "copyOfRange", desc := "([BII)[B" } : Jvm.MethodName) jdk_65_method_132_code (3 : Nat) (Option.some (Jvm.ClassFile.FieldType.array Jvm.ClassFile.FieldType.byte)), Jvm.Cond.code ({ cls := "java/util/Arrays", name := "copyOfRangeByte", desc := "([BII)[B" } : Jvm.MethodName) jdk_65_method_133_code (5 : Nat) (Option.some (Jvm.ClassFile.FieldType.array Jvm.ClassFile.FieldType.byte)), Jvm.Cond.code ({ cls := "java/util/Arrays", name := "checkLength", desc := "(II)V" } : Jvm.MethodName) jdk_65_method_131_code (2 : Nat) (Option.none : Option Jvm.ClassFile.FieldType), Jvm.Cond.code ({ cls := "java/lang/String", name := "<init>", desc := "([BB)V" } : Jvm.MethodName) jdk_42_method_151_code (3 : Nat) (Option.none : Option Jvm.ClassFile.FieldType)]
set_option maxRecDepth 65536 in
theorem codes_eq : words1.filter isCode = codes1 := rfl
theorem w_codes : ∀ c ∈ words1.filter isCode, c.before args0 about1 = true := by
  rw [codes_eq]
  intro c hc
  simp only [codes1, List.mem_cons, List.not_mem_nil, or_false] at hc
  rcases hc with rfl | rfl | rfl | rfl | rfl | rfl | rfl | rfl | rfl | rfl | rfl | rfl | rfl | rfl | rfl | rfl | rfl | rfl | rfl | rfl | rfl | rfl | rfl | rfl | rfl | rfl | rfl | rfl | rfl | rfl | rfl | rfl
  · exact w_c0
  · exact w_c1
  · exact w_c2
  · exact w_c3
  · exact w_c4
  · exact w_c5
  · exact w_c6
  · exact w_c7
  · exact w_c8
  · exact w_c9
  · exact w_c10
  · exact w_c11
  · exact w_c12
  · exact w_c13
  · exact w_c14
  · exact w_c15
  · exact w_c16
  · exact w_c17
  · exact w_c18
  · exact w_c19
  · exact w_c20
  · exact w_c21
  · exact w_c22
  · exact w_c23
  · exact w_c24
  · exact w_c25
  · exact w_c26
  · exact w_c27
  · exact w_c28
  · exact w_c29
  · exact w_c30
  · exact w_c31
set_option maxRecDepth 65536 in
theorem w_t1 : (words1.take 24).all (fun c => isCode c || c.before args0 about1) = true := by decide +kernel
set_option maxRecDepth 65536 in
theorem w_t2 : ((words1.drop 24).take 24).all (fun c => isCode c || c.before args0 about1) = true := by decide +kernel
set_option maxRecDepth 65536 in
theorem w_t3 : (((words1.drop 24).drop 24).take 24).all (fun c => isCode c || c.before args0 about1) = true := by decide +kernel
set_option maxRecDepth 65536 in
theorem w_t4 : ((((words1.drop 24).drop 24).drop 24).take 24).all (fun c => isCode c || c.before args0 about1) = true := by decide +kernel
set_option maxRecDepth 65536 in
theorem w_t5 : (((((words1.drop 24).drop 24).drop 24).drop 24).take 24).all (fun c => isCode c || c.before args0 about1) = true := by decide +kernel
set_option maxRecDepth 65536 in
theorem w_t6 : (((((words1.drop 24).drop 24).drop 24).drop 24).drop 24).all (fun c => isCode c || c.before args0 about1) = true := by decide +kernel
theorem w_tables : (allAtoms (Jvm.Cond.code x code maxLocals ret :: tables_1)).before args0 about1 = true := by
  rw [allAtoms_all]
  show words1.all (fun c => c.before args0 about1) = true
  refine all_split ?_ w_codes
  rw [← List.take_append_drop 24 words1, List.all_append, w_t1, ← List.take_append_drop 24 (words1.drop 24), List.all_append, w_t2, ← List.take_append_drop 24 ((words1.drop 24).drop 24), List.all_append, w_t3, ← List.take_append_drop 24 (((words1.drop 24).drop 24).drop 24), List.all_append, w_t4, ← List.take_append_drop 24 ((((words1.drop 24).drop 24).drop 24).drop 24), List.all_append, w_t5, w_t6]
  rfl
set_option maxRecDepth 65536 in
theorem w_rest : rest_1_c.before args0 about1 = true := by decide +kernel
set_option maxRecDepth 65536 in
theorem w_case : (Jvm.Cond.and given_1 narrow_1).before args0 about1 = true := by decide +kernel
set_option maxRecDepth 65536 in
theorem w_consts : constsHeld consts_1 about1 := Jvm.Lit.constsHeldB_iff.mp (by decide +kernel)
theorem w_applies : (headSpec (Jvm.Cond.code x code maxLocals ret :: tables_1) room_1).applies x e0.platform about1 = true :=
  (Spec.applies_iff w_frames).mpr ⟨w_running, w_runnable, w_alone, w_named, w_hears, w_ripe, w_room, w_tables⟩
theorem atStart : AtStart classFile x code maxLocals ret World_1 tables_1 room_1 Calls_1 rest_1 Pre_1 launch0 p0 e0 about1 theMethod args0 below0 :=
  ⟨lists_1, trivial, launch0.admits_env _ _ _, launch0.least_env, fairChoices_fair.cas, fairChoices_fair.clock, w_frames, w_args, w_heap, w_applies, ⟨w_consts, trivial⟩, w_rest, w_case⟩
end start1
theorem witness_1 : WitnessClaimed_1 := ⟨start1.p0, start1.e0, start1.about1, start1.theMethod, start1.args0, start1.below0, start1.atStart⟩
end Jvm.Pilot.@@N@@
