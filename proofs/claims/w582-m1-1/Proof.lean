import JvmDerived
import JvmDerived.Pilot.@@N@@Statement
import JvmDerived.Pilot.@@N@@Code
set_option linter.unusedVariables false
set_option linter.unusedSimpArgs false
@@BLOCK:NumsL.lean.txt@@
/- laws to paste: Road.backV (cut by pick.py; bodies as the Statement names them) -/
namespace Jvm.Pilot.@@N@@
namespace StrChars
open Jvm Sem ClassFile Op Lib Jvm.Stand Jvm.Free.XT Jvm.Free.ALB Jvm.Free.JM Jvm.Free
open Jvm.Lib.Cold (StaticIs)
/-- a char array whose places are chars -/
def Ch (a : Addr) (A : Cell) (U : State) : Prop := Arr .char a A U ∧ Typed .char A
theorem Ch.mv {a : Addr} {A : Cell} {U U' : State} (h : Ch a A U) (hal : U.vm.Alike U'.vm) (hh : U'.heap = U.heap) : Ch a A U' := ⟨h.1.mv hal hh, h.2⟩
theorem Ch.keep {a : Addr} {A : Cell} {U U' : State} (h : Ch a A U) (hal : U.vm.Alike U'.vm) (hk : U'.heap[a]? = some A) : Ch a A U' := ⟨h.1.keep hal hk, h.2⟩
/-- what place i of a char[]'s cell holds -/
def cv (A : Cell) (i : Nat) : Int32 := match A.slots[i]? with | some (.int x) => x | _ => 0
theorem Ch.get {a : Addr} {A : Cell} {U : State} (h : Ch a A U) {i : Nat} (hi : i < A.slots.size) : A.slots[i]? = some (.int (cv A i)) := by
  have e := Array.getElem?_eq_getElem hi
  have f := h.2 i _ e
  unfold cv; rw [e]
  generalize A.slots[i] = v at f
  cases v <;> simp [fits] at f ⊢
/-- the byte that i2b leaves of a char -/
def lo8 (x : Int32) : Int32 := x.toInt8.toInt32
theorem fits_lo8 (y : Int32) : fits .byte (.int (lo8 y)) = true := by
  have h1 := y.toInt8.le_toInt
  have h2 := y.toInt8.toInt_lt
  simp only [lo8, fits, Bool.and_eq_true, decide_eq_true_eq, Int32.le_iff_toInt_le, Int8.toInt_toInt32, show (-128 : Int32).toInt = -128 from by decide, show (127 : Int32).toInt = 127 from by decide]
  omega
/-- A' is A but that each place j of lo .. hi - 1 holds f j -/
def Laid (A A' : Cell) (lo hi : Nat) (f : Nat → Value) : Prop := A'.cls = A.cls ∧ A'.vm = A.vm ∧ A'.slots.size = A.slots.size ∧ ∀ i, A'.slots[i]? = if lo ≤ i ∧ i < hi then some (f i) else A.slots[i]?
theorem Laid.zero (A : Cell) (lo : Nat) (f : Nat → Value) : Laid A A lo (lo + 0) f := ⟨rfl, rfl, rfl, fun i => by rw [if_neg (by omega)]⟩
theorem Laid.step {A Ak : Cell} {lo k : Nat} {f : Nat → Value} {v : Value} (h : Laid A Ak lo k f) (hlo : lo ≤ k) (hk : k < Ak.slots.size) (hv : v = f k) : Laid A (Ak.setSlot k v) lo (k + 1) f := by
  refine ⟨h.1, h.2.1, by simpa [Cell.setSlot] using h.2.2.1, fun i => ?_⟩
  by_cases e : k = i
  · subst e; rw [Cell.slots_setSlot_self v hk, if_pos (by omega), hv]
  · rw [Cell.slots_setSlot_ne v e, h.2.2.2 i]
    by_cases q : lo ≤ i ∧ i < k
    · rw [if_pos q, if_pos (by omega)]
    · rw [if_neg q, if_neg (by omega)]
def U16 : String := "java/lang/StringUTF16"
namespace Cmp5
def yN : MethodName := ⟨"java/lang/StringUTF16", "compress", "([CI[BII)I"⟩
abbrev yB : ByteArray := jdk_52_method_21_code
theorem d0 : decode yB 0 = .ok (.iconst 0, 1) := by decide +kernel
theorem d1 : decode yB 1 = .ok (.istore 5, 2) := by decide +kernel
theorem d3 : decode yB 3 = .ok (.iload 5, 2) := by decide +kernel
theorem d5 : decode yB 5 = .ok (.iload 4, 2) := by decide +kernel
theorem d7 : decode yB 7 = .ok (.if_icmp (.ge) 37, 3) := by decide +kernel
theorem d10 : decode yB 10 = .ok (.aload_n 0, 1) := by decide +kernel
theorem d11 : decode yB 11 = .ok (.iload_n 1, 1) := by decide +kernel
theorem d12 : decode yB 12 = .ok (.caload, 1) := by decide +kernel
theorem d13 : decode yB 13 = .ok (.istore 6, 2) := by decide +kernel
theorem d15 : decode yB 15 = .ok (.iload 6, 2) := by decide +kernel
theorem d17 : decode yB 17 = .ok (.sipush 255, 3) := by decide +kernel
theorem d20 : decode yB 20 = .ok (.if_icmp (.le) 6, 3) := by decide +kernel
theorem d26 : decode yB 26 = .ok (.aload_n 2, 1) := by decide +kernel
theorem d27 : decode yB 27 = .ok (.iload_n 3, 1) := by decide +kernel
theorem d28 : decode yB 28 = .ok (.iload 6, 2) := by decide +kernel
theorem d30 : decode yB 30 = .ok (.i2b, 1) := by decide +kernel
theorem d31 : decode yB 31 = .ok (.bastore, 1) := by decide +kernel
theorem d32 : decode yB 32 = .ok (.iinc 1 1, 3) := by decide +kernel
theorem d35 : decode yB 35 = .ok (.iinc 3 1, 3) := by decide +kernel
theorem d38 : decode yB 38 = .ok (.iinc 5 1, 3) := by decide +kernel
theorem d41 : decode yB 41 = .ok (.goto (-38), 3) := by decide +kernel
theorem d44 : decode yB 44 = .ok (.iload 4, 2) := by decide +kernel
theorem d46 : decode yB 46 = .ok (.ireturn, 1) := by decide +kernel
def site : List Cond := []
def tab : Cond := tabOf yN yB 7 (some .int) site
def P (b : Addr) (A : Cell) (d : Addr) (B : Cell) (o q len : Nat) (args : Array Value) (s : State) : Prop := args = #[.ref b, .int (Int32.ofNat o), .ref d, .int (Int32.ofNat q), .int (Int32.ofNat len)] ∧ Ch b A s ∧ Arr .byte d B s ∧ b ≠ d ∧ o + len ≤ A.slots.size ∧ q + len ≤ B.slots.size ∧ ∀ i, i < len → ¬ 255 < cv A (o + i)
def E (b : Addr) (A : Cell) (d : Addr) (B : Cell) (o q len : Nat) (r : Option Value) (s u : State) : Prop := r = some (.int (Int32.ofNat len)) ∧ ∃ B', Put d B' s u ∧ Laid B B' q (q + len) (fun j => Value.int (lo8 (cv A (o + (j - q)))))
/-- no char of the range above 255: len; the places written hold each char's low byte -/
theorem law (l : Launch) (b : Addr) (A : Cell) (d : Addr) (B : Cell) (o q len : Nat) : Law l yN 5 5 0 0 yB 7 (some .int) site (P b A d B o q len) (E b A d B o q len) (copyLocs d q len) 0 0 := by
  refine Law.of_walk (plainFor_of_name (by decide +kernel)) (by decide +kernel) (by decide +kernel) (by decide) (fun _ _ h => by rw [h.1]; rfl) (fun _ U U' hal hh h => ⟨h.1, h.2.1.mv hal hh, h.2.2.1.mv hal hh, h.2.2.2⟩) (fun r U U' V V' h1 hal h2 h => ⟨h.1, h.2.elim fun B' q => ⟨B', q.1.mv h1 h2, q.2⟩⟩) ?_
  intro p e s m args below meth c s₁ X0 hexec hbytes hml hret hlk hnm hown hh0 W hP
  obtain ⟨rfl, hA, hB, hne, l1, l2, hp⟩ := hP
  have c1 : Steps p.tables e below (s₁.setTop (entryFrame m #[.ref b, .int (Int32.ofNat o), .ref d, .int (Int32.ofNat q), .int (Int32.ofNat len)] 7)) (s₁.setTop (mkF m 0 #[.val (.ref b), .val (.int (Int32.ofNat o)), .val (.ref d), .val (.int (Int32.ofNat q)), .val (.int (Int32.ofNat len)), .unset, .unset] [])) := entry rfl
  have hA0 := hA.1.mv X0.warmed.alike hh0
  have hB0 := hB.mv X0.warmed.alike hh0
  have a31 := hA.1.2.2.2
  have c2 : Steps p.tables e below (s₁.setTop (entryFrame m #[.ref b, .int (Int32.ofNat o), .ref d, .int (Int32.ofNat q), .int (Int32.ofNat len)] 7)) (s₁.setTop (mkF m 3 #[.val (.ref b), .val (.int (Int32.ofNat o)), .val (.ref d), .val (.int (Int32.ofNat q)), .val (.int (Int32.ofNat len)), .val (.int 0), .unset] [])) := c1.trans (by
    refine iconstV X0.here hexec rfl 0 (hb hbytes d0) (by decide) ?_
    refine XS.istore X0.here hexec rfl (hb hbytes d1) rfl rfl ?_
    exact Steps.refl _)
  have loop : ∀ (r i : Nat), i + r = len → ∀ (z : Slot), (z = .unset ∨ ∃ w, z = .val w ∧ w.category = 1) → ∀ (Tl : State) (Bk : Cell), Stand p l e { frames := 0, locals := 0, cells := 0, slots := 0 } s m #[.ref b, .int (Int32.ofNat o), .ref d, .int (Int32.ofNat q), .int (Int32.ofNat len)] below meth c Tl ([] ++ copyLocs d q i) 0 0 → Put d Bk s₁ Tl → Laid B Bk q (q + i) (fun j => Value.int (lo8 (cv A (o + (j - q))))) →
      Steps p.tables e below (s₁.setTop (entryFrame m #[.ref b, .int (Int32.ofNat o), .ref d, .int (Int32.ofNat q), .int (Int32.ofNat len)] 7)) (Tl.setTop (mkF m 3 #[.val (.ref b), .val (.int (Int32.ofNat (o + i))), .val (.ref d), .val (.int (Int32.ofNat (q + i))), .val (.int (Int32.ofNat len)), .val (.int (Int32.ofNat i)), z] [])) → ∃ (T' : State) (B' : Cell) (z' : Slot), Stand p l e { frames := 0, locals := 0, cells := 0, slots := 0 } s m #[.ref b, .int (Int32.ofNat o), .ref d, .int (Int32.ofNat q), .int (Int32.ofNat len)] below meth c T' ([] ++ copyLocs d q len) 0 0 ∧ Put d B' s₁ T' ∧ Laid B B' q (q + len) (fun j => Value.int (lo8 (cv A (o + (j - q))))) ∧
      Steps p.tables e below (s₁.setTop (entryFrame m #[.ref b, .int (Int32.ofNat o), .ref d, .int (Int32.ofNat q), .int (Int32.ofNat len)] 7)) (T'.setTop (mkF m 3 #[.val (.ref b), .val (.int (Int32.ofNat (o + len))), .val (.ref d), .val (.int (Int32.ofNat (q + len))), .val (.int (Int32.ofNat len)), .val (.int (Int32.ofNat len)), z'] [])) := by
    intro r
    induction r with
    | zero =>
      intro i hi z hz Tl Bk Xl pl fl cl
      have hil : i = len := by omega
      rw [hil] at Xl fl cl
      exact ⟨Tl, Bk, z, Xl, pl, fl, cl⟩
    | succ r ih =>
      intro i hi z hz Tl Bk Xl pl fl cl
      have all := X0.warmed.alike.symm.trans Xl.warmed.alike
      have hAl := hA0.keep all (pl.other hne hA0.1)
      have hBk := hB0.like all pl.1 fl.1 fl.2.1 fl.2.2.1
      have hlt : q + i < Bk.slots.size := by rw [fl.2.2.1]; omega
      have c3 : Steps p.tables e below (s₁.setTop (entryFrame m #[.ref b, .int (Int32.ofNat o), .ref d, .int (Int32.ofNat q), .int (Int32.ofNat len)] 7)) (Tl.setTop (mkF m 12 #[.val (.ref b), .val (.int (Int32.ofNat (o + i))), .val (.ref d), .val (.int (Int32.ofNat (q + i))), .val (.int (Int32.ofNat len)), .val (.int (Int32.ofNat i)), z] [.int (Int32.ofNat (o + i)), .ref b])) := cl.trans (by
        refine XS.iload Xl.here hexec rfl (hb hbytes d3) rfl ?_
        refine XS.iload Xl.here hexec rfl (hb hbytes d5) rfl ?_
        refine XS.icmpNo Xl.here hexec rfl (hb hbytes d7) rfl (ii_ge_f (lt32 (by omega) (by omega))) ?_
        refine XS.aloadN Xl.here hexec rfl (hb hbytes d10) rfl rfl ?_
        refine XS.iloadN Xl.here hexec rfl (hb hbytes d11) rfl ?_
        exact Steps.refl _)
      have c4 : Steps p.tables e below (s₁.setTop (entryFrame m #[.ref b, .int (Int32.ofNat o), .ref d, .int (Int32.ofNat q), .int (Int32.ofNat len)] 7)) (Tl.setTop (mkF m 13 #[.val (.ref b), .val (.int (Int32.ofNat (o + i))), .val (.ref d), .val (.int (Int32.ofNat (q + i))), .val (.int (Int32.ofNat len)), .val (.int (Int32.ofNat i)), z] [.int (cv A (o + i))])) := c3.trans (by
        refine Xl.aget hexec hAl rfl (hA.get (i := o + i) (by omega)) rfl rfl (hb hbytes d12) ?_
        exact Steps.refl _)
      have c5 : Steps p.tables e below (s₁.setTop (entryFrame m #[.ref b, .int (Int32.ofNat o), .ref d, .int (Int32.ofNat q), .int (Int32.ofNat len)] 7)) (Tl.setTop (mkF m 15 #[.val (.ref b), .val (.int (Int32.ofNat (o + i))), .val (.ref d), .val (.int (Int32.ofNat (q + i))), .val (.int (Int32.ofNat len)), .val (.int (Int32.ofNat i)), .val (.int (cv A (o + i)))] [])) := c4.trans (by
        refine XS.istoreS Xl.here hexec rfl (hb hbytes d13) rfl rfl hz ?_
        exact Steps.refl _)
      have c6 : Steps p.tables e below (s₁.setTop (entryFrame m #[.ref b, .int (Int32.ofNat o), .ref d, .int (Int32.ofNat q), .int (Int32.ofNat len)] 7)) (Tl.setTop (mkF m 31 #[.val (.ref b), .val (.int (Int32.ofNat (o + i))), .val (.ref d), .val (.int (Int32.ofNat (q + i))), .val (.int (Int32.ofNat len)), .val (.int (Int32.ofNat i)), .val (.int (cv A (o + i)))] [.int (lo8 (cv A (o + i))), .int (Int32.ofNat (q + i)), .ref d])) := c5.trans (by
        refine XS.iload Xl.here hexec rfl (hb hbytes d15) rfl ?_
        refine sipushV Xl.here hexec rfl 255 (hb hbytes d17) (by decide) ?_
        refine XS.icmpYes Xl.here hexec rfl (pc0 := 20) rfl (hb hbytes d20) rfl (ii_le_t (hp i (by omega))) (by decide) rfl ?_
        refine XS.aloadN Xl.here hexec rfl (hb hbytes d26) rfl rfl ?_
        refine XS.iloadN Xl.here hexec rfl (hb hbytes d27) rfl ?_
        refine XS.iload Xl.here hexec rfl (hb hbytes d28) rfl ?_
        refine i2b Xl.here hexec rfl (hb hbytes d30) rfl ?_
        exact Steps.refl _)
      obtain ⟨T7, X7, p7, st7⟩ := Xl.aput hexec hBk rfl hlt rfl (fits_lo8 (cv A (o + i))) (g := (mkF m 31 #[.val (.ref b), .val (.int (Int32.ofNat (o + i))), .val (.ref d), .val (.int (Int32.ofNat (q + i))), .val (.int (Int32.ofNat len)), .val (.int (Int32.ofNat i)), .val (.int (cv A (o + i)))] [.int (lo8 (cv A (o + i))), .int (Int32.ofNat (q + i)), .ref d])) rfl (rest := []) rfl (hb hbytes d31)
      have c8 : Steps p.tables e below (s₁.setTop (entryFrame m #[.ref b, .int (Int32.ofNat o), .ref d, .int (Int32.ofNat q), .int (Int32.ofNat len)] 7)) (T7.setTop (mkF m 32 #[.val (.ref b), .val (.int (Int32.ofNat (o + i))), .val (.ref d), .val (.int (Int32.ofNat (q + i))), .val (.int (Int32.ofNat len)), .val (.int (Int32.ofNat i)), .val (.int (cv A (o + i)))] [])) := c6.trans (st7 _ (Steps.refl _))
      have c9 : Steps p.tables e below (s₁.setTop (entryFrame m #[.ref b, .int (Int32.ofNat o), .ref d, .int (Int32.ofNat q), .int (Int32.ofNat len)] 7)) (T7.setTop (mkF m 3 #[.val (.ref b), .val (.int (Int32.ofNat (o + i) + 1)), .val (.ref d), .val (.int (Int32.ofNat (q + i) + 1)), .val (.int (Int32.ofNat len)), .val (.int (Int32.ofNat i + 1)), .val (.int (cv A (o + i)))] [])) := c8.trans (by
        refine iincV X7.here hexec rfl 1 (hb hbytes d32) (by decide) rfl rfl ?_
        refine iincV X7.here hexec rfl 1 (hb hbytes d35) (by decide) rfl rfl ?_
        refine iincV X7.here hexec rfl 1 (hb hbytes d38) (by decide) rfl rfl ?_
        refine XS.goto X7.here hexec rfl (pc0 := 41) rfl (hb hbytes d41) (by decide) rfl ?_
        exact Steps.refl _)
      have c10 : Steps p.tables e below (s₁.setTop (entryFrame m #[.ref b, .int (Int32.ofNat o), .ref d, .int (Int32.ofNat q), .int (Int32.ofNat len)] 7)) (T7.setTop (mkF m 3 #[.val (.ref b), .val (.int (Int32.ofNat (o + (i + 1)))), .val (.ref d), .val (.int (Int32.ofNat (q + (i + 1)))), .val (.int (Int32.ofNat len)), .val (.int (Int32.ofNat (i + 1))), .val (.int (cv A (o + i)))] [])) := by
        have := c9
        rw [succ32, succ32, succ32] at this
        exact this
      exact ih (i + 1) (by omega) _ (Or.inr ⟨_, rfl, rfl⟩) T7 _ (by rw [copyLocs_step, ← List.append_assoc]; exact X7) (pl.trans p7) (fl.step (by omega) hlt (by simp)) c10
  obtain ⟨T9, B9, z9, X9, p9, f9, g9⟩ := loop len 0 (by omega) .unset (Or.inl rfl) s₁ B (by simpa [copyLocs] using X0) ⟨hB0.1, fun _ _ => rfl, rfl⟩ (Laid.zero _ _ _) c2
  have c11 : Steps p.tables e below (s₁.setTop (entryFrame m #[.ref b, .int (Int32.ofNat o), .ref d, .int (Int32.ofNat q), .int (Int32.ofNat len)] 7)) (T9.setTop (mkF m 46 #[.val (.ref b), .val (.int (Int32.ofNat (o + len))), .val (.ref d), .val (.int (Int32.ofNat (q + len))), .val (.int (Int32.ofNat len)), .val (.int (Int32.ofNat len)), z9] [.int (Int32.ofNat len)])) := g9.trans (by
    refine XS.iload X9.here hexec rfl (hb hbytes d3) rfl ?_
    refine XS.iload X9.here hexec rfl (hb hbytes d5) rfl ?_
    refine XS.icmpYes X9.here hexec rfl (pc0 := 7) rfl (hb hbytes d7) rfl (ii_ge_t (nlt32 (by omega) (Nat.le_refl _))) (by decide) rfl ?_
    refine XS.iload X9.here hexec rfl (hb hbytes d44) rfl ?_
    exact Steps.refl _)
  exact ⟨T9, some (.int (Int32.ofNat len)), _, _, _, X9, by simp, rfl, rfl, (fun h => by cases h), ⟨rfl, B9, p9.from hh0, f9⟩, fun fs hl => c11.trans (X9.ireturnOut hexec hret rfl (Or.inl rfl) (hb hbytes d46) hl)⟩
end Cmp5
namespace Cmp3
def yN : MethodName := ⟨"java/lang/StringUTF16", "compress", "([CII)[B"⟩
abbrev yB : ByteArray := jdk_52_method_16_code
theorem d0 : decode yB 0 = .ok (.iload_n 2, 1) := by decide +kernel
theorem d1 : decode yB 1 = .ok (.newarray .byte, 2) := by decide +kernel
theorem d3 : decode yB 3 = .ok (.astore_n 3, 1) := by decide +kernel
theorem d4 : decode yB 4 = .ok (.aload_n 0, 1) := by decide +kernel
theorem d5 : decode yB 5 = .ok (.iload_n 1, 1) := by decide +kernel
theorem d6 : decode yB 6 = .ok (.aload_n 3, 1) := by decide +kernel
theorem d7 : decode yB 7 = .ok (.iconst 0, 1) := by decide +kernel
theorem d8 : decode yB 8 = .ok (.iload_n 2, 1) := by decide +kernel
theorem d9 : decode yB 9 = .ok (.invokestatic 115, 3) := by decide +kernel
theorem d12 : decode yB 12 = .ok (.istore 4, 2) := by decide +kernel
theorem d14 : decode yB 14 = .ok (.iload 4, 2) := by decide +kernel
theorem d16 : decode yB 16 = .ok (.iload_n 2, 1) := by decide +kernel
theorem d17 : decode yB 17 = .ok (.if_icmp (.eq) 40, 3) := by decide +kernel
theorem d57 : decode yB 57 = .ok (.aload_n 3, 1) := by decide +kernel
theorem d58 : decode yB 58 = .ok (.areturn, 1) := by decide +kernel
def site : List Cond := [.arrayClass .byte, Cmp5.tab] ++ staticW U16 115 Cmp5.yN
def tab : Cond := tabOf yN yB 6 (some (.array .byte)) site
def P (b : Addr) (A : Cell) (o len : Nat) (args : Array Value) (s : State) : Prop := args = #[.ref b, .int (Int32.ofNat o), .int (Int32.ofNat len)] ∧ Ch b A s ∧ o + len ≤ A.slots.size ∧ len ≤ 536870912 ∧ ∀ i, i < len → ¬ 255 < cv A (o + i)
def E (b : Addr) (A : Cell) (o len : Nat) (r : Option Value) (s u : State) : Prop := NewArr .byte "[B" len (fun j => .int (lo8 (cv A (o + j)))) r s u ∧ u.heap.size = s.heap.size + 1
/-- no char of the range above 255: a new byte[] of their low bytes -/
theorem law (l : Launch) (b : Addr) (A : Cell) (o len : Nat) : Law l yN 3 3 1 18 yB 6 (some (.array .byte)) site (P b A o len) (E b A o len) [] 1 len := by
  refine Law.of_walk (plainFor_of_name (by decide +kernel)) (by decide +kernel) (by decide +kernel) (by decide) (fun _ _ h => by rw [h.1]; rfl) (fun _ U U' hal hh h => ⟨h.1, h.2.1.mv hal hh, h.2.2⟩) (fun r U U' V V' h1 hal h2 h => ⟨NewArr.mv r U U' V V' h1 hal h2 h.1, by rw [h1, h2]; exact h.2⟩) ?_
  intro p e s m args below meth c s₁ X0 hexec hbytes hml hret hlk hnm hown hh0 W hP
  obtain ⟨rfl, hA, l1, l2, hp⟩ := hP
  have a31 := hA.1.2.2.2
  have c1 : Steps p.tables e below (s₁.setTop (entryFrame m #[.ref b, .int (Int32.ofNat o), .int (Int32.ofNat len)] 6)) (s₁.setTop (mkF m 0 #[.val (.ref b), .val (.int (Int32.ofNat o)), .val (.int (Int32.ofNat len)), .unset, .unset, .unset] [])) := entry rfl
  have c2 : Steps p.tables e below (s₁.setTop (entryFrame m #[.ref b, .int (Int32.ofNat o), .int (Int32.ofNat len)] 6)) (s₁.setTop (mkF m 1 #[.val (.ref b), .val (.int (Int32.ofNat o)), .val (.int (Int32.ofNat len)), .unset, .unset, .unset] [.int (Int32.ofNat len)])) := c1.trans (by
    refine XS.iloadN X0.here hexec rfl (hb hbytes d0) rfl ?_
    exact Steps.refl _)
  obtain ⟨T3, B3, X3, ba3, bs3, bv3, bh3, bf3, st3⟩ := X0.anew hexec (atype := .byte) (wk W (.arrayClass .byte)) rfl (by show len * 1 ≤ _; omega) (by omega) (g := (mkF m 1 #[.val (.ref b), .val (.int (Int32.ofNat o)), .val (.int (Int32.ofNat len)), .unset, .unset, .unset] [.int (Int32.ofNat len)])) rfl (hb hbytes d1) (rest := []) rfl (Nat.le_refl _) (by show 0 + len ≤ len; omega)
  rw [hh0] at ba3 st3
  have kp3 : XT.Kept s T3 := (XT.Kept.of_eq hh0).push bh3
  have hA3 := hA.keep X3.warmed.alike (kp3 _ _ hA.1.1)
  have hne : b ≠ s.heap.size := hA.1.ne
  have c4 : Steps p.tables e below (s₁.setTop (entryFrame m #[.ref b, .int (Int32.ofNat o), .int (Int32.ofNat len)] 6)) (T3.setTop (mkF m 3 #[.val (.ref b), .val (.int (Int32.ofNat o)), .val (.int (Int32.ofNat len)), .unset, .unset, .unset] [.ref s.heap.size])) := c2.trans (st3 _ (Steps.refl _))
  have c5 : Steps p.tables e below (s₁.setTop (entryFrame m #[.ref b, .int (Int32.ofNat o), .int (Int32.ofNat len)] 6)) (T3.setTop (mkF m 9 #[.val (.ref b), .val (.int (Int32.ofNat o)), .val (.int (Int32.ofNat len)), .val (.ref s.heap.size), .unset, .unset] [.int (Int32.ofNat len), .int 0, .ref s.heap.size, .int (Int32.ofNat o), .ref b])) := c4.trans (by
    refine XS.astoreN X3.here hexec rfl (hb hbytes d3) rfl rfl rfl ?_
    refine XS.aloadN X3.here hexec rfl (hb hbytes d4) rfl rfl ?_
    refine XS.iloadN X3.here hexec rfl (hb hbytes d5) rfl ?_
    refine XS.aloadN X3.here hexec rfl (hb hbytes d6) rfl rfl ?_
    refine iconstV X3.here hexec rfl 0 (hb hbytes d7) (by decide) ?_
    refine XS.iloadN X3.here hexec rfl (hb hbytes d8) rfl ?_
    exact Steps.refl _)
  obtain ⟨v6, T6, X6, E6, g6⟩ := X3.callS hexec (Cmp5.law l b A s.heap.size B3 o 0 len) hown (wks W (staticW U16 115 Cmp5.yN)) (wk W Cmp5.tab) (W := 0) (Nat.le_of_ble_eq_true rfl) (Nat.le_of_ble_eq_true rfl) (Nat.le_refl _) (by show 0 + len + 0 ≤ len; omega) (g := (mkF m 9 #[.val (.ref b), .val (.int (Int32.ofNat o)), .val (.int (Int32.ofNat len)), .val (.ref s.heap.size), .unset, .unset] [.int (Int32.ofNat len), .int (Int32.ofNat 0), .ref s.heap.size, .int (Int32.ofNat o), .ref b])) rfl (by rw [hml]; rfl) c5 (argsL := [.ref b, .int (Int32.ofNat o), .ref s.heap.size, .int (Int32.ofNat 0), .int (Int32.ofNat len)]) (rest := []) rfl rfl (by show 2 * 0 + 0 ≤ _; decide) (hb hbytes d9) (⟨rfl, hA3, ba3, hne, l1, by rw [bs3]; simp, hp⟩)
  obtain ⟨rfl, B6, p6, f6⟩ := E6
  have c7 : Steps p.tables e below (s₁.setTop (entryFrame m #[.ref b, .int (Int32.ofNat o), .int (Int32.ofNat len)] 6)) (T6.setTop (mkF m 12 #[.val (.ref b), .val (.int (Int32.ofNat o)), .val (.int (Int32.ofNat len)), .val (.ref s.heap.size), .unset, .unset] [.int (Int32.ofNat len)])) := g6
  have c8 : Steps p.tables e below (s₁.setTop (entryFrame m #[.ref b, .int (Int32.ofNat o), .int (Int32.ofNat len)] 6)) (T6.setTop (mkF m 58 #[.val (.ref b), .val (.int (Int32.ofNat o)), .val (.int (Int32.ofNat len)), .val (.ref s.heap.size), .val (.int (Int32.ofNat len)), .unset] [.ref s.heap.size])) := c7.trans (by
    refine XS.istore X6.here hexec rfl (hb hbytes d12) rfl rfl ?_
    refine XS.iload X6.here hexec rfl (hb hbytes d14) rfl ?_
    refine XS.iloadN X6.here hexec rfl (hb hbytes d16) rfl ?_
    refine XS.icmpYes X6.here hexec rfl (pc0 := 17) rfl (hb hbytes d17) rfl (ii_eq_t rfl) (by decide) rfl ?_
    refine XS.aloadN X6.here hexec rfl (hb hbytes d57) rfl rfl ?_
    exact Steps.refl _)
  have X8 := X6.wide (L' := []) (cells' := 1) (slots' := len) (fun x hx hlt => by
    simp only [List.nil_append, copyLocs, List.mem_map, List.mem_range] at hx
    obtain ⟨i, -, rfl⟩ := hx
    exact absurd hlt (Nat.lt_irrefl _)) (Nat.le_refl _) (by omega)
  exact ⟨T6, some (.ref s.heap.size), _, _, _, X8, rfl, rfl, rfl, (fun h => by cases h), ⟨⟨rfl, B6, ba3.like (X3.warmed.alike.symm.trans X6.warmed.alike) p6.1 f6.1 f6.2.1 f6.2.2.1, f6.2.1.trans bv3, by rw [X6.warmed.alike.findClass, f6.1]; exact bf3, by rw [f6.2.2.1, bs3]; simp, fun j hj => by rw [f6.2.2.2 j, if_pos (by omega)]; rfl, kp3.put p6 (Nat.le_refl _)⟩, by rw [p6.2.2, bh3, hh0]; simp⟩, fun fs hl => c8.trans (X8.areturnOut hexec rfl hret rfl (hb hbytes d58) hl)⟩
end Cmp3
namespace CodL
def yN : MethodName := ⟨"java/lang/StringUTF16", "coderFromArrayLen", "([BI)B"⟩
abbrev yB : ByteArray := jdk_52_method_15_code
theorem d0 : decode yB 0 = .ok (.iload_n 1, 1) := by decide +kernel
theorem d1 : decode yB 1 = .ok (.aload_n 0, 1) := by decide +kernel
theorem d2 : decode yB 2 = .ok (.arraylength, 1) := by decide +kernel
theorem d3 : decode yB 3 = .ok (.isub, 1) := by decide +kernel
theorem d4 : decode yB 4 = .ok (.bipush 31, 2) := by decide +kernel
theorem d6 : decode yB 6 = .ok (.iushr, 1) := by decide +kernel
theorem d7 : decode yB 7 = .ok (.i2b, 1) := by decide +kernel
theorem d8 : decode yB 8 = .ok (.ireturn, 1) := by decide +kernel
def site : List Cond := []
def tab : Cond := tabOf yN yB 2 (some .byte) site
def P (d : Addr) (B : Cell) (args : Array Value) (s : State) : Prop := args = #[.ref d, .int (Int32.ofNat B.slots.size)] ∧ Arr .byte d B s
def E (r : Option Value) (s u : State) : Prop := XT.PureE (some (.int 0)) r s u
/-- an array as long as the number of chars: LATIN1 -/
theorem law (l : Launch) (d : Addr) (B : Cell) : Law l yN 2 2 0 0 yB 2 (some .byte) site (P d B) E [] 0 0 := by
  refine Law.of_walk (plainFor_of_name (by decide +kernel)) (by decide +kernel) (by decide +kernel) (by decide) (fun _ _ h => by rw [h.1]; rfl) (fun _ U U' hal hh h => ⟨h.1, h.2.mv hal hh⟩) (fun r U U' V V' h1 hal h2 h => XT.PureE.mv r U U' V V' h1 hal h2 h) ?_
  intro p e s m args below meth c s₁ X0 hexec hbytes hml hret hlk hnm hown hh0 W hP
  obtain ⟨rfl, hB⟩ := hP
  have hB0 := hB.mv X0.warmed.alike hh0
  have c1 : Steps p.tables e below (s₁.setTop (entryFrame m #[.ref d, .int (Int32.ofNat B.slots.size)] 2)) (s₁.setTop (mkF m 0 #[.val (.ref d), .val (.int (Int32.ofNat B.slots.size))] [])) := entry rfl
  have c2 : Steps p.tables e below (s₁.setTop (entryFrame m #[.ref d, .int (Int32.ofNat B.slots.size)] 2)) (s₁.setTop (mkF m 2 #[.val (.ref d), .val (.int (Int32.ofNat B.slots.size))] [.ref d, .int (Int32.ofNat B.slots.size)])) := c1.trans (by
    refine XS.iloadN X0.here hexec rfl (hb hbytes d0) rfl ?_
    refine XS.aloadN X0.here hexec rfl (hb hbytes d1) rfl rfl ?_
    exact Steps.refl _)
  have c3 : Steps p.tables e below (s₁.setTop (entryFrame m #[.ref d, .int (Int32.ofNat B.slots.size)] 2)) (s₁.setTop (mkF m 8 #[.val (.ref d), .val (.int (Int32.ofNat B.slots.size))] [.int (lo8 (ushr (Int32.ofNat B.slots.size - Int32.ofNat B.slots.size) 31))])) := c2.trans (by
    refine X0.alen hexec hB0 rfl rfl (hb hbytes d2) ?_
    refine XS.isub X0.here hexec rfl (hb hbytes d3) rfl ?_
    refine bipushV X0.here hexec rfl 31 (hb hbytes d4) (by decide) ?_
    refine iushr X0.here hexec rfl (hb hbytes d6) rfl ?_
    refine i2b X0.here hexec rfl (hb hbytes d7) rfl ?_
    exact Steps.refl _)
  have e0 : lo8 (ushr (Int32.ofNat B.slots.size - Int32.ofNat B.slots.size) 31) = 0 := by rw [Int32.sub_self]; decide
  rw [e0] at c3
  exact ⟨s₁, some (.int 0), _, _, _, X0, rfl, rfl, rfl, (fun h => by cases h), ⟨rfl, hh0⟩, fun fs hl => c3.trans (X0.ireturnOut hexec hret rfl (Or.inr (Or.inr (Or.inl rfl))) (hb hbytes d8) hl)⟩
end CodL
/-- the String at a is Latin-1 over a new byte[] (the heap's one new cell): the low bytes of the len chars of A from o on; every cell but a is kept -/
def Got (a : Addr) (D : Cell) (fV fC : Field) (A : Cell) (o len : Nat) (r : Option Value) (s u : State) : Prop := r = none ∧ ∃ D' V : Cell, Blank "java/lang/String" a D' u ∧ Same D D' [fV.slot, fC.slot] ∧ D'.slots[fV.slot]? = some (.ref s.heap.size) ∧ D'.slots[fC.slot]? = some (.int 0) ∧ Arr .byte s.heap.size V u ∧ V.vm = .none ∧ u.vm.findClass "[B" = some V.cls ∧ V.slots.size = len ∧ (∀ j, j < len → V.slots[j]? = some (.int (lo8 (cv A (o + j))))) ∧ (∀ (y : Addr) (c : Cell), y ≠ a → s.heap[y]? = some c → u.heap[y]? = some c) ∧ u.heap.size = s.heap.size + 1
theorem Got.mv {a : Addr} {D A : Cell} {fV fC : Field} {o len : Nat} : ∀ r (U U' V V' : State), U'.heap = U.heap → V.vm.Alike V'.vm → V'.heap = V.heap → Got a D fV fC A o len r U V → Got a D fV fC A o len r U' V' :=
  fun r U U' V V' h1 hal h2 ⟨e0, D', X, a1, a2, a3, a4, a5, a6, a7, a8, a9, a10, a11⟩ => ⟨e0, D', X, a1.mv hal h2, a2, by rw [h1]; exact a3, a4, by rw [h1]; exact a5.mv hal h2, a6, by rw [hal.findClass]; exact a7, a8, a9, by rw [h1, h2]; exact a10, by rw [h1, h2]; exact a11⟩
namespace New4
def yN : MethodName := ⟨"java/lang/String", "<init>", "([CIILjava/lang/Void;)V"⟩
abbrev yB : ByteArray := jdk_42_method_149_code
theorem d0 : decode yB 0 = .ok (.aload_n 0, 1) := by decide +kernel
theorem d1 : decode yB 1 = .ok (.invokespecial 1, 3) := by decide +kernel
theorem d4 : decode yB 4 = .ok (.iload_n 3, 1) := by decide +kernel
theorem d5 : decode yB 5 = .ok (.ifCond (.ne) 22, 3) := by decide +kernel
theorem d27 : decode yB 27 = .ok (.getstatic 38, 3) := by decide +kernel
theorem d30 : decode yB 30 = .ok (.ifCond (.eq) 28, 3) := by decide +kernel
theorem d33 : decode yB 33 = .ok (.aload_n 1, 1) := by decide +kernel
theorem d34 : decode yB 34 = .ok (.iload_n 2, 1) := by decide +kernel
theorem d35 : decode yB 35 = .ok (.iload_n 3, 1) := by decide +kernel
theorem d36 : decode yB 36 = .ok (.invokestatic 177, 3) := by decide +kernel
theorem d39 : decode yB 39 = .ok (.astore 5, 2) := by decide +kernel
theorem d41 : decode yB 41 = .ok (.aload_n 0, 1) := by decide +kernel
theorem d42 : decode yB 42 = .ok (.aload 5, 2) := by decide +kernel
theorem d44 : decode yB 44 = .ok (.iload_n 3, 1) := by decide +kernel
theorem d45 : decode yB 45 = .ok (.invokestatic 47, 3) := by decide +kernel
theorem d48 : decode yB 48 = .ok (.putfield 15, 3) := by decide +kernel
theorem d51 : decode yB 51 = .ok (.aload_n 0, 1) := by decide +kernel
theorem d52 : decode yB 52 = .ok (.aload 5, 2) := by decide +kernel
theorem d54 : decode yB 54 = .ok (.putfield 9, 3) := by decide +kernel
theorem d57 : decode yB 57 = .ok (.return_, 1) := by decide +kernel
def site : List Cond := [.fieldLink "java/lang/String" 38 "java/lang/String" "COMPACT_STRINGS" "Z", Cmp3.tab, CodL.tab, .laysFinal "java/lang/String" "java/lang/String" "value" "[B", .fieldLink "java/lang/String" 9 "java/lang/String" "value" "[B", .laysFinal "java/lang/String" "java/lang/String" "coder" "B", .fieldLink "java/lang/String" 15 "java/lang/String" "coder" "B"] ++ objW "java/lang/String" 1 ++ staticW "java/lang/String" 177 Cmp3.yN ++ staticW "java/lang/String" 47 CodL.yN
def tab : Cond := tabOf yN yB 6 none site
def P (a : Addr) (D : Cell) (fV fC : Field) (b : Addr) (A : Cell) (z : Int32) (o len : Nat) (args : Array Value) (s : State) : Prop := args = #[.ref a, .ref b, .int (Int32.ofNat o), .int (Int32.ofNat len), .null] ∧ Blank "java/lang/String" a D s ∧ Found "java/lang/String" "value" "[B" fV s ∧ Found "java/lang/String" "coder" "B" fC s ∧ Ch b A s ∧ StaticIs s "java/lang/String" "COMPACT_STRINGS" "Z" (.int z) ∧ ¬ z = 0 ∧ 0 < len ∧ o + len ≤ A.slots.size ∧ len ≤ 536870912 ∧ ∀ i, i < len → ¬ 255 < cv A (o + i)
def E (a : Addr) (D : Cell) (fV fC : Field) (A : Cell) (o len : Nat) (r : Option Value) (s u : State) : Prop := Got a D fV fC A o len r s u
/-- len > 0, no char of the range above 255: a Latin-1 String of their low bytes -/
theorem law (l : Launch) (a : Addr) (D : Cell) (fV fC : Field) (b : Addr) (A : Cell) (z : Int32) (o len : Nat) : Law l yN 5 4 2 35 yB 6 none site (P a D fV fC b A z o len) (E a D fV fC A o len) [⟨a, fC.slot⟩, ⟨a, fV.slot⟩] 1 len := by
  refine Law.of_walk (plainFor_of_name (by decide +kernel)) (by decide +kernel) (by decide +kernel) (by decide) (fun _ _ h => by rw [h.1]; rfl) (fun _ U U' hal hh h => ⟨h.1, h.2.1.mv hal hh, h.2.2.1.al hal, h.2.2.2.1.al hal, h.2.2.2.2.1.mv hal hh, h.2.2.2.2.2.1.there hal hh, h.2.2.2.2.2.2⟩) (fun r U U' V V' h1 hal h2 h => Got.mv r U U' V V' h1 hal h2 h) ?_
  intro p e s m args below meth c s₁ X0 hexec hbytes hml hret hlk hnm hown hh0 W hP
  obtain ⟨rfl, hB, f1, f2, hA, s1, hz, l0, l1, l2, hp⟩ := hP
  have a31 := hA.1.2.2.2
  have c1 : Steps p.tables e below (s₁.setTop (entryFrame m #[.ref a, .ref b, .int (Int32.ofNat o), .int (Int32.ofNat len), .null] 6)) (s₁.setTop (mkF m 0 #[.val (.ref a), .val (.ref b), .val (.int (Int32.ofNat o)), .val (.int (Int32.ofNat len)), .val .null, .unset] [])) := entry rfl
  have c2 : Steps p.tables e below (s₁.setTop (entryFrame m #[.ref a, .ref b, .int (Int32.ofNat o), .int (Int32.ofNat len), .null] 6)) (s₁.setTop (mkF m 1 #[.val (.ref a), .val (.ref b), .val (.int (Int32.ofNat o)), .val (.int (Int32.ofNat len)), .val .null, .unset] [.ref a])) := c1.trans (by
    refine XS.aloadN X0.here hexec rfl (hb hbytes d0) rfl rfl ?_
    exact Steps.refl _)
  obtain ⟨T3, X3, q3, st3⟩ := X0.oinit hexec hown (wks W (objW "java/lang/String" 1)) (g := (mkF m 1 #[.val (.ref a), .val (.ref b), .val (.int (Int32.ofNat o)), .val (.int (Int32.ofNat len)), .val .null, .unset] [.ref a])) rfl (by rw [hml]; rfl) (rest := []) rfl (hb hbytes d1) (W := 0) (by show 2 * 0 + 0 ≤ _; decide) (Nat.le_of_ble_eq_true rfl) (Nat.le_of_ble_eq_true rfl)
  have hh3 := q3.trans hh0
  have c4 : Steps p.tables e below (s₁.setTop (entryFrame m #[.ref a, .ref b, .int (Int32.ofNat o), .int (Int32.ofNat len), .null] 6)) (T3.setTop (mkF m 27 #[.val (.ref a), .val (.ref b), .val (.int (Int32.ofNat o)), .val (.int (Int32.ofNat len)), .val .null, .unset] [])) := (c2.trans (st3 _ (Steps.refl _))).trans (by
    refine XS.iloadN X3.here hexec rfl (hb hbytes d4) rfl ?_
    refine XS.ifYes X3.here hexec rfl (pc0 := 5) rfl (hb hbytes d5) rfl (i0_ne_t (nz32 (by omega) l0)) (by decide) rfl ?_
    exact Steps.refl _)
  obtain ⟨T5, X5, q5, st5⟩ := X3.sget hexec hown (wk W (.fieldLink "java/lang/String" 38 "java/lang/String" "COMPACT_STRINGS" "Z")) s1 (fun _ _ h => by rw [hh3]; exact h) (g := (mkF m 27 #[.val (.ref a), .val (.ref b), .val (.int (Int32.ofNat o)), .val (.int (Int32.ofNat len)), .val .null, .unset] [])) rfl (hb hbytes d27)
  have hh5 := q5.trans hh3
  have c6 : Steps p.tables e below (s₁.setTop (entryFrame m #[.ref a, .ref b, .int (Int32.ofNat o), .int (Int32.ofNat len), .null] 6)) (T5.setTop (mkF m 30 #[.val (.ref a), .val (.ref b), .val (.int (Int32.ofNat o)), .val (.int (Int32.ofNat len)), .val .null, .unset] [.int z])) := c4.trans (st5 _ (Steps.refl _))
  have c7 : Steps p.tables e below (s₁.setTop (entryFrame m #[.ref a, .ref b, .int (Int32.ofNat o), .int (Int32.ofNat len), .null] 6)) (T5.setTop (mkF m 36 #[.val (.ref a), .val (.ref b), .val (.int (Int32.ofNat o)), .val (.int (Int32.ofNat len)), .val .null, .unset] [.int (Int32.ofNat len), .int (Int32.ofNat o), .ref b])) := c6.trans (by
    refine XS.ifNo X5.here hexec rfl (hb hbytes d30) rfl (i0_eq_f hz) ?_
    refine XS.aloadN X5.here hexec rfl (hb hbytes d33) rfl rfl ?_
    refine XS.iloadN X5.here hexec rfl (hb hbytes d34) rfl ?_
    refine XS.iloadN X5.here hexec rfl (hb hbytes d35) rfl ?_
    exact Steps.refl _)
  obtain ⟨v8, T8, X8, E8, g8⟩ := X5.callS hexec (Cmp3.law l b A o len) hown (wks W (staticW "java/lang/String" 177 Cmp3.yN)) (wk W Cmp3.tab) (W := 0) (Nat.le_of_ble_eq_true rfl) (Nat.le_of_ble_eq_true rfl) (Nat.le_refl _) (by show 0 + len ≤ len; omega) (g := (mkF m 36 #[.val (.ref a), .val (.ref b), .val (.int (Int32.ofNat o)), .val (.int (Int32.ofNat len)), .val .null, .unset] [.int (Int32.ofNat len), .int (Int32.ofNat o), .ref b])) rfl (by rw [hml]; rfl) c7 (argsL := [.ref b, .int (Int32.ofNat o), .int (Int32.ofNat len)]) (rest := []) rfl rfl (by show 2 * 0 + 0 ≤ _; decide) (hb hbytes d36) (⟨rfl, hA.mv X5.warmed.alike hh5, l1, l2, hp⟩)
  obtain ⟨e8, z8⟩ := E8
  obtain ⟨rfl, N, n1, n2, n3, n4, n5, n6⟩ := NewArr.mv _ T5 s _ _ hh5.symm (Vm.Alike.refl _) rfl e8
  rw [hh5] at z8
  have hB1 := hB.keep X8.warmed.alike (n6 _ _ hB.1)
  have hne : s.heap.size ≠ a := (Nat.ne_of_lt (Array.getElem?_eq_some_iff.mp hB.1).1).symm
  have c9 : Steps p.tables e below (s₁.setTop (entryFrame m #[.ref a, .ref b, .int (Int32.ofNat o), .int (Int32.ofNat len), .null] 6)) (T8.setTop (mkF m 39 #[.val (.ref a), .val (.ref b), .val (.int (Int32.ofNat o)), .val (.int (Int32.ofNat len)), .val .null, .unset] [.ref s.heap.size])) := g8
  have c10 : Steps p.tables e below (s₁.setTop (entryFrame m #[.ref a, .ref b, .int (Int32.ofNat o), .int (Int32.ofNat len), .null] 6)) (T8.setTop (mkF m 45 #[.val (.ref a), .val (.ref b), .val (.int (Int32.ofNat o)), .val (.int (Int32.ofNat len)), .val .null, .val (.ref s.heap.size)] [.int (Int32.ofNat N.slots.size), .ref s.heap.size, .ref a])) := by
    have hc : Steps p.tables e below (s₁.setTop (entryFrame m #[.ref a, .ref b, .int (Int32.ofNat o), .int (Int32.ofNat len), .null] 6)) (T8.setTop (mkF m 45 #[.val (.ref a), .val (.ref b), .val (.int (Int32.ofNat o)), .val (.int (Int32.ofNat len)), .val .null, .val (.ref s.heap.size)] [.int (Int32.ofNat len), .ref s.heap.size, .ref a])) := c9.trans (by
      refine XS.astore X8.here hexec rfl (hb hbytes d39) rfl rfl rfl ?_
      refine XS.aloadN X8.here hexec rfl (hb hbytes d41) rfl rfl ?_
      refine XS.aload X8.here hexec rfl (hb hbytes d42) rfl rfl ?_
      refine XS.iloadN X8.here hexec rfl (hb hbytes d44) rfl ?_
      exact Steps.refl _)
    rw [n4]; exact hc
  obtain ⟨v11, T11, X11, E11, g11⟩ := X8.callS hexec (CodL.law l s.heap.size N) hown (wks W (staticW "java/lang/String" 47 CodL.yN)) (wk W CodL.tab) (W := 1) (Nat.le_of_ble_eq_true rfl) (Nat.le_of_ble_eq_true rfl) (Nat.le_refl _) (by show 0 + len + 0 ≤ len; omega) (g := (mkF m 45 #[.val (.ref a), .val (.ref b), .val (.int (Int32.ofNat o)), .val (.int (Int32.ofNat len)), .val .null, .val (.ref s.heap.size)] [.int (Int32.ofNat N.slots.size), .ref s.heap.size, .ref a])) rfl (by rw [hml]; rfl) c10 (argsL := [.ref s.heap.size, .int (Int32.ofNat N.slots.size)]) (rest := [.ref a]) rfl rfl (by show 2 * 0 + (1 + 0) ≤ _; decide) (hb hbytes d45) (⟨rfl, n1⟩)
  obtain ⟨rfl, q11⟩ := E11
  have hB11 := hB1.mv (X8.warmed.alike.symm.trans X11.warmed.alike) q11
  have c12 : Steps p.tables e below (s₁.setTop (entryFrame m #[.ref a, .ref b, .int (Int32.ofNat o), .int (Int32.ofNat len), .null] 6)) (T11.setTop (mkF m 48 #[.val (.ref a), .val (.ref b), .val (.int (Int32.ofNat o)), .val (.int (Int32.ofNat len)), .val .null, .val (.ref s.heap.size)] [.int 0, .ref a])) := g11
  obtain ⟨T13, X13, p13, bl13, sl13, st13⟩ := X11.finit hexec hown (wk W (.fieldLink "java/lang/String" 15 "java/lang/String" "coder" "B")) (Or.inr ⟨_, (wk W (.laysFinal "java/lang/String" "java/lang/String" "coder" "B"))⟩) (Or.inl ⟨rfl, hnm⟩) f2 (Or.inl rfl) hB11 (t := .byte) (by decide +kernel) rfl (g := (mkF m 48 #[.val (.ref a), .val (.ref b), .val (.int (Int32.ofNat o)), .val (.int (Int32.ofNat len)), .val .null, .val (.ref s.heap.size)] [.int 0, .ref a])) rfl (rest := []) rfl (hb hbytes d48)
  have c14 : Steps p.tables e below (s₁.setTop (entryFrame m #[.ref a, .ref b, .int (Int32.ofNat o), .int (Int32.ofNat len), .null] 6)) (T13.setTop (mkF m 54 #[.val (.ref a), .val (.ref b), .val (.int (Int32.ofNat o)), .val (.int (Int32.ofNat len)), .val .null, .val (.ref s.heap.size)] [.ref s.heap.size, .ref a])) := (c12.trans (st13 _ (Steps.refl _))).trans (by
    refine XS.aloadN X13.here hexec rfl (hb hbytes d51) rfl rfl ?_
    refine XS.aload X13.here hexec rfl (hb hbytes d52) rfl rfl ?_
    exact Steps.refl _)
  obtain ⟨T15, X15, p15, bl15, sl15, st15⟩ := X13.finit hexec hown (wk W (.fieldLink "java/lang/String" 9 "java/lang/String" "value" "[B")) (Or.inr ⟨_, (wk W (.laysFinal "java/lang/String" "java/lang/String" "value" "[B"))⟩) (Or.inl ⟨rfl, hnm⟩) f1 (Or.inl rfl) bl13 (t := (.array .byte)) (by decide +kernel) rfl (g := (mkF m 54 #[.val (.ref a), .val (.ref b), .val (.int (Int32.ofNat o)), .val (.int (Int32.ofNat len)), .val .null, .val (.ref s.heap.size)] [.ref s.heap.size, .ref a])) rfl (rest := []) rfl (hb hbytes d54)
  have c16 : Steps p.tables e below (s₁.setTop (entryFrame m #[.ref a, .ref b, .int (Int32.ofNat o), .int (Int32.ofNat len), .null] 6)) (T15.setTop (mkF m 57 #[.val (.ref a), .val (.ref b), .val (.int (Int32.ofNat o)), .val (.int (Int32.ofNat len)), .val .null, .val (.ref s.heap.size)] [])) := c14.trans (st15 _ (Steps.refl _))
  have ap := apart (Or.inr ⟨_, (wk W (.laysFinal "java/lang/String" "java/lang/String" "value" "[B"))⟩) (Or.inr ⟨_, (wk W (.laysFinal "java/lang/String" "java/lang/String" "coder" "B"))⟩) f1 f2 (t₁ := .array .byte) (t₂ := .byte) (by decide +kernel) (by decide +kernel) (by decide)
  have al := X8.warmed.alike.symm.trans X15.warmed.alike
  have n7 : T11.heap[s.heap.size]? = some N := by rw [q11]; exact n1.1
  exact ⟨T15, none, _, _, _, X15, by simp, rfl, by omega, (fun _ => rfl), ⟨rfl, _, N, bl15, ((Same.refl D _).set _ (by simp)).set _ (by simp), sl15, (Cell.slots_setSlot_ne _ ap).trans sl13, n1.keep al (p15.other hne (p13.other hne n7)), n2, by rw [al.findClass]; exact n3, n4, n5, fun y c h1 h2 => p15.other h1 (p13.other h1 (by rw [q11]; exact n6 y c h2)), by rw [p15.2.2, p13.2.2, q11]; exact z8⟩, fun fs hl => c16.trans (X15.returnOut hexec hret (hb hbytes d57) hl)⟩
end New4
namespace New1
def yN : MethodName := ⟨"java/lang/String", "<init>", "([C)V"⟩
abbrev yB : ByteArray := jdk_42_method_3_code
theorem d0 : decode yB 0 = .ok (.aload_n 0, 1) := by decide +kernel
theorem d1 : decode yB 1 = .ok (.aload_n 1, 1) := by decide +kernel
theorem d2 : decode yB 2 = .ok (.iconst 0, 1) := by decide +kernel
theorem d3 : decode yB 3 = .ok (.aload_n 1, 1) := by decide +kernel
theorem d4 : decode yB 4 = .ok (.arraylength, 1) := by decide +kernel
theorem d5 : decode yB 5 = .ok (.aconst_null, 1) := by decide +kernel
theorem d6 : decode yB 6 = .ok (.invokespecial 27, 3) := by decide +kernel
theorem d9 : decode yB 9 = .ok (.return_, 1) := by decide +kernel
def site : List Cond := [New4.tab] ++ initW "java/lang/String" 27 New4.yN
def tab : Cond := tabOf yN yB 2 none site
def P (a : Addr) (D : Cell) (fV fC : Field) (b : Addr) (A : Cell) (z : Int32) (args : Array Value) (s : State) : Prop := args = #[.ref a, .ref b] ∧ Blank "java/lang/String" a D s ∧ Found "java/lang/String" "value" "[B" fV s ∧ Found "java/lang/String" "coder" "B" fC s ∧ Ch b A s ∧ StaticIs s "java/lang/String" "COMPACT_STRINGS" "Z" (.int z) ∧ ¬ z = 0 ∧ 0 < A.slots.size ∧ A.slots.size ≤ 536870912 ∧ ∀ i, i < A.slots.size → ¬ 255 < cv A i
def E (a : Addr) (D : Cell) (fV fC : Field) (A : Cell) (r : Option Value) (s u : State) : Prop := Got a D fV fC A 0 A.slots.size r s u
/-- new String(chars), not empty, no char above 255: a Latin-1 String of their low bytes -/
theorem law (l : Launch) (a : Addr) (D : Cell) (fV fC : Field) (b : Addr) (A : Cell) (z : Int32) : Law l yN 2 1 3 52 yB 2 none site (P a D fV fC b A z) (E a D fV fC A) [⟨a, fC.slot⟩, ⟨a, fV.slot⟩] 1 A.slots.size := by
  refine Law.of_walk (plainFor_of_name (by decide +kernel)) (by decide +kernel) (by decide +kernel) (by decide) (fun _ _ h => by rw [h.1]; rfl) (fun _ U U' hal hh h => ⟨h.1, h.2.1.mv hal hh, h.2.2.1.al hal, h.2.2.2.1.al hal, h.2.2.2.2.1.mv hal hh, h.2.2.2.2.2.1.there hal hh, h.2.2.2.2.2.2⟩) (fun r U U' V V' h1 hal h2 h => Got.mv r U U' V V' h1 hal h2 h) ?_
  intro p e s m args below meth c s₁ X0 hexec hbytes hml hret hlk hnm hown hh0 W hP
  obtain ⟨rfl, hB, f1, f2, hA, s1, hz, l0, l2, hp⟩ := hP
  have c1 : Steps p.tables e below (s₁.setTop (entryFrame m #[.ref a, .ref b] 2)) (s₁.setTop (mkF m 0 #[.val (.ref a), .val (.ref b)] [])) := entry rfl
  have c2 : Steps p.tables e below (s₁.setTop (entryFrame m #[.ref a, .ref b] 2)) (s₁.setTop (mkF m 6 #[.val (.ref a), .val (.ref b)] [.null, .int (Int32.ofNat A.slots.size), .int 0, .ref b, .ref a])) := c1.trans (by
    refine XS.aloadN X0.here hexec rfl (hb hbytes d0) rfl rfl ?_
    refine XS.aloadN X0.here hexec rfl (hb hbytes d1) rfl rfl ?_
    refine iconstV X0.here hexec rfl 0 (hb hbytes d2) (by decide) ?_
    refine XS.aloadN X0.here hexec rfl (hb hbytes d3) rfl rfl ?_
    refine X0.alen hexec (hA.1.mv X0.warmed.alike hh0) rfl rfl (hb hbytes d4) ?_
    refine XS.aconstNull X0.here hexec rfl (hb hbytes d5) ?_
    exact Steps.refl _)
  obtain ⟨v3, T3, X3, E3, g3⟩ := X0.callN hexec (New4.law l a D fV fC b A z 0 A.slots.size) rfl hown (wks W (initW "java/lang/String" 27 New4.yN)) (W New4.tab (by simp only [site, List.mem_cons, List.mem_append, true_or, or_true])) (W := 0) (Nat.le_of_ble_eq_true rfl) (Nat.le_of_ble_eq_true rfl) (Nat.le_refl _) (by show 0 + A.slots.size ≤ A.slots.size; omega) (g := (mkF m 6 #[.val (.ref a), .val (.ref b)] [.null, .int (Int32.ofNat A.slots.size), .int (Int32.ofNat 0), .ref b, .ref a])) rfl (by rw [hml]; rfl) c2 (argsL := [.ref b, .int (Int32.ofNat 0), .int (Int32.ofNat A.slots.size), .null]) (rest := []) rfl rfl (by show 2 * 0 + 0 ≤ _; decide) (hb hbytes d6) (⟨rfl, hB.mv X0.warmed.alike hh0, f1.al X0.warmed.alike, f2.al X0.warmed.alike, hA.mv X0.warmed.alike hh0, s1.there X0.warmed.alike hh0, hz, l0, by omega, l2, fun i hi => by rw [Nat.zero_add]; exact hp i hi⟩)
  have e0 := Got.mv _ s₁ s _ _ hh0.symm (Vm.Alike.refl _) rfl E3
  obtain rfl := e0.1
  have c4 : Steps p.tables e below (s₁.setTop (entryFrame m #[.ref a, .ref b] 2)) (T3.setTop (mkF m 9 #[.val (.ref a), .val (.ref b)] [])) := g3
  exact ⟨T3, none, _, _, _, X3, by simp, rfl, by omega, (fun _ => rfl), e0, fun fs hl => c4.trans (X3.returnOut hexec hret (hb hbytes d9) hl)⟩
theorem pays {l : Launch} {R : Room} {p : Program} {e : Env} {below : List Frame} {s : State} {sargs : Array Value} {len W : Nat} (a : Addr) (D : Cell) (fV fC : Field) (b : Addr) (A : Cell) (z : Int32) (htab : tab.before sargs s = true) (hfr : 4 ≤ R.frames) (hlo : W + 65 ≤ R.locals) :
    Back l R p e below s sargs yN len W (fun A₁ a₁ => A₁.cells + 1 ≤ R.cells ∧ A₁.slots + A.slots.size ≤ R.slots ∧ P a D fV fC b A z a₁ A₁.U) (fun A₁ _ v₁ B₁ => E a D fV fC A v₁ A₁.U B₁.U ∧ B₁.locs = A₁.locs ++ [⟨a, fC.slot⟩, ⟨a, fV.slot⟩] ∧ B₁.cells = A₁.cells + 1 ∧ B₁.slots = A₁.slots + A.slots.size) :=
  (law l a D fV fC b A z).pays htab hfr (by omega)
end New1
end StrChars
namespace StrChars.Road
open Jvm Sem ClassFile Op Lib Jvm.Stand Jvm.Free Jvm.Free.XT
open Jvm.Lib.Cold (StaticIs)
abbrev ST : String := "java/lang/String"
/-- every table word that New1's law asks, flat -/
abbrev words : List Jvm.Cond := [.code New1.yN New1.yB 2 none, .initialized ST, .methodLink ST 27 New4.yN, .instanceMethod New4.yN,
  .code New4.yN New4.yB 6 none, .fieldLink ST 38 ST "COMPACT_STRINGS" "Z", .laysFinal ST ST "value" "[B", .fieldLink ST 9 ST "value" "[B", .laysFinal ST ST "coder" "B", .fieldLink ST 15 ST "coder" "B",
  .methodLink ST 1 Lib.objectInit, .instanceMethod Lib.objectInit, .code Lib.objectInit ⟨#[0xb1]⟩ 1 none, .methodLink ST 177 Cmp3.yN, .static Cmp3.yN, .methodLink ST 47 CodL.yN, .static CodL.yN,
  .code Cmp3.yN Cmp3.yB 6 (some (.array .byte)), .initialized U16, .arrayClass .byte, .methodLink U16 115 Cmp5.yN, .static Cmp5.yN, .code Cmp5.yN Cmp5.yB 7 (some .int), .code CodL.yN CodL.yB 2 (some .byte)]
theorem tab_of {a : Array Value} {s : State} (h : ∀ w ∈ words, w.before a s = true) : New1.tab.before a s = true := by
  have h5 : Cmp5.tab.before a s = true := unparts (wk h (.code Cmp5.yN Cmp5.yB 7 (some .int))) (wks h (.initialized Cmp5.yN.cls :: Cmp5.site))
  have hc : CodL.tab.before a s = true := unparts (wk h (.code CodL.yN CodL.yB 2 (some .byte))) (wks h (.initialized CodL.yN.cls :: CodL.site))
  have q5 : ∀ w ∈ Cmp5.tab :: words, w.before a s = true := fun w hw => (List.mem_cons.mp hw).elim (fun e => e ▸ h5) (h w)
  have h3 : Cmp3.tab.before a s = true := unparts (wk q5 (.code Cmp3.yN Cmp3.yB 6 (some (.array .byte)))) (wks q5 (.initialized Cmp3.yN.cls :: Cmp3.site))
  have q3 : ∀ w ∈ Cmp3.tab :: CodL.tab :: words, w.before a s = true := fun w hw => (List.mem_cons.mp hw).elim (fun e => e ▸ h3) fun hw => (List.mem_cons.mp hw).elim (fun e => e ▸ hc) (h w)
  have h4 : New4.tab.before a s = true := unparts (wk q3 (.code New4.yN New4.yB 6 none)) (wks q3 (.initialized New4.yN.cls :: New4.site))
  have q4 : ∀ w ∈ New4.tab :: words, w.before a s = true := fun w hw => (List.mem_cons.mp hw).elim (fun e => e ▸ h4) (h w)
  exact unparts (wk q4 (.code New1.yN New1.yB 2 none)) (wks q4 (.initialized New1.yN.cls :: New1.site))
/-- the words ride from the start Z to the walk's own state -/
theorem moved {Z s : State} {a0 args : Array Value} (hZ : Z.Warmed39 s.vm) (hw : ∀ d ∈ words, d.before a0 Z = true) : ∀ d ∈ words, d.before args s = true := fun d hd => by
  have q := hw d hd
  have t : ∀ d ∈ words, d = .arrayClass .byte ∨ (d.onTables && d.keepsFace) = true := by decide +kernel
  rcases t d hd with rfl | t
  · exact RoadKit.mvA hZ q
  · exact RoadKit.mv hZ q t
/-- WHAT COMES BACK, over the tables of the start Z: h the heap at the call, h' behind it -/
def Q (Z : State) (x : Addr) (A : Cell) (h : Heap) (v : Option Value) (h' : Heap) (L : List Loc) : Prop := v = none ∧ (∀ y ∈ L, y.base = x) ∧ RoadKit.Keep h h' [x] ∧ h'.size = h.size + 1 ∧ RoadKit.Exa Z h' x ST ∧ RoadKit.Fld Z h' x ST "value" "[B" (.ref h.size) ∧ RoadKit.Fld Z h' x ST "coder" "B" (.int 0) ∧
  (∃ V : Cell, RoadKit.Arr Z h' h.size V .byte ∧ V.vm = .none ∧ Z.vm.findClass "[B" = some V.cls ∧ V.slots.size = A.slots.size ∧ ∀ j, j < A.slots.size → V.slots[j]? = some (.int (lo8 (cv A j)))) ∧
  ∀ (O n d : String) (w : Value), RoadKit.Fld Z h x O n d w → RoadKit.slotOf Z O n d ≠ RoadKit.slotOf Z ST "value" "[B" → RoadKit.slotOf Z O n d ≠ RoadKit.slotOf Z ST "coder" "B" → RoadKit.Fld Z h' x O n d w
/-- **new String(chars) AT A CALL, IN THE ROAD'S FORM**: for specialBack behind newO: x the fresh String, b the char[] with the cell A -/
theorem back {p : Program} {l : Launch} {e : Env} {R : Room} {s : State} {args : Array Value} {below : List Frame} {len W : Nat} {Z : State} {a0 : Array Value} {h : Heap} (hZ : Z.Warmed39 s.vm) (hw : ∀ d ∈ words, d.before a0 Z = true) {kI : Nat} (wi : (Jvm.Cond.instantiable ST kI).before a0 Z = true)
    {x b : Addr} {A : Cell} {z : Int32} {v0 c0 : Value} (E : RoadKit.Exa Z h x ST) (V : RoadKit.Fld Z h x ST "value" "[B" v0) (C : RoadKit.Fld Z h x ST "coder" "B" c0) (K : RoadKit.Arr Z h b A .char) (hty : Typed .char A) (S : RoadKit.Sta Z h ST "COMPACT_STRINGS" "Z" (.int z)) (hz : ¬ z = 0)
    (l0 : 0 < A.slots.size) (l2 : A.slots.size ≤ 536870912) (hp : ∀ i, i < A.slots.size → ¬ 255 < cv A i) (hfr : 4 ≤ R.frames) (hlo : W + 65 ≤ R.locals) :
    Back l R p e below s args New1.yN len W (fun P a => a = #[.ref x, .ref b] ∧ P.U.heap = h ∧ P.cells + 1 ≤ R.cells ∧ P.slots + A.slots.size ≤ R.slots)
      (fun P _ v B => ∃ L, Q Z x A h v B.U.heap L ∧ B.locs = P.locs ++ L ∧ B.cells = P.cells + 1 ∧ B.slots = P.slots + A.slots.size) := by
  intro m meth c P g ig mk a X hg hsize hdg hW hn hp'
  obtain ⟨rfl, rfl, r1, r2⟩ := hp'
  have al : Z.vm.Alike P.U.vm := hZ.alike.trans X.warmed.alike
  obtain ⟨D, cfV, kV, iV, fV, hD, gV, stV, knV, obV, asV, slV⟩ := id V
  obtain ⟨D', cfC, kC, iC, fC, hD', gC, stC, -, -, asC, slC⟩ := id C
  cases hD.symm.trans hD'
  obtain ⟨D2, kD, e1, e2, e3, e4, e5⟩ := id E
  cases hD.symm.trans e1
  obtain ⟨c2, k2, i1, i2, i3, -⟩ := Cond.instantiable_spec wi
  cases e2.symm.trans i1
  cases e3.symm.trans i2
  obtain ⟨kU, u1, u2⟩ := al.2.2 _ _ e3
  have hB : Blank ST x D P.U := ⟨hD, ⟨knV, fun q hq => by rw [hq] at obV; cases obV⟩, by rw [al.findClass]; exact e2, kU, u1, by rw [u2]; exact i3, by rw [u2]; exact e5 i3⟩
  have F1 : Found ST "value" "[B" fV P.U := ⟨SBG.found_only al ⟨cfV, kV, iV, gV⟩, stV⟩
  have F2 : Found ST "coder" "B" fC P.U := ⟨SBG.found_only al ⟨cfC, kC, iC, gC⟩, stC⟩
  have hA : Ch b A P.U := ⟨⟨K.1, State.isArrayOf_alike al K.2.1, K.2.2, by omega⟩, hty⟩
  have hS : StaticIs P.U ST "COMPACT_STRINGS" "Z" (.int z) := by
    obtain ⟨cfS, iS, kS, fS, st, cS, t1, t2, t3, t4, t5, t6, t7⟩ := S
    exact StaticIs.there (s := { Z with heap := P.U.heap }) ⟨cfS, iS, kS, fS, st, cS, t1, t2, t3, t4, t5, (fun q => by rw [q] at t6; cases t6), t7⟩ al rfl
  obtain ⟨v, B, X', ⟨⟨hv, E', V', q1, q2, q3, q4, q5, q6, q7, q8, q9, q10, q11⟩, hl, hc, hs⟩, st⟩ := New1.pays x D fV fC b A z (tab_of (moved hZ hw)) hfr hlo m meth c P g ig mk _ X hg hsize hdg hW hn ⟨r1, r2, rfl, hB, F1, F2, hA, hS, hz, l0, l2, hp⟩
  have al' : Z.vm.Alike B.U.vm := hZ.alike.trans X'.warmed.alike
  have hsz : E'.slots.size = D.slots.size := by
    obtain ⟨-, -, -, kB, w1, w2, w3⟩ := q1
    obtain ⟨kB', y1, y2⟩ := al'.2.2 _ _ e3
    rw [q2.2.1] at w1
    cases w1.symm.trans y1
    rw [w3, e5 i3, y2]
  refine ⟨v, B, X', ⟨_, ⟨hv, ?_, ⟨by omega, fun y cy hy hn' => q10 y cy (by simpa using hn') hy, fun y cy hy => ?_⟩, q11, ⟨E', _, q1.1, by rw [q2.2.1]; exact e2, by rw [q2.2.1]; exact e3, by rw [q2.1]; exact obV, fun _ => by rw [hsz]; exact e5 i3⟩,
    ⟨E', cfV, kV, iV, fV, q1.1, gV, stV, by rw [q2.1]; exact knV, by rw [q2.1]; exact obV, by rw [q2.2.1]; exact asV, q3⟩, ⟨E', cfC, kC, iC, fC, q1.1, gC, stC, by rw [q2.1]; exact knV, by rw [q2.1]; exact obV, by rw [q2.2.1]; exact asC, q4⟩,
    ⟨V', ⟨q5.1, State.isArrayOf_alike al'.symm q5.2.1, q5.2.2.1⟩, q6, by rw [← al'.findClass]; exact q7, q8, fun j hj => by have := q9 j hj; rwa [Nat.zero_add] at this⟩, fun O n d w F n1 n2 => ?_⟩, hl, hc, hs⟩, st⟩
  · intro y hy
    simp only [List.mem_cons, List.not_mem_nil, or_false] at hy
    rcases hy with rfl | rfl <;> rfl
  · by_cases q : y = x
    · subst q
      cases hD.symm.trans hy
      exact ⟨E', q1.1, q2.2.1, q2.1, hsz⟩
    · exact ⟨cy, q10 y cy q hy, rfl, rfl, rfl⟩
  · obtain ⟨D3, cf, k, i, f, g1, g2, g3, g4, g5, g6, g7⟩ := F
    cases hD.symm.trans g1
    simp only [RoadKit.slotOf, g2, gV, gC, Option.map_some, Option.getD_some] at n1 n2
    exact ⟨E', cf, k, i, f, q1.1, g2, g3, by rw [q2.1]; exact g4, by rw [q2.1]; exact g5, by rw [q2.2.1]; exact g6, by rw [q2.2.2 f.slot (by simp [n1, n2])]; exact g7⟩
end StrChars.Road
namespace StrChars.Road
open Jvm Sem ClassFile Op Lib Jvm.Stand Jvm.Free Jvm.Free.XT
/-- WHAT COMES BACK, the byte[] as a list of values -/
def QA (Z : State) (x : Addr) (zn : Int32) (cs : List Int32) (h : Heap) (v : Option Value) (h' : Heap) (L : List Loc) : Prop := v = none ∧ (∀ y ∈ L, y.base = x) ∧ RoadKit.Keep h h' [x] ∧ h'.size = h.size + 1 ∧ RoadKit.Exa Z h' x ST ∧ RoadKit.Fld Z h' x ST "value" "[B" (.ref h.size) ∧ RoadKit.Fld Z h' x ST "coder" "B" (.int 0) ∧
  (∃ kb, Z.vm.findClass "[B" = some kb ∧ RoadKit.Arv Z h' h.size kb .byte zn (cs.map fun c => .int (lo8 c)) (.int 0)) ∧
  ∀ (O n d : String) (w : Value), RoadKit.Fld Z h x O n d w → RoadKit.slotOf Z O n d ≠ RoadKit.slotOf Z ST "value" "[B" → RoadKit.slotOf Z O n d ≠ RoadKit.slotOf Z ST "coder" "B" → RoadKit.Fld Z h' x O n d w
/-- **new String(chars) AT A CALL, THE ARRAYS AS LISTS**: the char[] at b holds cs, not empty, no char above 255 -/
theorem backArv {p : Program} {l : Launch} {e : Env} {R : Room} {s : State} {args : Array Value} {below : List Frame} {len W : Nat} {Z : State} {a0 : Array Value} {h : Heap} (hZ : Z.Warmed39 s.vm) (hw : ∀ d ∈ words, d.before a0 Z = true) {kI : Nat} (wi : (Jvm.Cond.instantiable ST kI).before a0 Z = true)
    {x b : Addr} {k : ClassId} {zn z : Int32} {cs : List Int32} {dv v0 c0 : Value} (E : RoadKit.Exa Z h x ST) (V : RoadKit.Fld Z h x ST "value" "[B" v0) (C : RoadKit.Fld Z h x ST "coder" "B" c0) (K : RoadKit.Arv Z h b k .char zn (cs.map Value.int) dv) (S : RoadKit.Sta Z h ST "COMPACT_STRINGS" "Z" (.int z)) (hz : ¬ z = 0)
    (hlen : zn.toNatClampNeg = cs.length) (h0 : 0 < cs.length) (hbig : cs.length ≤ 536870912) (hall : ∀ c ∈ cs, ¬ 255 < c) (hfr : 4 ≤ R.frames) (hlo : W + 65 ≤ R.locals) :
    Back l R p e below s args New1.yN len W (fun P a => a = #[.ref x, .ref b] ∧ P.U.heap = h ∧ P.cells + 1 ≤ R.cells ∧ P.slots + cs.length ≤ R.slots)
      (fun P _ v B => ∃ L, QA Z x zn cs h v B.U.heap L ∧ B.locs = P.locs ++ L ∧ B.cells = P.cells + 1 ∧ B.slots = P.slots + cs.length) := by
  obtain ⟨A, K1, K2, K3, K4, K5, K6⟩ := K
  have e : A.slots.size = cs.length := K3.trans hlen
  have hat : ∀ (i : Nat) (hi : i < cs.length), A.slots[i]? = some (.int cs[i]) := fun i hi => by rw [K5 i (by omega)]; simp [List.getD_eq_getElem?_getD, hi]
  have hcv : ∀ (i : Nat) (hi : i < cs.length), cv A i = cs[i] := fun i hi => by unfold cv; rw [hat i hi]
  have hty : Typed .char A := fun i v hv => by
    have hi : i < A.slots.size := (Array.getElem?_eq_some_iff.mp hv).1
    have q := K5 i hi
    rw [hv] at q
    rw [Option.some.inj q]
    exact K6 i hi
  refine Back.mono (back hZ hw wi E V C K1 hty S hz (by omega) (by omega) (fun i hi => by rw [hcv i (by omega)]; exact hall _ (List.getElem_mem _)) hfr hlo) (fun P a hp => ⟨hp.1, hp.2.1, hp.2.2.1, by rw [e]; exact hp.2.2.2⟩) (fun P a v B hp hq => ?_)
  obtain ⟨L, ⟨q1, q2, q3, q4, q5, q6, q7, ⟨V', v1, v2, v3, v4, v5⟩, q9⟩, hl, hc, hs⟩ := hq
  refine ⟨L, ⟨q1, q2, q3, q4, q5, q6, q7, ⟨V'.cls, v3, V', v1, rfl, by rw [v4, e, hlen], K4, fun i hi => ?_, fun i hi => ?_⟩, q9⟩, hl, hc, by rw [hs, e]⟩
  · have hi' : i < cs.length := by omega
    rw [v5 i (by omega), hcv i hi']; simp [List.getD_eq_getElem?_getD, hi']
  · have hi' : i < cs.length := by omega
    simp only [List.getD_eq_getElem?_getD, List.getElem?_map, List.getElem?_eq_getElem hi', Option.map_some, Option.getD_some]
    exact fits_lo8 _
end StrChars.Road
namespace StrChars.Road
open Jvm Sem ClassFile Op Lib Jvm.Stand Jvm.Free Jvm.Free.XT
/-- WHAT COMES BACK, in the writer's own shape -/
def QV (Z : State) (x : Addr) (N : Int32) (bs : List Int32) (h : Heap) (n0 : Nat) (v : Option Value) (h' : Heap) (L : List Loc) : Prop := v = none ∧ RoadKit.Fr n0 L ∧ RoadKit.Keep h h' [x] ∧ RoadKit.Exa Z h' x ST ∧ RoadKit.Fld Z h' x ST "coder" "B" (.int 0) ∧
  ∃ (t : Addr) (kb : ClassId), n0 ≤ t ∧ h.size ≤ t ∧ ¬ t = x ∧ RoadKit.Fld Z h' x ST "value" "[B" (.ref t) ∧ RoadKit.Arv Z h' t kb .byte N (bs.map Value.int) (.int 0)
/-- **new String(chars) AT A CALL, FOR THE WRITER**: a char[] of n known ints, each 0 to 255 -/
theorem backV {p : Program} {l : Launch} {e : Env} {R : Room} {s : State} {args : Array Value} {below : List Frame} {len W : Nat} {Z : State} {a0 : Array Value} {h : Heap} (hZ : Z.Warmed39 s.vm) (hw : ∀ d ∈ words, d.before a0 Z = true) {kI : Nat} (wi : (Jvm.Cond.instantiable ST kI).before a0 Z = true)
    {x b : Addr} {kC : ClassId} {cs bs : List Int32} {d v0 c0 : Value} {z N : Int32} {n n0 : Nat} (hx0 : n0 ≤ x) (hh0 : n0 ≤ h.size) (E : RoadKit.Exa Z h x ST) (V : RoadKit.Fld Z h x ST "value" "[B" v0) (C : RoadKit.Fld Z h x ST "coder" "B" c0) (K : RoadKit.Arv Z h b kC .char N (cs.map Value.int) d) (S : RoadKit.Sta Z h ST "COMPACT_STRINGS" "Z" (.int z)) (hz : ¬ z = 0)
    (hn : cs.length = n) (hN : N = Int32.ofNat n) (l0 : 0 < n) (l2 : n ≤ 4000) (hp : ∀ c ∈ cs, ¬ c < 0 ∧ ¬ (255 : Int32) < c) (hb : bs = cs.map (fun c => c.toInt8.toInt32)) (hfr : 4 ≤ R.frames) (hlo : W + 65 ≤ R.locals) :
    Back l R p e below s args (⟨"java/lang/String", "<init>", "([C)V"⟩ : MethodName) len W (fun P a => a = #[.ref x, .ref b] ∧ P.U.heap = h ∧ P.cells + 1 ≤ R.cells ∧ P.slots + n ≤ R.slots)
      (fun P _ v B => ∃ L, QV Z x N bs h n0 v B.U.heap L ∧ B.locs = P.locs ++ L ∧ B.cells = P.cells + 1 ∧ B.slots = P.slots + n) := by
  subst hn hN hb
  refine Back.mono (backArv hZ hw wi E V C K S hz (n32 (by omega)) l0 (by omega) (fun c hc => (hp c hc).2) hfr hlo) (fun P a hp => hp) (fun P a v B hp hq => ?_)
  obtain ⟨L, ⟨q1, q2, q3, q4, q5, q6, q7, ⟨kb, v1, v2⟩, q9⟩, hl, hc, hs⟩ := hq
  exact ⟨L, ⟨q1, fun y hy => by rw [q2 y hy]; exact hx0, q3, q5, q7, h.size, kb, hh0, Nat.le_refl _, Nat.ne_of_gt E.lt, q6, by rw [List.map_map]; exact v2⟩, hl, hc, hs⟩
end StrChars.Road
end Jvm.Pilot.@@N@@
namespace Jvm.Pilot.@@N@@
set_option maxRecDepth 65536
set_option maxHeartbeats 40000000
open Jvm Jvm.ClassFile Sem Op Lib Jvm.Free Jvm.Stand Jvm.LawKit Jvm.RoadKit Bundle Jvm.Pilot.@@N@@.Jvm.D
abbrev own_W (a0 : Array Value) (Z : State) : Prop := ∀ d ∈ tables_1, d.before a0 Z = true
theorem own_i32 {x : Int32} (k : Int32) {n : Int} (e : k.toInt = n) (h : x.toInt = n) : x = k := Int32.toInt_inj.mp (h.trans e.symm)
section Own
variable {p : Program} {l : Launch} {e : Env} {R : Room} {s : State} {m : MethodId} {args : Array Value} {below : List Frame} {meth : Method} {c : Code} {T T' : State} {locs : List Loc} {cells slots : Nat} {Z : State} {a0 : Array Value} {h : Heap} {P : Outcome → State → Prop}
theorem own_hw {L : List Jvm.Cond} (hw : ∀ d ∈ L, d.before a0 Z = true) (i : Nat) {d : Jvm.Cond} (q : L[i]? = some d) : d.before a0 Z = true := hw d (List.mem_of_getElem? q)
/-- from here the run comes to an end that P allows -/
def own_Go (p : Program) (e : Env) (below : List Frame) (P : Outcome → State → Prop) (T : State) (g : JFrame) : Prop :=
  ∃ s₂ o, Steps p.tables e below (T.setTop g) s₂ ∧ s₂.status = .running ∧ Ended s₂ below o ∧ P o s₂
theorem own_go {g g' : JFrame} (h : ∀ t, Steps p.tables e below (T'.setTop g') t → Steps p.tables e below (T.setTop g) t) (k : own_Go p e below P T' g') : own_Go p e below P T g := by
  obtain ⟨s₂, o, h1, h2⟩ := k
  exact ⟨s₂, o, h _ h1, h2⟩
theorem own_cut {α : Type} {g : JFrame} {F : α → JFrame} (tl : ∀ v, own_Go p e below P T (F v)) (k : (∀ v, own_Go p e below P T (F v)) → own_Go p e below P T g) : own_Go p e below P T g := k tl
theorem own_laid1 {v : Value} (h : v.isRef = true) : Jvm.Sym.laidSlots [v] = [.val v] := by
  have hc : ¬ v.category = 2 := by cases v <;> first | (intro q; cases q; done) | (cases h; done)
  show (if v.category = 2 then Slot.val v :: .second :: Jvm.Sym.laidSlots [] else Slot.val v :: Jvm.Sym.laidSlots []) = _
  rw [if_neg hc]; rfl
theorem own_frame {m : MethodId} {as' : Array Value} {n : Nat} {L : List Slot} {ls : Array Slot} (hl : Jvm.Sym.laidSlots as'.toList = L) (h : L ++ List.replicate (n - L.length) .unset = ls.toList) : entryFrame m as' n = mkF m 0 ls [] := by
  show mkF m 0 (argsToLocals as' n) [] = _
  have e := Jvm.Sym.argsToLocals_toList as' n
  rw [hl] at e
  rw [show argsToLocals as' n = ls from Array.toList_inj.mp (e.trans h)]
theorem own_cast {g g' : JFrame} (q : g = g') (k : own_Go p e below P T g') : own_Go p e below P T g := q ▸ k
/-- what a body leaves: Q of its answer, of the heap and of the places written; no more cells and slots than k and n -/
def own_End (s : State) (Q : Option Value → Heap → List Loc → Prop) (k n : Nat) (o : Outcome) (t : State) : Prop := ∃ v L, o = .returned v ∧ Q v t.heap L ∧ FrameEnd s o t L k n
/-- a body's contract, at one heap and one list of arguments -/
def own_Met (l : Launch) (Z : State) (y : MethodName) (bytes : ByteArray) (maxL : Nat) (ret : Option FieldType) (rm : Room) (as' : Array Value) (h0 : Heap) (Q : Option Value → Heap → List Loc → Prop) : Prop :=
  ∀ ws : List Jvm.Cond, MetFree l y (head1 (Jvm.Cond.code y bytes maxL ret :: ws) rm) (fun a U => a = as' ∧ Z.Warmed39 U.vm ∧ U.heap = h0) (fun _ _ _ _ _ => True) (fun _ U o U' => ∃ v L, o = .returned v ∧ Q v U'.heap L ∧ FrameEnd U o U' L rm.cells rm.slots)
theorem own_body {y : MethodName} {bytes : ByteArray} {maxL : Nat} {ret : Option FieldType} {rm : Room} {as' : Array Value} {h0 : Heap} {Q : Option Value → Heap → List Loc → Prop} (hp : plainFor y = true)
    (k : ∀ (p : Program) (e : Env) (s : State) (m : MethodId) (below : List Frame) (meth : Method) (c : Code) (T : State), Stand p l e rm s m as' below meth c T [] 0 0 → p.tables.exec = Jvm.exec → Z.Warmed39 s.vm → c.code = bytes → c.maxLocals = maxL → s.vm.findClass y.cls = some m.cls → meth.name = y.name →
      meth.sig.returnType = ret → meth.locks = false → T.heap = h0 → own_Go p e below (own_End s Q rm.cells rm.slots) T (entryFrame m as' maxL)) : own_Met l Z y bytes maxL ret rm as' h0 Q := by
  intro ws
  refine MetFree.of_bodySF hp hisR ?_
  intro p e s m args below meth c s₁ Bd hml0 hP hK
  obtain ⟨rfl, hZ, hh⟩ := hP
  exact k p e s m below meth c s₁ (Stand.of_body Bd) Bd.exec hZ Bd.bytes hml0 (findClass_of_methodNamed Bd.named) (name_of_methodNamed Bd.named Bd.method).1 Bd.returns Bd.notSynchronized (by rw [← hh, Bd.state]; rfl)
/-- a return with a value -/
theorem own_ret (X : Stand p l e R s m args below meth c T locs cells slots) (hx : p.tables.exec = Jvm.exec) {pc : Nat} {Ls : Array Slot} {w : Value} {t : FieldType} {i : Instr} {rest : List Value} (hret : meth.sig.returnType = some t) (hlk : meth.locks = false) (hd : decode c.code pc = .ok (i, 1)) (hn : narrow t w = w)
    (hi : (i = .ireturn ∧ (t = .int ∨ t = .boolean ∨ t = .byte ∨ t = .char ∨ t = .short) ∧ ∃ z, w = .int z) ∨ (i = .lreturn ∧ t = .long ∧ ∃ z, w = .long z) ∨ (i = .dreturn ∧ t = .double ∧ ∃ z, w = .double z) ∨ (i = .freturn ∧ t = .float ∧ ∃ z, w = .float z) ∨ (i = .areturn ∧ t.isReference = true ∧ w.isRef = true))
    {Q : Option Value → Heap → List Loc → Prop} {kc kn : Nat} (hc : cells ≤ kc) (hs : slots ≤ kn) (hQ : Q (some w) T.heap locs) : own_Go p e below (own_End s Q kc kn) T (mkF m pc Ls (w :: rest)) := by
  obtain ⟨fs, hr, hrun, hended, hW, hsame⟩ := X.leave (v := some w) (fun h => by rw [hret] at h; cases h) hlk
  exact ⟨_, _, retOut X hx hret hn hi hd hr, hrun, hended, _, _, rfl, hQ, ⟨_, rfl⟩, hW, hsame.mono hc hs⟩
theorem own_retI (X : Stand p l e R s m args below meth c T locs cells slots) (hx : p.tables.exec = Jvm.exec) {pc : Nat} {Ls : Array Slot} {z : Int32} {t : FieldType} {rest : List Value} (hret : meth.sig.returnType = some t) (hlk : meth.locks = false) (hd : decode c.code pc = .ok (.ireturn, 1)) (hn : narrow t (.int z) = .int z)
    (ht : t = .int ∨ t = .boolean ∨ t = .byte ∨ t = .char ∨ t = .short) {Q : Option Value → Heap → List Loc → Prop} {kc kn : Nat} (hc : cells ≤ kc) (hs : slots ≤ kn) (hQ : Q (some (.int z)) T.heap locs) : own_Go p e below (own_End s Q kc kn) T (mkF m pc Ls (.int z :: rest)) :=
  own_ret X hx hret hlk hd hn (Or.inl ⟨rfl, ht, z, rfl⟩) hc hs hQ
theorem own_retA (X : Stand p l e R s m args below meth c T locs cells slots) (hx : p.tables.exec = Jvm.exec) {pc : Nat} {Ls : Array Slot} {w : Value} {t : FieldType} {rest : List Value} (hret : meth.sig.returnType = some t) (hlk : meth.locks = false) (hd : decode c.code pc = .ok (.areturn, 1)) (ht : t.isReference = true) (hw : w.isRef = true)
    {Q : Option Value → Heap → List Loc → Prop} {kc kn : Nat} (hc : cells ≤ kc) (hs : slots ≤ kn) (hQ : Q (some w) T.heap locs) : own_Go p e below (own_End s Q kc kn) T (mkF m pc Ls (w :: rest)) :=
  own_ret X hx hret hlk hd (by cases t <;> first | rfl | (cases w <;> rfl) | (simp [FieldType.isReference] at ht)) (Or.inr (Or.inr (Or.inr (Or.inr ⟨rfl, ht, hw⟩)))) hc hs hQ
theorem own_retV (X : Stand p l e R s m args below meth c T locs cells slots) (hx : p.tables.exec = Jvm.exec) {pc : Nat} {Ls : Array Slot} (hret : meth.sig.returnType = none) (hlk : meth.locks = false) (hd : decode c.code pc = .ok (.return_, 1))
    {Q : Option Value → Heap → List Loc → Prop} {kc kn : Nat} (hc : cells ≤ kc) (hs : slots ≤ kn) (hQ : Q none T.heap locs) : own_Go p e below (own_End s Q kc kn) T (mkF m pc Ls []) := by
  obtain ⟨fs, hr, hrun, hended, hW, hsame⟩ := X.leave (v := none) (fun _ => rfl) hlk
  exact ⟨_, _, X.returnOut hx hret hd hr, hrun, hended, _, _, rfl, hQ, ⟨_, rfl⟩, hW, hsame.mono hc hs⟩
section Og
variable {pc : Nat} {Ls : Array Slot} {st : List Value}
theorem og_iload (X : Stand p l e R s m args below meth c T locs cells slots) (hx : p.tables.exec = Jvm.exec) {k : Nat} {v : Int32} (hd : decode c.code pc = .ok (.iload k, 2)) (hl : Ls[k]? = some (.val (.int v))) (kk : own_Go p e below P T (mkF m (pc + 2) Ls (.int v :: st))) : own_Go p e below P T (mkF m pc Ls st) :=
  own_go (fun _ q => XS.iload X.here hx rfl hd hl q) kk
theorem og_iloadN (X : Stand p l e R s m args below meth c T locs cells slots) (hx : p.tables.exec = Jvm.exec) {k : Fin 4} {v : Int32} (hd : decode c.code pc = .ok (.iload_n k, 1)) (hl : Ls[k.val]? = some (.val (.int v))) (kk : own_Go p e below P T (mkF m (pc + 1) Ls (.int v :: st))) : own_Go p e below P T (mkF m pc Ls st) :=
  own_go (fun _ q => XS.iloadN X.here hx rfl hd hl q) kk
theorem og_aload (X : Stand p l e R s m args below meth c T locs cells slots) (hx : p.tables.exec = Jvm.exec) {k : Nat} {v : Value} (hd : decode c.code pc = .ok (.aload k, 2)) (hl : Ls[k]? = some (.val v)) (hv : v.isRef = true) (kk : own_Go p e below P T (mkF m (pc + 2) Ls (v :: st))) : own_Go p e below P T (mkF m pc Ls st) :=
  own_go (fun _ q => XS.aload X.here hx rfl hd hl hv q) kk
theorem og_aloadN (X : Stand p l e R s m args below meth c T locs cells slots) (hx : p.tables.exec = Jvm.exec) {k : Fin 4} {v : Value} (hd : decode c.code pc = .ok (.aload_n k, 1)) (hl : Ls[k.val]? = some (.val v)) (hv : v.isRef = true) (kk : own_Go p e below P T (mkF m (pc + 1) Ls (v :: st))) : own_Go p e below P T (mkF m pc Ls st) :=
  own_go (fun _ q => XS.aloadN X.here hx rfl hd hl hv q) kk
theorem og_lload (X : Stand p l e R s m args below meth c T locs cells slots) (hx : p.tables.exec = Jvm.exec) {k : Nat} {v : Int64} (hd : decode c.code pc = .ok (.lload k, 2)) (hl : Ls[k]? = some (.val (.long v))) (kk : own_Go p e below P T (mkF m (pc + 2) Ls (.long v :: st))) : own_Go p e below P T (mkF m pc Ls st) :=
  own_go (fun _ q => XS.lload X.here hx rfl hd hl q) kk
theorem og_lloadN (X : Stand p l e R s m args below meth c T locs cells slots) (hx : p.tables.exec = Jvm.exec) {k : Fin 4} {v : Int64} (hd : decode c.code pc = .ok (.lload_n k, 1)) (hl : Ls[k.val]? = some (.val (.long v))) (kk : own_Go p e below P T (mkF m (pc + 1) Ls (.long v :: st))) : own_Go p e below P T (mkF m pc Ls st) :=
  own_go (fun _ q => XS.lloadN X.here hx rfl hd hl q) kk
theorem og_istore (X : Stand p l e R s m args below meth c T locs cells slots) (hx : p.tables.exec = Jvm.exec) {k : Nat} {x : Int32} (l' : Array Slot) (hd : decode c.code pc = .ok (.istore k, 2)) (hl : storeLocals Ls k (.int x) = some l') (kk : own_Go p e below P T (mkF m (pc + 2) l' st)) : own_Go p e below P T (mkF m pc Ls (.int x :: st)) :=
  own_go (fun _ q => XS.istore X.here hx rfl hd rfl hl q) kk
theorem og_istoreN (X : Stand p l e R s m args below meth c T locs cells slots) (hx : p.tables.exec = Jvm.exec) {k : Fin 4} {x : Int32} (l' : Array Slot) (hd : decode c.code pc = .ok (.istore_n k, 1)) (hl : storeLocals Ls k.val (.int x) = some l') (kk : own_Go p e below P T (mkF m (pc + 1) l' st)) : own_Go p e below P T (mkF m pc Ls (.int x :: st)) :=
  own_go (fun _ q => XS.istoreN X.here hx rfl hd rfl hl q) kk
theorem og_lstore (X : Stand p l e R s m args below meth c T locs cells slots) (hx : p.tables.exec = Jvm.exec) {k : Nat} {x : Int64} (l' : Array Slot) (hd : decode c.code pc = .ok (.lstore k, 2)) (hl : storeLocals Ls k (.long x) = some l') (kk : own_Go p e below P T (mkF m (pc + 2) l' st)) : own_Go p e below P T (mkF m pc Ls (.long x :: st)) :=
  own_go (fun _ q => XS.lstore X.here hx rfl hd rfl hl q) kk
theorem og_lstoreN (X : Stand p l e R s m args below meth c T locs cells slots) (hx : p.tables.exec = Jvm.exec) {k : Fin 4} {x : Int64} (l' : Array Slot) (hd : decode c.code pc = .ok (.lstore_n k, 1)) (hl : storeLocals Ls k.val (.long x) = some l') (kk : own_Go p e below P T (mkF m (pc + 1) l' st)) : own_Go p e below P T (mkF m pc Ls (.long x :: st)) :=
  own_go (fun _ q => XS.lstoreN X.here hx rfl hd rfl hl q) kk
theorem og_astore (X : Stand p l e R s m args below meth c T locs cells slots) (hx : p.tables.exec = Jvm.exec) {k : Nat} {x : Value} (l' : Array Slot) (hd : decode c.code pc = .ok (.astore k, 2)) (hv : x.isRef = true) (hl : storeLocals Ls k x = some l') (kk : own_Go p e below P T (mkF m (pc + 2) l' st)) : own_Go p e below P T (mkF m pc Ls (x :: st)) :=
  own_go (fun _ q => XS.astore X.here hx rfl hd rfl hv hl q) kk
theorem og_astoreN (X : Stand p l e R s m args below meth c T locs cells slots) (hx : p.tables.exec = Jvm.exec) {k : Fin 4} {x : Value} (l' : Array Slot) (hd : decode c.code pc = .ok (.astore_n k, 1)) (hv : x.isRef = true) (hl : storeLocals Ls k.val x = some l') (kk : own_Go p e below P T (mkF m (pc + 1) l' st)) : own_Go p e below P T (mkF m pc Ls (x :: st)) :=
  own_go (fun _ q => XS.astoreN X.here hx rfl hd rfl hv hl q) kk
theorem og_iconst (X : Stand p l e R s m args below meth c T locs cells slots) (hx : p.tables.exec = Jvm.exec) {i : Int} (hd : decode c.code pc = .ok (.iconst i, 1)) (kk : own_Go p e below P T (mkF m (pc + 1) Ls (.int (Int32.ofInt i) :: st))) : own_Go p e below P T (mkF m pc Ls st) :=
  own_go (fun _ q => XS.iconst X.here hx rfl hd q) kk
theorem og_bipush (X : Stand p l e R s m args below meth c T locs cells slots) (hx : p.tables.exec = Jvm.exec) {i : Int} (hd : decode c.code pc = .ok (.bipush i, 2)) (kk : own_Go p e below P T (mkF m (pc + 2) Ls (.int (Int8.ofInt i).toInt32 :: st))) : own_Go p e below P T (mkF m pc Ls st) :=
  own_go (fun _ q => XS.bipush X.here hx rfl hd q) kk
theorem og_sipush (X : Stand p l e R s m args below meth c T locs cells slots) (hx : p.tables.exec = Jvm.exec) {i : Int} (hd : decode c.code pc = .ok (.sipush i, 3)) (kk : own_Go p e below P T (mkF m (pc + 3) Ls (.int (Int16.ofInt i).toInt32 :: st))) : own_Go p e below P T (mkF m pc Ls st) :=
  own_go (fun _ q => XS.sipush X.here hx rfl hd q) kk
theorem og_lconst (X : Stand p l e R s m args below meth c T locs cells slots) (hx : p.tables.exec = Jvm.exec) {k : Fin 2} (hd : decode c.code pc = .ok (.lconst k, 1)) (kk : own_Go p e below P T (mkF m (pc + 1) Ls (.long (Int64.ofNat k) :: st))) : own_Go p e below P T (mkF m pc Ls st) :=
  own_go (fun _ q => XS.lconst X.here hx rfl hd q) kk
theorem og_null (X : Stand p l e R s m args below meth c T locs cells slots) (hx : p.tables.exec = Jvm.exec) (hd : decode c.code pc = .ok (.aconst_null, 1)) (kk : own_Go p e below P T (mkF m (pc + 1) Ls (.null :: st))) : own_Go p e below P T (mkF m pc Ls st) :=
  own_go (fun _ q => XS.aconstNull X.here hx rfl hd q) kk
theorem og_iadd (X : Stand p l e R s m args below meth c T locs cells slots) (hx : p.tables.exec = Jvm.exec) {x y : Int32} (hd : decode c.code pc = .ok (.iadd, 1)) (kk : own_Go p e below P T (mkF m (pc + 1) Ls (.int (x + y) :: st))) : own_Go p e below P T (mkF m pc Ls (.int y :: .int x :: st)) :=
  own_go (fun _ q => XS.iadd X.here hx rfl hd rfl q) kk
theorem og_isub (X : Stand p l e R s m args below meth c T locs cells slots) (hx : p.tables.exec = Jvm.exec) {x y : Int32} (hd : decode c.code pc = .ok (.isub, 1)) (kk : own_Go p e below P T (mkF m (pc + 1) Ls (.int (x - y) :: st))) : own_Go p e below P T (mkF m pc Ls (.int y :: .int x :: st)) :=
  own_go (fun _ q => XS.isub X.here hx rfl hd rfl q) kk
theorem og_iand (X : Stand p l e R s m args below meth c T locs cells slots) (hx : p.tables.exec = Jvm.exec) {x y : Int32} (hd : decode c.code pc = .ok (.iand, 1)) (kk : own_Go p e below P T (mkF m (pc + 1) Ls (.int (x &&& y) :: st))) : own_Go p e below P T (mkF m pc Ls (.int y :: .int x :: st)) :=
  own_go (fun _ q => XS.iand X.here hx rfl hd rfl q) kk
theorem og_imul (X : Stand p l e R s m args below meth c T locs cells slots) (hx : p.tables.exec = Jvm.exec) {x y : Int32} (hd : decode c.code pc = .ok (.imul, 1)) (kk : own_Go p e below P T (mkF m (pc + 1) Ls (.int (x * y) :: st))) : own_Go p e below P T (mkF m pc Ls (.int y :: .int x :: st)) :=
  own_go (fun _ q => XS.imul X.here hx rfl hd rfl q) kk
theorem og_ior (X : Stand p l e R s m args below meth c T locs cells slots) (hx : p.tables.exec = Jvm.exec) {x y : Int32} (hd : decode c.code pc = .ok (.ior, 1)) (kk : own_Go p e below P T (mkF m (pc + 1) Ls (.int (x ||| y) :: st))) : own_Go p e below P T (mkF m pc Ls (.int y :: .int x :: st)) :=
  own_go (fun _ q => XS.ior X.here hx rfl hd rfl q) kk
theorem og_ixor (X : Stand p l e R s m args below meth c T locs cells slots) (hx : p.tables.exec = Jvm.exec) {x y : Int32} (hd : decode c.code pc = .ok (.ixor, 1)) (kk : own_Go p e below P T (mkF m (pc + 1) Ls (.int (x ^^^ y) :: st))) : own_Go p e below P T (mkF m pc Ls (.int y :: .int x :: st)) :=
  own_go (fun _ q => XS.ixor X.here hx rfl hd rfl q) kk
theorem og_dup (X : Stand p l e R s m args below meth c T locs cells slots) (hx : p.tables.exec = Jvm.exec) {x : Value} (hd : decode c.code pc = .ok (.dup, 1)) (hc : x.category = 1) (kk : own_Go p e below P T (mkF m (pc + 1) Ls (x :: x :: st))) : own_Go p e below P T (mkF m pc Ls (x :: st)) :=
  own_go (fun _ q => XS.dup X.here hx rfl hd rfl hc q) kk
theorem og_pop (X : Stand p l e R s m args below meth c T locs cells slots) (hx : p.tables.exec = Jvm.exec) {x : Value} (hd : decode c.code pc = .ok (.pop, 1)) (hc : x.category = 1) (kk : own_Go p e below P T (mkF m (pc + 1) Ls st)) : own_Go p e below P T (mkF m pc Ls (x :: st)) :=
  own_go (fun _ q => XS.pop X.here hx rfl hd rfl hc q) kk
theorem og_goto (X : Stand p l e R s m args below meth c T locs cells slots) (hx : p.tables.exec = Jvm.exec) {o : Int} (pc' : Nat) (hd : decode c.code pc = .ok (.goto o, 3)) (ho : 0 ≤ (pc : Int) + o) (hp : ((pc : Int) + o).toNat = pc') (kk : own_Go p e below P T (mkF m pc' Ls st)) : own_Go p e below P T (mkF m pc Ls st) :=
  own_go (fun _ q => XS.goto X.here hx rfl rfl hd ho hp q) kk
theorem og_ifN (X : Stand p l e R s m args below meth c T locs cells slots) (hx : p.tables.exec = Jvm.exec) {cd : ClassFile.Cond} {o : Int} {x : Int32} (hd : decode c.code pc = .ok (.ifCond cd o, 3)) (hc : if_icmp.holds cd x 0 = false) (kk : own_Go p e below P T (mkF m (pc + 3) Ls st)) : own_Go p e below P T (mkF m pc Ls (.int x :: st)) :=
  own_go (fun _ q => XS.ifNo X.here hx rfl hd rfl ((if0 _ _).trans hc) q) kk
theorem og_ifY (X : Stand p l e R s m args below meth c T locs cells slots) (hx : p.tables.exec = Jvm.exec) {cd : ClassFile.Cond} {o : Int} {x : Int32} (pc' : Nat) (hd : decode c.code pc = .ok (.ifCond cd o, 3)) (hc : if_icmp.holds cd x 0 = true) (ho : 0 ≤ (pc : Int) + o) (hp : ((pc : Int) + o).toNat = pc') (kk : own_Go p e below P T (mkF m pc' Ls st)) : own_Go p e below P T (mkF m pc Ls (.int x :: st)) :=
  own_go (fun _ q => XS.ifYes X.here hx rfl rfl hd rfl ((if0 _ _).trans hc) ho hp q) kk
theorem og_icN (X : Stand p l e R s m args below meth c T locs cells slots) (hx : p.tables.exec = Jvm.exec) {cd : ClassFile.Cond} {o : Int} {x y : Int32} (hd : decode c.code pc = .ok (.if_icmp cd o, 3)) (hc : if_icmp.holds cd x y = false) (kk : own_Go p e below P T (mkF m (pc + 3) Ls st)) : own_Go p e below P T (mkF m pc Ls (.int y :: .int x :: st)) :=
  own_go (fun _ q => XS.icmpNo X.here hx rfl hd rfl hc q) kk
theorem og_icY (X : Stand p l e R s m args below meth c T locs cells slots) (hx : p.tables.exec = Jvm.exec) {cd : ClassFile.Cond} {o : Int} {x y : Int32} (pc' : Nat) (hd : decode c.code pc = .ok (.if_icmp cd o, 3)) (hc : if_icmp.holds cd x y = true) (ho : 0 ≤ (pc : Int) + o) (hp : ((pc : Int) + o).toNat = pc') (kk : own_Go p e below P T (mkF m pc' Ls st)) : own_Go p e below P T (mkF m pc Ls (.int y :: .int x :: st)) :=
  own_go (fun _ q => XS.icmpYes X.here hx rfl rfl hd rfl hc ho hp q) kk
theorem og_ifnullY (X : Stand p l e R s m args below meth c T locs cells slots) (hx : p.tables.exec = Jvm.exec) {o : Int} (pc' : Nat) (hd : decode c.code pc = .ok (.ifnull o, 3)) (ho : 0 ≤ (pc : Int) + o) (hp : ((pc : Int) + o).toNat = pc') (kk : own_Go p e below P T (mkF m pc' Ls st)) : own_Go p e below P T (mkF m pc Ls (.null :: st)) :=
  own_go (fun _ q => XS.ifnullYes X.here hx rfl rfl hd rfl ho hp q) kk
theorem og_ifnullN (X : Stand p l e R s m args below meth c T locs cells slots) (hx : p.tables.exec = Jvm.exec) {b : Addr} {o : Int} (hd : decode c.code pc = .ok (.ifnull o, 3)) (kk : own_Go p e below P T (mkF m (pc + 3) Ls st)) : own_Go p e below P T (mkF m pc Ls (.ref b :: st)) :=
  own_go (fun _ q => XS.ifnullNo X.here hx rfl hd rfl q) kk
theorem og_ifnonnullY (X : Stand p l e R s m args below meth c T locs cells slots) (hx : p.tables.exec = Jvm.exec) {b : Addr} {o : Int} (pc' : Nat) (hd : decode c.code pc = .ok (.ifnonnull o, 3)) (ho : 0 ≤ (pc : Int) + o) (hp : ((pc : Int) + o).toNat = pc') (kk : own_Go p e below P T (mkF m pc' Ls st)) : own_Go p e below P T (mkF m pc Ls (.ref b :: st)) :=
  own_go (fun _ q => XS.ifnonnullYes X.here hx rfl rfl hd rfl ho hp q) kk
theorem og_ifnonnullN (X : Stand p l e R s m args below meth c T locs cells slots) (hx : p.tables.exec = Jvm.exec) {o : Int} (hd : decode c.code pc = .ok (.ifnonnull o, 3)) (kk : own_Go p e below P T (mkF m (pc + 3) Ls st)) : own_Go p e below P T (mkF m pc Ls (.null :: st)) :=
  own_go (fun _ q => XS.ifnonnullNo X.here hx rfl hd rfl q) kk
theorem og_getF (X : Stand p l e R s m args below meth c T locs cells slots) (hx : p.tables.exec = Jvm.exec) (hZ : Z.Warmed39 s.vm) {own R0 O n d : String} {index : Nat} (hown : s.vm.findClass own = some m.cls) (w : (Jvm.Cond.fieldLink own index R0 n d).before a0 Z = true) (via : Via Z R0 O n d) (eT : T.heap = h) {a : Addr} {v : Value} (F : Fld Z h a O n d v) (hd : decode c.code pc = .ok (.getfield index, 3))
    (kk : ∀ T', Stand p l e R s m args below meth c T' locs cells slots → T'.heap = h → own_Go p e below P T' (mkF m (pc + 3) Ls (v :: st))) : own_Go p e below P T (mkF m pc Ls (.ref a :: st)) := by
  obtain ⟨T', X', e', stp⟩ := getF X hx hZ hown (host := "") (Or.inl w) via eT F (g := mkF m pc Ls (.ref a :: st)) rfl rfl hd
  exact own_go stp (kk T' X' e')
theorem og_getS (X : Stand p l e R s m args below meth c T locs cells slots) (hx : p.tables.exec = Jvm.exec) (hZ : Z.Warmed39 s.vm) {own R0 O n d : String} {index : Nat} (hown : s.vm.findClass own = some m.cls) (w : (Jvm.Cond.fieldLink own index R0 n d).before a0 Z = true) (via : Via Z R0 O n d) (eT : T.heap = h) {v : Value} (F : Sta Z h O n d v) (hd : decode c.code pc = .ok (.getstatic index, 3))
    (kk : ∀ T', Stand p l e R s m args below meth c T' locs cells slots → T'.heap = h → own_Go p e below P T' (mkF m (pc + 3) Ls (v :: st))) : own_Go p e below P T (mkF m pc Ls st) := by
  obtain ⟨T', X', e', stp⟩ := getS2 X hx hZ hown (host := "") (Or.inl w) via eT F (g := mkF m pc Ls st) rfl hd
  exact own_go stp (kk T' X' e')
theorem og_ldcI (X : Stand p l e R s m args below meth c T locs cells slots) (hx : p.tables.exec = Jvm.exec) (hZ : Z.Warmed39 s.vm) {own : String} {index : Nat} {v : Int32} (hown : s.vm.findClass own = some m.cls) (w : (Jvm.Cond.constant own index v).before a0 Z = true) (hd : decode c.code pc = .ok (.ldc index, 2)) (kk : own_Go p e below P T (mkF m (pc + 2) Ls (.int v :: st))) : own_Go p e below P T (mkF m pc Ls st) :=
  own_go (fun _ q => X.ldcI hx hown (mvT hZ w) rfl hd q) kk
theorem og_iremM (X : Stand p l e R s m args below meth c T locs cells slots) (hx : p.tables.exec = Jvm.exec) {x y : Int32} (hd : decode c.code pc = .ok (.irem, 1)) (hy : y ≠ 0) (kk : own_Go p e below P T (mkF m (pc + 1) Ls (.int (x % y) :: st))) : own_Go p e below P T (mkF m pc Ls (.int y :: .int x :: st)) :=
  own_go (fun _ q => iremM X hx rfl hd rfl hy q) kk
theorem og_acmp (X : Stand p l e R s m args below meth c T locs cells slots) (hx : p.tables.exec = Jvm.exec) {cd : ACond} {x y : Value} {o : Int} {pc' : Nat} {same : Bool} (h1 : x.isRef = true) (h2 : y.isRef = true) (hd : decode c.code pc = .ok (.if_acmp cd o, 3)) (hq : decide (x = y) = same) (ho : 0 ≤ (pc : Int) + o) (hp : pc' = if acV cd same = true then ((pc : Int) + o).toNat else pc + 3)
    (kk : own_Go p e below P T (mkF m pc' Ls st)) : own_Go p e below P T (mkF m pc Ls (y :: x :: st)) :=
  own_go (fun _ q => Jvm.RoadKit.acmp (g := mkF m pc Ls (y :: x :: st)) X hx rfl h1 h2 rfl hd rfl hq ho hp q) kk
end Og
/-! the calls: by a Back (..B), or by a body's own contract -/
theorem own_callSB (X : Stand p l e R s m args below meth c T locs cells slots) (hx : p.tables.exec = Jvm.exec) (hZ : Z.Warmed39 s.vm) {own : String} {index : Nat} {y : MethodName} {bytes : ByteArray} {maxL : Nat} {ret : Option FieldType} (hown : s.vm.findClass own = some m.cls)
    (w1 : (Jvm.Cond.methodLink own index y).before a0 Z = true) (w2 : (Jvm.Cond.static y).before a0 Z = true) (w3 : (Jvm.Cond.initialized y.cls).before a0 Z = true) (w4 : (Jvm.Cond.code y bytes maxL ret).before a0 Z = true) (hy : y.cls ≠ "java/lang/invoke/MethodHandle" ∧ y.cls ≠ "java/lang/invoke/VarHandle")
    {argsL rest : List Value} {Q : Option Value → Heap → List Loc → Prop} {kc kn W : Nat} (hK : Back l R p e below s args y 3 W (fun A a => a = (argsL).toArray ∧ A.U.heap = h ∧ A.cells + kc ≤ R.cells ∧ A.slots + kn ≤ R.slots) (fun A _ v B => ∃ L, Q v B.U.heap L ∧ B.locs = A.locs ++ L ∧ B.cells = A.cells + kc ∧ B.slots = A.slots + kn)) (eT : T.heap = h) {pc : Nat} {Ls : Array Slot} {st : List Value} (hsize : Ls.size = c.maxLocals)
    (hlen : ∀ sig, parseMethodDescriptor y.desc = some sig → argsL.length = sig.parameters.length) (hstack : st = argsL.reverse ++ rest) (hd : decode c.code pc = .ok (.invokestatic index, 3)) (hW : (rest.map fun v => v.category).sum ≤ W) (hc : cells + kc ≤ R.cells) (hs : slots + kn ≤ R.slots)
    (k : ∀ (v : Option Value) (T' : State) (L : List Loc), Stand p l e R s m args below meth c T' (locs ++ L) (cells + kc) (slots + kn) → Q v T'.heap L → own_Go p e below P T' (mkF m (pc + 3) Ls (v.toList ++ rest))) : own_Go p e below P T (mkF m pc Ls st) := by
  obtain ⟨v, _, ⟨T', L', k', n'⟩, -, X', ⟨Lc, hQ, l1, y1, z1⟩, stp⟩ := Jvm.LawKit.callS X hx (y := y) hown (mvT hZ w1) (mvT hZ w2) (mvT hZ w3) (mvT hZ w4) hy hK (g := mkF m pc Ls st) rfl hsize (argsL := argsL) (rest := rest) hlen hstack (by show 2 * 0 + _ ≤ _; omega) hd (fun _ _ => ⟨rfl, eT, hc, hs⟩)
  dsimp only [Pt.U, Pt.locs, Pt.cells, Pt.slots] at X' l1 y1 z1 stp hQ
  subst l1 y1 z1
  exact own_go stp (k v T' Lc X' hQ)
theorem own_callS (X : Stand p l e R s m args below meth c T locs cells slots) (hx : p.tables.exec = Jvm.exec) (hZ : Z.Warmed39 s.vm) {own : String} {index : Nat} {y : MethodName} {bytes : ByteArray} {maxL : Nat} {ret : Option FieldType} (hown : s.vm.findClass own = some m.cls)
    (w1 : (Jvm.Cond.methodLink own index y).before a0 Z = true) (w2 : (Jvm.Cond.static y).before a0 Z = true) (w3 : (Jvm.Cond.initialized y.cls).before a0 Z = true) (w4 : (Jvm.Cond.code y bytes maxL ret).before a0 Z = true) (hy : y.cls ≠ "java/lang/invoke/MethodHandle" ∧ y.cls ≠ "java/lang/invoke/VarHandle")
    {argsL rest : List Value} {rm : Room} {Q : Option Value → Heap → List Loc → Prop} (hM : own_Met l Z y bytes maxL ret rm (argsL).toArray h Q) (eT : T.heap = h) {pc : Nat} {Ls : Array Slot} {st : List Value} (hsize : Ls.size = c.maxLocals)
    (hlen : ∀ sig, parseMethodDescriptor y.desc = some sig → argsL.length = sig.parameters.length) (hstack : st = argsL.reverse ++ rest) (hd : decode c.code pc = .ok (.invokestatic index, 3)) {W : Nat} (hW : (rest.map fun v => v.category).sum ≤ W) (h4 : rm.frames + 1 ≤ R.frames ∧ W + (maxL + 11) + rm.locals ≤ R.locals ∧ cells + rm.cells ≤ R.cells ∧ slots + rm.slots ≤ R.slots)
    (k : ∀ (v : Option Value) (T' : State) (L : List Loc), Stand p l e R s m args below meth c T' (locs ++ L) (cells + rm.cells) (slots + rm.slots) → Q v T'.heap L → own_Go p e below P T' (mkF m (pc + 3) Ls (v.toList ++ rest))) : own_Go p e below P T (mkF m pc Ls st) :=
  own_callSB X hx hZ hown w1 w2 w3 w4 hy (backOf (W := W) (hM []) hZ w4 w3 h4.1 h4.2.1) eT hsize hlen hstack hd hW h4.2.2.1 h4.2.2.2 k
theorem own_callVB (X : Stand p l e R s m args below meth c T locs cells slots) (hx : p.tables.exec = Jvm.exec) (hZ : Z.Warmed39 s.vm) {own C : String} {index : Nat} {y z : MethodName} {bytes : ByteArray} {maxL : Nat} {ret : Option FieldType} (hown : s.vm.findClass own = some m.cls)
    (w1 : (Jvm.Cond.methodLink own index y).before a0 Z = true) (w2 : (Jvm.Cond.declares y).before a0 Z = true) (nf : NotFace s y) (w3 : (Jvm.Cond.selects C y z).before a0 Z = true) (w4 : (Jvm.Cond.instanceMethod z).before a0 Z = true) (w5 : (Jvm.Cond.code z bytes maxL ret).before a0 Z = true) (w6 : (Jvm.Cond.initialized z.cls).before a0 Z = true) (hy : y.cls ≠ "java/lang/invoke/MethodHandle" ∧ y.cls ≠ "java/lang/invoke/VarHandle")
    {b : Addr} {argsL rest : List Value} {Q : Option Value → Heap → List Loc → Prop} {kc kn W : Nat} (hK : Back l R p e below s args z 3 W (fun A a => a = (.ref b :: argsL).toArray ∧ A.U.heap = h ∧ A.cells + kc ≤ R.cells ∧ A.slots + kn ≤ R.slots) (fun A _ v B => ∃ L, Q v B.U.heap L ∧ B.locs = A.locs ++ L ∧ B.cells = A.cells + kc ∧ B.slots = A.slots + kn)) (eT : T.heap = h) (E : Exa Z h b C) {pc : Nat} {Ls : Array Slot} {st : List Value} (hsize : Ls.size = c.maxLocals)
    (hlen : ∀ sig, parseMethodDescriptor y.desc = some sig → argsL.length = sig.parameters.length) (hstack : st = argsL.reverse ++ .ref b :: rest) (hd : decode c.code pc = .ok (.invokevirtual index, 3)) (hW : (rest.map fun v => v.category).sum ≤ W) (hc : cells + kc ≤ R.cells) (hs : slots + kn ≤ R.slots)
    (k : ∀ (v : Option Value) (T' : State) (L : List Loc), Stand p l e R s m args below meth c T' (locs ++ L) (cells + kc) (slots + kn) → Q v T'.heap L → own_Go p e below P T' (mkF m (pc + 3) Ls (v.toList ++ rest))) : own_Go p e below P T (mkF m pc Ls st) := by
  obtain ⟨cq, kq, qa, qb, qc⟩ := isOf hZ eT E
  obtain ⟨v, _, ⟨T', L', k', n'⟩, -, X', ⟨Lc, hQ, l1, y1, z1⟩, stp⟩ := X.virtualBack hx (y := y) (z := z) hown (mvT hZ w1) (mvT hZ w2) nf (mvT hZ w3) (mvT hZ w4) hy hK qa qc (g := mkF m pc Ls st) rfl hsize (Steps.refl _) (argsL := argsL) (rest := rest) hlen hstack (by show 2 * 0 + _ ≤ _; omega) hd (fun _ _ => ⟨rfl, eT, hc, hs⟩)
  dsimp only [Pt.U, Pt.locs, Pt.cells, Pt.slots] at X' l1 y1 z1 stp hQ
  subst l1 y1 z1
  exact own_go (fun _ q => stp.trans q) (k v T' Lc X' hQ)
theorem own_callV (X : Stand p l e R s m args below meth c T locs cells slots) (hx : p.tables.exec = Jvm.exec) (hZ : Z.Warmed39 s.vm) {own C : String} {index : Nat} {y z : MethodName} {bytes : ByteArray} {maxL : Nat} {ret : Option FieldType} (hown : s.vm.findClass own = some m.cls)
    (w1 : (Jvm.Cond.methodLink own index y).before a0 Z = true) (w2 : (Jvm.Cond.declares y).before a0 Z = true) (nf : NotFace s y) (w3 : (Jvm.Cond.selects C y z).before a0 Z = true) (w4 : (Jvm.Cond.instanceMethod z).before a0 Z = true) (w5 : (Jvm.Cond.code z bytes maxL ret).before a0 Z = true) (w6 : (Jvm.Cond.initialized z.cls).before a0 Z = true) (hy : y.cls ≠ "java/lang/invoke/MethodHandle" ∧ y.cls ≠ "java/lang/invoke/VarHandle")
    {b : Addr} {argsL rest : List Value} {rm : Room} {Q : Option Value → Heap → List Loc → Prop} (hM : own_Met l Z z bytes maxL ret rm (.ref b :: argsL).toArray h Q) (eT : T.heap = h) (E : Exa Z h b C) {pc : Nat} {Ls : Array Slot} {st : List Value} (hsize : Ls.size = c.maxLocals)
    (hlen : ∀ sig, parseMethodDescriptor y.desc = some sig → argsL.length = sig.parameters.length) (hstack : st = argsL.reverse ++ .ref b :: rest) (hd : decode c.code pc = .ok (.invokevirtual index, 3)) {W : Nat} (hW : (rest.map fun v => v.category).sum ≤ W) (h4 : rm.frames + 1 ≤ R.frames ∧ W + (maxL + 11) + rm.locals ≤ R.locals ∧ cells + rm.cells ≤ R.cells ∧ slots + rm.slots ≤ R.slots)
    (k : ∀ (v : Option Value) (T' : State) (L : List Loc), Stand p l e R s m args below meth c T' (locs ++ L) (cells + rm.cells) (slots + rm.slots) → Q v T'.heap L → own_Go p e below P T' (mkF m (pc + 3) Ls (v.toList ++ rest))) : own_Go p e below P T (mkF m pc Ls st) :=
  own_callVB X hx hZ hown w1 w2 nf w3 w4 w5 w6 hy (backOf (W := W) (hM []) hZ w5 w6 h4.1 h4.2.1) eT E hsize hlen hstack hd hW h4.2.2.1 h4.2.2.2 k
theorem own_callUB (X : Stand p l e R s m args below meth c T locs cells slots) (hx : p.tables.exec = Jvm.exec) (hZ : Z.Warmed39 s.vm) {own C owner : String} {index : Nat} {y z : MethodName} {bytes : ByteArray} {maxL : Nat} {ret : Option FieldType} (hown : s.vm.findClass own = some m.cls)
    (w1 : (Jvm.Cond.methodLink own index y).before a0 Z = true) (ws : (Jvm.Cond.sameMethod y.cls owner y.name y.desc).before a0 Z = true) (w2 : (Jvm.Cond.declares ⟨owner, y.name, y.desc⟩).before a0 Z = true) (ho : owner ≠ "java/lang/invoke/MethodHandle" ∧ owner ≠ "java/lang/invoke/VarHandle")
    (w3 : (Jvm.Cond.selects C y z).before a0 Z = true) (w4 : (Jvm.Cond.instanceMethod z).before a0 Z = true) (w5 : (Jvm.Cond.code z bytes maxL ret).before a0 Z = true) (w6 : (Jvm.Cond.initialized z.cls).before a0 Z = true)
    {b : Addr} {argsL rest : List Value} {Q : Option Value → Heap → List Loc → Prop} {kc kn W : Nat} (hK : Back l R p e below s args z 3 W (fun A a => a = (.ref b :: argsL).toArray ∧ A.U.heap = h ∧ A.cells + kc ≤ R.cells ∧ A.slots + kn ≤ R.slots) (fun A _ v B => ∃ L, Q v B.U.heap L ∧ B.locs = A.locs ++ L ∧ B.cells = A.cells + kc ∧ B.slots = A.slots + kn)) (eT : T.heap = h) (E : Exa Z h b C) {pc : Nat} {Ls : Array Slot} {st : List Value} (hsize : Ls.size = c.maxLocals)
    (hlen : ∀ sig, parseMethodDescriptor y.desc = some sig → argsL.length = sig.parameters.length) (hstack : st = argsL.reverse ++ .ref b :: rest) (hd : decode c.code pc = .ok (.invokevirtual index, 3)) (hW : (rest.map fun v => v.category).sum ≤ W) (hc : cells + kc ≤ R.cells) (hs : slots + kn ≤ R.slots)
    (k : ∀ (v : Option Value) (T' : State) (L : List Loc), Stand p l e R s m args below meth c T' (locs ++ L) (cells + kc) (slots + kn) → Q v T'.heap L → own_Go p e below P T' (mkF m (pc + 3) Ls (v.toList ++ rest))) : own_Go p e below P T (mkF m pc Ls st) := by
  obtain ⟨cq, kq, qa, qb, qc⟩ := isOf hZ eT E
  obtain ⟨v, _, ⟨T', L', k', n'⟩, -, X', ⟨Lc, hQ, l1, y1, z1⟩, stp⟩ := X.virtualBackUp hx (x := y) (y := z) (owner := owner) hown (mvT hZ w1) (mvT hZ ws) (mvT hZ w2) ho (mvT hZ w3) (mvT hZ w4) hK qa qc (g := mkF m pc Ls st) rfl hsize (Steps.refl _) (argsL := argsL) (rest := rest) hlen hstack (by show 2 * 0 + _ ≤ _; omega) hd (fun _ _ => ⟨rfl, eT, hc, hs⟩)
  dsimp only [Pt.U, Pt.locs, Pt.cells, Pt.slots] at X' l1 y1 z1 stp hQ
  subst l1 y1 z1
  exact own_go (fun _ q => stp.trans q) (k v T' Lc X' hQ)
theorem own_callU (X : Stand p l e R s m args below meth c T locs cells slots) (hx : p.tables.exec = Jvm.exec) (hZ : Z.Warmed39 s.vm) {own C owner : String} {index : Nat} {y z : MethodName} {bytes : ByteArray} {maxL : Nat} {ret : Option FieldType} (hown : s.vm.findClass own = some m.cls)
    (w1 : (Jvm.Cond.methodLink own index y).before a0 Z = true) (ws : (Jvm.Cond.sameMethod y.cls owner y.name y.desc).before a0 Z = true) (w2 : (Jvm.Cond.declares ⟨owner, y.name, y.desc⟩).before a0 Z = true) (ho : owner ≠ "java/lang/invoke/MethodHandle" ∧ owner ≠ "java/lang/invoke/VarHandle")
    (w3 : (Jvm.Cond.selects C y z).before a0 Z = true) (w4 : (Jvm.Cond.instanceMethod z).before a0 Z = true) (w5 : (Jvm.Cond.code z bytes maxL ret).before a0 Z = true) (w6 : (Jvm.Cond.initialized z.cls).before a0 Z = true)
    {b : Addr} {argsL rest : List Value} {rm : Room} {Q : Option Value → Heap → List Loc → Prop} (hM : own_Met l Z z bytes maxL ret rm (.ref b :: argsL).toArray h Q) (eT : T.heap = h) (E : Exa Z h b C) {pc : Nat} {Ls : Array Slot} {st : List Value} (hsize : Ls.size = c.maxLocals)
    (hlen : ∀ sig, parseMethodDescriptor y.desc = some sig → argsL.length = sig.parameters.length) (hstack : st = argsL.reverse ++ .ref b :: rest) (hd : decode c.code pc = .ok (.invokevirtual index, 3)) {W : Nat} (hW : (rest.map fun v => v.category).sum ≤ W) (h4 : rm.frames + 1 ≤ R.frames ∧ W + (maxL + 11) + rm.locals ≤ R.locals ∧ cells + rm.cells ≤ R.cells ∧ slots + rm.slots ≤ R.slots)
    (k : ∀ (v : Option Value) (T' : State) (L : List Loc), Stand p l e R s m args below meth c T' (locs ++ L) (cells + rm.cells) (slots + rm.slots) → Q v T'.heap L → own_Go p e below P T' (mkF m (pc + 3) Ls (v.toList ++ rest))) : own_Go p e below P T (mkF m pc Ls st) :=
  own_callUB X hx hZ hown w1 ws w2 ho w3 w4 w5 w6 (backOf (W := W) (hM []) hZ w5 w6 h4.1 h4.2.1) eT E hsize hlen hstack hd hW h4.2.2.1 h4.2.2.2 k
theorem own_callNB (X : Stand p l e R s m args below meth c T locs cells slots) (hx : p.tables.exec = Jvm.exec) (hZ : Z.Warmed39 s.vm) {own : String} {index : Nat} {y : MethodName} {bytes : ByteArray} {maxL : Nat} (hown : s.vm.findClass own = some m.cls)
    (w1 : (Jvm.Cond.methodLink own index y).before a0 Z = true) (w2 : (Jvm.Cond.instanceMethod y).before a0 Z = true) (w4 : (Jvm.Cond.code y bytes maxL none).before a0 Z = true) (w3 : (Jvm.Cond.initialized y.cls).before a0 Z = true) (hy : y.cls ≠ "java/lang/invoke/MethodHandle" ∧ y.cls ≠ "java/lang/invoke/VarHandle") (hn : y.name = "<init>")
    {b : Addr} {argsL rest : List Value} {Q : Option Value → Heap → List Loc → Prop} {kc kn W : Nat} (hK : Back l R p e below s args y 3 W (fun A a => a = (.ref b :: argsL).toArray ∧ A.U.heap = h ∧ A.cells + kc ≤ R.cells ∧ A.slots + kn ≤ R.slots) (fun A _ v B => ∃ L, Q v B.U.heap L ∧ B.locs = A.locs ++ L ∧ B.cells = A.cells + kc ∧ B.slots = A.slots + kn)) (eT : T.heap = h) {pc : Nat} {Ls : Array Slot} {st : List Value} (hsize : Ls.size = c.maxLocals)
    (hlen : ∀ sig, parseMethodDescriptor y.desc = some sig → argsL.length = sig.parameters.length) (hstack : st = argsL.reverse ++ .ref b :: rest) (hd : decode c.code pc = .ok (.invokespecial index, 3)) (hW : (rest.map fun v => v.category).sum ≤ W) (hc : cells + kc ≤ R.cells) (hs : slots + kn ≤ R.slots)
    (k : ∀ (v : Option Value) (T' : State) (L : List Loc), Stand p l e R s m args below meth c T' (locs ++ L) (cells + kc) (slots + kn) → Q v T'.heap L → own_Go p e below P T' (mkF m (pc + 3) Ls (v.toList ++ rest))) : own_Go p e below P T (mkF m pc Ls st) := by
  obtain ⟨v, _, ⟨T', L', k', n'⟩, -, X', ⟨Lc, hQ, l1, y1, z1⟩, stp⟩ := X.specialBack hx (y := y) hn hown (mvT hZ w1) (mvT hZ w2) (mvT hZ w4) hy hK (g := mkF m pc Ls st) rfl hsize (Steps.refl _) (a := b) (argsL := argsL) (rest := rest) hlen hstack (by show 2 * 0 + _ ≤ _; omega) hd (fun _ _ => ⟨rfl, eT, hc, hs⟩)
  dsimp only [Pt.U, Pt.locs, Pt.cells, Pt.slots] at X' l1 y1 z1 stp hQ
  subst l1 y1 z1
  exact own_go (fun _ q => stp.trans q) (k v T' Lc X' hQ)
theorem own_callN (X : Stand p l e R s m args below meth c T locs cells slots) (hx : p.tables.exec = Jvm.exec) (hZ : Z.Warmed39 s.vm) {own : String} {index : Nat} {y : MethodName} {bytes : ByteArray} {maxL : Nat} (hown : s.vm.findClass own = some m.cls)
    (w1 : (Jvm.Cond.methodLink own index y).before a0 Z = true) (w2 : (Jvm.Cond.instanceMethod y).before a0 Z = true) (w4 : (Jvm.Cond.code y bytes maxL none).before a0 Z = true) (w3 : (Jvm.Cond.initialized y.cls).before a0 Z = true) (hy : y.cls ≠ "java/lang/invoke/MethodHandle" ∧ y.cls ≠ "java/lang/invoke/VarHandle") (hn : y.name = "<init>")
    {b : Addr} {argsL rest : List Value} {rm : Room} {Q : Option Value → Heap → List Loc → Prop} (hM : own_Met l Z y bytes maxL none rm (.ref b :: argsL).toArray h Q) (eT : T.heap = h) {pc : Nat} {Ls : Array Slot} {st : List Value} (hsize : Ls.size = c.maxLocals)
    (hlen : ∀ sig, parseMethodDescriptor y.desc = some sig → argsL.length = sig.parameters.length) (hstack : st = argsL.reverse ++ .ref b :: rest) (hd : decode c.code pc = .ok (.invokespecial index, 3)) {W : Nat} (hW : (rest.map fun v => v.category).sum ≤ W) (h4 : rm.frames + 1 ≤ R.frames ∧ W + (maxL + 11) + rm.locals ≤ R.locals ∧ cells + rm.cells ≤ R.cells ∧ slots + rm.slots ≤ R.slots)
    (k : ∀ (v : Option Value) (T' : State) (L : List Loc), Stand p l e R s m args below meth c T' (locs ++ L) (cells + rm.cells) (slots + rm.slots) → Q v T'.heap L → own_Go p e below P T' (mkF m (pc + 3) Ls (v.toList ++ rest))) : own_Go p e below P T (mkF m pc Ls st) :=
  own_callNB X hx hZ hown w1 w2 w4 w3 hy hn (backOf (W := W) (hM []) hZ w4 w3 h4.1 h4.2.1) eT hsize hlen hstack hd hW h4.2.2.1 h4.2.2.2 k
/-- answers w, writes nothing old, leaves the heap as it was -/
def own_Qv (w : Option Value) (h0 : Heap) (n0 : Nat) (v : Option Value) (h : Heap) (L : List Loc) : Prop := v = w ∧ Fr n0 L ∧ h = h0
/-- the law's own: it answers 1 and writes nothing old -/
def own_Q1 (n0 : Nat) (v : Option Value) (h : Heap) (L : List Loc) : Prop := v = some (.int 1) ∧ Fr n0 L
theorem own_fldI {t : Term} {C n d : String} {a : Addr} {k : Int32} (ev : t.eval args Z none [] Z = some (.ref a)) (hx : (Jvm.Cond.eq (.field t C n d) (.int k)).value args Z none Z [] = some true) : Fld Z Z.heap a C n d (.int k) := by
  obtain ⟨x, y, h1, h2, k1, k2⟩ := cmp_v (Or.inl hx)
  have h2' : y = .int k := (Option.some.inj (h2.symm.trans (Term.int_eval k)))
  subst h2'
  obtain ⟨z, rfl⟩ : ∃ z, x = .int z := k2
  have hz : z = k := by simpa [Jvm.Cond.value, h1, h2] using hx
  subst hz
  exact Fld.start ((fld_at ev).symm.trans h1)
theorem own_fldN {t : Term} {C n d : String} {a : Addr} (ev : t.eval args Z none [] Z = some (.ref a)) (hx : (Jvm.Cond.eq (.field t C n d) .null).value args Z none Z [] = some true) : Fld Z Z.heap a C n d .null :=
  Fld.start ((fld_at ev).symm.trans (null_v hx))
theorem own_fldR {t : Term} {C n d : String} {a : Addr} (ev : t.eval args Z none [] Z = some (.ref a)) (hx : (Jvm.Cond.not (.eq (.field t C n d) .null)).value args Z none Z [] = some true) : ∃ b, Fld Z Z.heap a C n d (.ref b) := by
  obtain ⟨b, hb⟩ := nn_v (not_v hx)
  exact ⟨b, Fld.start ((fld_at ev).symm.trans hb)⟩
theorem own_fldX {t : Term} {C n d K : String} {a : Addr} (ev : t.eval args Z none [] Z = some (.ref a)) (hx : (Jvm.Cond.exactly (.field t C n d) K).value args Z none Z [] = some true) : ∃ b, (Term.field t C n d).eval args Z none [] Z = some (.ref b) ∧ Fld Z Z.heap a C n d (.ref b) ∧ Exa Z Z.heap b K := by
  obtain ⟨b, hb⟩ := exa_v hx
  exact ⟨b, hb, Fld.start ((fld_at ev).symm.trans hb), Exa.start hb hx⟩
theorem own_fldE {t t' : Term} {C n d : String} {a b : Addr} (ev : t.eval args Z none [] Z = some (.ref a)) (h2 : t'.eval args Z none [] Z = some (.ref b)) (hx : (Jvm.Cond.eq (.field t C n d) t').value args Z none Z [] = some true) : Fld Z Z.heap a C n d (.ref b) := by
  obtain ⟨x, y, h1, h2', k1, k2⟩ := cmp_v (Or.inl hx)
  cases h2.symm.trans h2'
  have k3 : x.isRef = true := k2.2
  have hz : x = .ref b := gotT (eq_R h1 h2 k3 rfl) hx
  subst hz
  exact Fld.start ((fld_at ev).symm.trans h1)
end Own
section Own2
variable {p : Program} {l : Launch} {e : Env} {R : Room} {s : State} {m : MethodId} {args : Array Value} {below : List Frame} {meth : Method} {c : Code} {T T' : State} {locs : List Loc} {cells slots : Nat} {Z : State} {a0 : Array Value} {h : Heap} {P : Outcome → State → Prop} {a b : Addr} {pc : Nat} {Ls : Array Slot} {rest : List Value} {k : ClassId} {ty : FieldType} {n j : Int32} {vs : List Value} {dv v : Value}
theorem own_oldle {n0 : Nat} (O : Old Z n0 h) : n0 ≤ h.size := O.1 ▸ O.2.1
theorem own_newR (X : Stand p l e R s m args below meth c T locs cells slots) (hx : p.tables.exec = Jvm.exec) (hZ : Z.Warmed39 s.vm) {own C : String} {index : Nat} (hown : s.vm.findClass own = some m.cls) (w1 : (Jvm.Cond.classLink own index C).before a0 Z = true) (w2 : (Jvm.Cond.arrayOver (.object C)).before a0 Z = true) (eT : T.heap = h)
    (hd : decode c.code pc = .ok (.anewarray index, 3)) (hn : ¬ n < 0) (cap : Nat) (hcap : n.toNatClampNeg ≤ cap) (hb : cap * 8 ≤ 536870912) (hc : cells + 1 ≤ R.cells) (hl : slots + cap ≤ R.slots)
    (kk : ∀ (T' : State) (h' : Heap) (cA : ClassId) (b : Addr), b = h.size → Stand p l e R s m args below meth c T' locs (cells + 1) (slots + cap) → T'.heap = h' → Ext h h' → Arv Z h' b cA (.object C) n (List.replicate cap .null) .null → Ovr Z cA C → own_Go p e below P T' (mkF m (pc + 3) Ls (.ref b :: rest))) :
    own_Go p e below P T (mkF m pc Ls (.int n :: rest)) := by
  obtain ⟨T', h', cA, X', e', E, A, O, st⟩ := newR X hx hZ hown w1 w2 eT (g := mkF m pc Ls (.int n :: rest)) rfl hd rfl hn hcap hb hc hl
  exact own_go st (kk T' h' cA _ rfl X' e' E ((Arv.new A hn).pad (pad_rep [] .null cap)) O)
theorem own_newP (X : Stand p l e R s m args below meth c T locs cells slots) (hx : p.tables.exec = Jvm.exec) (hZ : Z.Warmed39 s.vm) {aty : ArrayType} (w : (Jvm.Cond.arrayClass (newarray.typeOf aty)).before a0 Z = true) (eT : T.heap = h)
    (hd : decode c.code pc = .ok (.newarray aty, 2)) (hn : ¬ n < 0) (cap : Nat) (hcap : n.toNatClampNeg ≤ cap) (hb : cap * 8 ≤ 536870912) (hc : cells + 1 ≤ R.cells) (hl : slots + cap ≤ R.slots)
    (kk : ∀ (T' : State) (h' : Heap) (cA : ClassId) (b : Addr), b = h.size → Stand p l e R s m args below meth c T' locs (cells + 1) (slots + cap) → T'.heap = h' → Ext h h' → Arv Z h' b cA (newarray.typeOf aty) n (List.replicate cap (defaultValue (newarray.typeOf aty))) (defaultValue (newarray.typeOf aty)) → own_Go p e below P T' (mkF m (pc + 2) Ls (.ref b :: rest))) :
    own_Go p e below P T (mkF m pc Ls (.int n :: rest)) := by
  obtain ⟨T', h', cA, X', e', E, A, st⟩ := newP X hx hZ w eT (g := mkF m pc Ls (.int n :: rest)) rfl hd rfl hn hcap hb hc hl
  exact own_go st (kk T' h' cA _ rfl X' e' E ((Arv.new A hn).pad (pad_rep [] _ cap)))
theorem own_newO (X : Stand p l e R s m args below meth c T locs cells slots) (hx : p.tables.exec = Jvm.exec) (hZ : Z.Warmed39 s.vm) {own C : String} {index n : Nat} {st : List Value} (hown : s.vm.findClass own = some m.cls) (w : (Jvm.Cond.classLink own index C).before a0 Z = true) (wi : (Jvm.Cond.instantiable C n).before a0 Z = true) (wz : (Jvm.Cond.initialized C).before a0 Z = true) (eT : T.heap = h)
    (hd : decode c.code pc = .ok (.new index, 3)) (hc : cells + 1 ≤ R.cells) (hl : slots + n ≤ R.slots)
    (kk : ∀ (T' : State) (h' : Heap) (b : Addr), b = h.size → Stand p l e R s m args below meth c T' locs (cells + 1) (slots + n) → T'.heap = h' → Ext h h' → Exa Z h' b C → (∀ {O nm d : String} {ty : FieldType}, Laid Z a0 C O nm d → parseFieldDescriptor d = some ty → Fld Z h' b O nm d (defaultValue ty)) → own_Go p e below P T' (mkF m (pc + 3) Ls (.ref b :: st))) :
    own_Go p e below P T (mkF m pc Ls st) := by
  obtain ⟨T', h', X', e', E, A, D, -, stp⟩ := newO X hx hZ hown w wi wz eT (g := mkF m pc Ls st) rfl hd hc hl
  exact own_go stp (kk T' h' _ rfl X' e' E A (fun {_ _ _ _} q r => D q r))
theorem own_stR (X : Stand p l e R s m args below meth c T locs cells slots) (hx : p.tables.exec = Jvm.exec) (hZ : Z.Warmed39 s.vm) {C : String} {y : Addr} (eT : T.heap = h) (A : Arv Z h b k (.object C) n vs dv) (O : Ovr Z k C) (I : Ins Z h y C true) (hj : ¬ j < 0 ∧ j < n) (i : Nat) (hi : j.toNatClampNeg = i) (hil : i < vs.length)
    (hd : decode c.code pc = .ok (.aastore, 1))
    (kk : ∀ (T' : State) (h' : Heap), Stand p l e R s m args below meth c T' (locs ++ [⟨b, j.toNatClampNeg⟩]) cells slots → T'.heap = h' → Wr h h' b j.toNatClampNeg (.ref y) → Arv Z h' b k (.object C) n (vs.set i (.ref y)) dv → own_Go p e below P T' (mkF m (pc + 1) Ls rest)) :
    own_Go p e below P T (mkF m pc Ls (.ref y :: .int j :: .ref b :: rest)) := by
  obtain ⟨cl, A1, q1, S, q3, H, G⟩ := A
  obtain ⟨T', h', X', e', W, st⟩ := stR X hx hZ eT A1 (j := j) (v := .ref y) (inb_of S hj) rfl (Sto.ofV A1 q1 O I) (g := mkF m pc Ls (.ref y :: .int j :: .ref b :: rest)) rfl rfl hd
  exact own_go st (kk T' h' X' e' W (Arv.set A1 q1 S q3 H G rfl W i hi hil))
theorem own_stC (X : Stand p l e R s m args below meth c T locs cells slots) (hx : p.tables.exec = Jvm.exec) (hZ : Z.Warmed39 s.vm) {x : Int32} (eT : T.heap = h) (A : Arv Z h b k .char n vs dv) (hj : ¬ j < 0 ∧ j < n) (i : Nat) (hi : j.toNatClampNeg = i) (hil : i < vs.length) (hd : decode c.code pc = .ok (.castore, 1))
    (kk : ∀ (T' : State) (h' : Heap), Stand p l e R s m args below meth c T' (locs ++ [⟨b, j.toNatClampNeg⟩]) cells slots → T'.heap = h' → Wr h h' b j.toNatClampNeg (.int (nar .char x)) → Arv Z h' b k .char n (vs.set i (.int (nar .char x))) dv → own_Go p e below P T' (mkF m (pc + 1) Ls rest)) :
    own_Go p e below P T (mkF m pc Ls (.int x :: .int j :: .ref b :: rest)) := by
  obtain ⟨cl, A1, q1, S, q3, H, G⟩ := A
  obtain ⟨T', h', X', e', W, st⟩ := stC X hx hZ eT A1 (j := j) (x := x) (inb_of S hj) (g := mkF m pc Ls (.int x :: .int j :: .ref b :: rest)) rfl rfl hd
  exact own_go st (kk T' h' X' e' W (Arv.set A1 q1 S q3 H G (fits_nar_char _) W i hi hil))
theorem own_stI (X : Stand p l e R s m args below meth c T locs cells slots) (hx : p.tables.exec = Jvm.exec) (hZ : Z.Warmed39 s.vm) {x : Int32} (eT : T.heap = h) (A : Arv Z h b k .int n vs dv) (hj : ¬ j < 0 ∧ j < n) (i : Nat) (hi : j.toNatClampNeg = i) (hil : i < vs.length) (hd : decode c.code pc = .ok (.iastore, 1))
    (kk : ∀ (T' : State) (h' : Heap), Stand p l e R s m args below meth c T' (locs ++ [⟨b, j.toNatClampNeg⟩]) cells slots → T'.heap = h' → Wr h h' b j.toNatClampNeg (.int x) → Arv Z h' b k .int n (vs.set i (.int x)) dv → own_Go p e below P T' (mkF m (pc + 1) Ls rest)) :
    own_Go p e below P T (mkF m pc Ls (.int x :: .int j :: .ref b :: rest)) := by
  obtain ⟨cl, A1, q1, S, q3, H, G⟩ := A
  obtain ⟨T', h', X', e', W, st⟩ := stI X hx hZ eT A1 (j := j) (x := x) (inb_of S hj) (g := mkF m pc Ls (.int x :: .int j :: .ref b :: rest)) rfl rfl hd
  exact own_go st (kk T' h' X' e' W (Arv.set A1 q1 S q3 H G rfl W i hi hil))
theorem own_stB (X : Stand p l e R s m args below meth c T locs cells slots) (hx : p.tables.exec = Jvm.exec) (hZ : Z.Warmed39 s.vm) {x : Int32} (eT : T.heap = h) (A : Arv Z h b k .byte n vs dv) (hj : ¬ j < 0 ∧ j < n) (i : Nat) (hi : j.toNatClampNeg = i) (hil : i < vs.length) (hd : decode c.code pc = .ok (.bastore, 1))
    (kk : ∀ (T' : State) (h' : Heap), Stand p l e R s m args below meth c T' (locs ++ [⟨b, j.toNatClampNeg⟩]) cells slots → T'.heap = h' → Wr h h' b j.toNatClampNeg (.int (nar .byte x)) → Arv Z h' b k .byte n (vs.set i (.int (nar .byte x))) dv → own_Go p e below P T' (mkF m (pc + 1) Ls rest)) :
    own_Go p e below P T (mkF m pc Ls (.int x :: .int j :: .ref b :: rest)) := by
  obtain ⟨cl, A1, q1, S, q3, H, G⟩ := A
  obtain ⟨T', h', X', e', W, st⟩ := stB X hx hZ eT A1 (j := j) (x := x) (inb_of S hj) (g := mkF m pc Ls (.int x :: .int j :: .ref b :: rest)) rfl rfl hd
  exact own_go st (kk T' h' X' e' W (Arv.set A1 q1 S q3 H G (fits_nar_byte _) W i hi hil))
theorem own_ldA (X : Stand p l e R s m args below meth c T locs cells slots) (hx : p.tables.exec = Jvm.exec) (hZ : Z.Warmed39 s.vm) (eT : T.heap = h) (A : Arv Z h b k ty n vs dv) (hty : ty.isReference = true) (hj : ¬ j < 0 ∧ j < n) (hv : vs.getD j.toNatClampNeg dv = v) (hd : decode c.code pc = .ok (.aaload, 1))
    (kk : own_Go p e below P T (mkF m (pc + 1) Ls (v :: rest))) : own_Go p e below P T (mkF m pc Ls (.int j :: .ref b :: rest)) := by
  obtain ⟨cl, A1, q1, S, q3, H, G⟩ := A
  exact own_go (X.aaload hx (j := j) (v := v) (by rw [eT]; exact A1.1) (State.isArrayOf_alike hZ.alike A1.2.1) hty A1.2.2 (inb_of S hj) (H.at (inb_of S hj) hv) (g := mkF m pc Ls (.int j :: .ref b :: rest)) rfl rfl hd) kk
theorem own_ldC (X : Stand p l e R s m args below meth c T locs cells slots) (hx : p.tables.exec = Jvm.exec) (hZ : Z.Warmed39 s.vm) (eT : T.heap = h) (A : Arv Z h b k .char n vs dv) (hj : ¬ j < 0 ∧ j < n) (hv : vs.getD j.toNatClampNeg dv = v) (hd : decode c.code pc = .ok (.caload, 1))
    (kk : own_Go p e below P T (mkF m (pc + 1) Ls (v :: rest))) : own_Go p e below P T (mkF m pc Ls (.int j :: .ref b :: rest)) := by
  obtain ⟨cl, A1, q1, S, q3, H, G⟩ := A
  exact own_go (X.caload hx (j := j) (v := v) (by rw [eT]; exact A1.1) (State.isArrayOf_alike hZ.alike A1.2.1) A1.2.2 (inb_of S hj) (H.at (inb_of S hj) hv) (g := mkF m pc Ls (.int j :: .ref b :: rest)) rfl rfl hd) kk
theorem own_ldB (X : Stand p l e R s m args below meth c T locs cells slots) (hx : p.tables.exec = Jvm.exec) (hZ : Z.Warmed39 s.vm) (eT : T.heap = h) (A : Arv Z h b k .byte n vs dv) (hj : ¬ j < 0 ∧ j < n) (hv : vs.getD j.toNatClampNeg dv = v) (hd : decode c.code pc = .ok (.baload, 1))
    (kk : own_Go p e below P T (mkF m (pc + 1) Ls (v :: rest))) : own_Go p e below P T (mkF m pc Ls (.int j :: .ref b :: rest)) := by
  obtain ⟨cl, A1, q1, S, q3, H, G⟩ := A
  exact own_go (X.baloadBytes hx (j := j) (v := v) (by rw [eT]; exact A1.1) (State.isArrayOf_alike hZ.alike A1.2.1) A1.2.2 (inb_of S hj) (H.at (inb_of S hj) hv) (g := mkF m pc Ls (.int j :: .ref b :: rest)) rfl rfl hd) kk
theorem own_ldI (X : Stand p l e R s m args below meth c T locs cells slots) (hx : p.tables.exec = Jvm.exec) (hZ : Z.Warmed39 s.vm) (eT : T.heap = h) (A : Arv Z h b k .int n vs dv) (hj : ¬ j < 0 ∧ j < n) (hv : vs.getD j.toNatClampNeg dv = v) (hd : decode c.code pc = .ok (.iaload, 1))
    (kk : own_Go p e below P T (mkF m (pc + 1) Ls (v :: rest))) : own_Go p e below P T (mkF m pc Ls (.int j :: .ref b :: rest)) := by
  obtain ⟨cl, A1, q1, S, q3, H, G⟩ := A
  exact own_go (X.iaload hx (j := j) (v := v) (by rw [eT]; exact A1.1) (State.isArrayOf_alike hZ.alike A1.2.1) A1.2.2 (inb_of S hj) (H.at (inb_of S hj) hv) (g := mkF m pc Ls (.int j :: .ref b :: rest)) rfl rfl hd) kk
theorem own_len (X : Stand p l e R s m args below meth c T locs cells slots) (hx : p.tables.exec = Jvm.exec) (hZ : Z.Warmed39 s.vm) (eT : T.heap = h) (A : Arv Z h b k ty n vs dv) (hd : decode c.code pc = .ok (.arraylength, 1))
    (kk : own_Go p e below P T (mkF m (pc + 1) Ls (.int n :: rest))) : own_Go p e below P T (mkF m pc Ls (.ref b :: rest)) := by
  obtain ⟨cl, A1, q1, S, q3, H, G⟩ := A
  refine own_go (X.arraylength hx (by rw [eT]; exact A1.1) (State.isArrayOf_alike hZ.alike A1.2.1) (g := mkF m pc Ls (.ref b :: rest)) rfl rfl hd) ?_
  rw [len_of S q3]
  exact kk
end Own2
section Own3
variable {p : Program} {l : Launch} {e : Env} {R : Room} {s : State} {vm0 : Vm} {m : MethodId} {args : Array Value} {below : List Frame} {meth : Method} {c : Code} {T T' : State} {locs : List Loc} {cells slots : Nat} {Z : State} {a0 : Array Value} {h : Heap} {P : Outcome → State → Prop} {a b : Addr} {pc : Nat} {Ls : Array Slot} {rest st : List Value}
/-- as own_End, where String constants may have been booked -/
def own_EndW (s : State) (Q : Option Value → Heap → List Loc → Prop) (k n : Nat) (o : Outcome) (t : State) : Prop := ∃ v L, o = .returned v ∧ Q v t.heap L ∧ ReturnedEndW s o t L k n
def own_MetW (l : Launch) (Z : State) (y : MethodName) (bytes : ByteArray) (maxL : Nat) (ret : Option FieldType) (rm : Room) (as' : Array Value) (h0 : Heap) (Q : Option Value → Heap → List Loc → Prop) : Prop :=
  ∀ ws : List Jvm.Cond, MetFree l y (head1 (Jvm.Cond.code y bytes maxL ret :: ws) rm) (fun a U => a = as' ∧ Z.Warmed39 U.vm ∧ U.heap = h0) (fun _ _ _ _ _ => True) (fun _ U o U' => ∃ v L, o = .returned v ∧ Q v U'.heap L ∧ ReturnedEndW U o U' L rm.cells rm.slots)
theorem own_bodyW {y : MethodName} {bytes : ByteArray} {maxL : Nat} {ret : Option FieldType} {rm : Room} {as' : Array Value} {h0 : Heap} {Q : Option Value → Heap → List Loc → Prop} (hp : plainFor y = true)
    (k : ∀ (p : Program) (e : Env) (s : State) (m : MethodId) (below : List Frame) (meth : Method) (c : Code) (T : State), Stand p l e rm (s.setVm s.vm) m as' below meth c T [] 0 0 → p.tables.exec = Jvm.exec → Z.Warmed39 (s.setVm s.vm).vm → c.code = bytes → c.maxLocals = maxL → (s.setVm s.vm).vm.findClass y.cls = some m.cls → meth.name = y.name →
      meth.sig.returnType = ret → meth.locks = false → T.heap = h0 → s.Since s.vm h0.size → h0.size ≤ h0.size → s.heap = h0 → own_Go p e below (own_EndW s Q rm.cells rm.slots) T (entryFrame m as' maxL)) : own_MetW l Z y bytes maxL ret rm as' h0 Q := by
  intro ws
  refine MetFree.of_bodySF hp hisR ?_
  intro p e s m args below meth c s₁ Bd hml0 hP hK
  obtain ⟨rfl, hZ, hh⟩ := hP
  exact k p e s m below meth c s₁ (Stand.of_body Bd) Bd.exec hZ Bd.bytes hml0 (findClass_of_methodNamed Bd.named) (name_of_methodNamed Bd.named Bd.method).1 Bd.returns Bd.notSynchronized (by rw [← hh, Bd.state]; rfl) ((State.WarmedH.refl s).since _) (Nat.le_refl _) hh
theorem own_retW (X : Stand p l e R (s.setVm vm0) m args below meth c T locs cells slots) (hx : p.tables.exec = Jvm.exec) {w : Value} {t : FieldType} {i : Instr} (hret : meth.sig.returnType = some t) (hlk : meth.locks = false) (hd : decode c.code pc = .ok (i, 1)) (hn : narrow t w = w)
    (hi : (i = .ireturn ∧ (t = .int ∨ t = .boolean ∨ t = .byte ∨ t = .char ∨ t = .short) ∧ ∃ z, w = .int z) ∨ (i = .lreturn ∧ t = .long ∧ ∃ z, w = .long z) ∨ (i = .dreturn ∧ t = .double ∧ ∃ z, w = .double z) ∨ (i = .freturn ∧ t = .float ∧ ∃ z, w = .float z) ∨ (i = .areturn ∧ t.isReference = true ∧ w.isRef = true))
    {n : Nat} (hS : s.Since vm0 n) (hk : n ≤ T.heap.size) {Q : Option Value → Heap → List Loc → Prop} {kc kn : Nat} (hc : cells ≤ kc) (hs : slots ≤ kn) (hQ : Q (some w) T.heap locs) : own_Go p e below (own_EndW s Q kc kn) T (mkF m pc Ls (w :: rest)) := by
  obtain ⟨fs, hr, hrun, hended, hE⟩ := X.leaveW hS hk (v := some w) (fun h => by rw [hret] at h; cases h) hlk
  exact ⟨_, _, retOut X hx hret hn hi hd hr, hrun, hended, _, _, rfl, hQ, hE.1, hE.2.1, hE.2.2.1, hE.2.2.2.mono hc hs⟩
theorem own_retIW (X : Stand p l e R (s.setVm vm0) m args below meth c T locs cells slots) (hx : p.tables.exec = Jvm.exec) {z : Int32} {t : FieldType} (hret : meth.sig.returnType = some t) (hlk : meth.locks = false) (hd : decode c.code pc = .ok (.ireturn, 1)) (hn : narrow t (.int z) = .int z)
    (ht : t = .int ∨ t = .boolean ∨ t = .byte ∨ t = .char ∨ t = .short) {n : Nat} (hS : s.Since vm0 n) (hk : n ≤ T.heap.size) {Q : Option Value → Heap → List Loc → Prop} {kc kn : Nat} (hc : cells ≤ kc) (hs : slots ≤ kn) (hQ : Q (some (.int z)) T.heap locs) : own_Go p e below (own_EndW s Q kc kn) T (mkF m pc Ls (.int z :: rest)) :=
  own_retW X hx hret hlk hd hn (Or.inl ⟨rfl, ht, z, rfl⟩) hS hk hc hs hQ
theorem own_retAW (X : Stand p l e R (s.setVm vm0) m args below meth c T locs cells slots) (hx : p.tables.exec = Jvm.exec) {w : Value} {t : FieldType} (hret : meth.sig.returnType = some t) (hlk : meth.locks = false) (hd : decode c.code pc = .ok (.areturn, 1)) (ht : t.isReference = true) (hw : w.isRef = true)
    {n : Nat} (hS : s.Since vm0 n) (hk : n ≤ T.heap.size) {Q : Option Value → Heap → List Loc → Prop} {kc kn : Nat} (hc : cells ≤ kc) (hs : slots ≤ kn) (hQ : Q (some w) T.heap locs) : own_Go p e below (own_EndW s Q kc kn) T (mkF m pc Ls (w :: rest)) :=
  own_retW X hx hret hlk hd (by cases t <;> first | rfl | (cases w <;> rfl) | (simp [FieldType.isReference] at ht)) (Or.inr (Or.inr (Or.inr (Or.inr ⟨rfl, ht, hw⟩)))) hS hk hc hs hQ
theorem own_retVW (X : Stand p l e R (s.setVm vm0) m args below meth c T locs cells slots) (hx : p.tables.exec = Jvm.exec) (hret : meth.sig.returnType = none) (hlk : meth.locks = false) (hd : decode c.code pc = .ok (.return_, 1))
    {n : Nat} (hS : s.Since vm0 n) (hk : n ≤ T.heap.size) {Q : Option Value → Heap → List Loc → Prop} {kc kn : Nat} (hc : cells ≤ kc) (hs : slots ≤ kn) (hQ : Q none T.heap locs) : own_Go p e below (own_EndW s Q kc kn) T (mkF m pc Ls []) := by
  obtain ⟨fs, hr, hrun, hended, hE⟩ := X.leaveW hS hk (v := none) (fun _ => rfl) hlk
  exact ⟨_, _, X.returnOut hx hret hd hr, hrun, hended, _, _, rfl, hQ, hE.1, hE.2.1, hE.2.2.1, hE.2.2.2.mono hc hs⟩
/-- a String constant of which nothing is said but its place -/
theorem own_ldcS (X : Stand p l e R (s.setVm vm0) m args below meth c T locs cells slots) (hx : p.tables.exec = Jvm.exec) (hZ : Z.Warmed39 vm0) {own text : String} {index : Nat} (hown : vm0.findClass own = some m.cls) (w : (Jvm.Cond.stringLink own index text).before a0 Z = true) (wS : ∀ a ∈ Bundle.stringAtoms, a.before a0 Z = true)
    (eT : T.heap = h) {k0 : Nat} (hS : s.Since vm0 k0) (hk : k0 ≤ h.size) (hd : decode c.code pc = .ok (.ldc index, 2)) (n : Nat) (hn : 4 * text.toList.length ≤ n) (hbig : n ≤ 536870912) (hc : cells + 2 ≤ R.cells) (hl : slots + (n + 4) ≤ R.slots)
    (kk : ∀ (a : Addr) (T' : State) (h' : Heap) (k1 : Nat), Stand p l e R (s.setVm T'.vm) m args below meth c T' locs (cells + 2) (slots + (n + 4)) → T'.heap = h' → Ext h h' → s.Since T'.vm k1 → k1 ≤ h'.size → Z.Warmed39 (s.setVm T'.vm).vm → (s.setVm T'.vm).vm.findClass own = some m.cls → own_Go p e below P T' (mkF m (pc + 2) Ls (.ref a :: st))) :
    own_Go p e below P T (mkF m pc Ls st) := by
  obtain ⟨a, T', h', k1, X', e', E, S', hk', hZ', hown', stp⟩ := ldcS X hx hZ hown w wS eT hS hk (g := mkF m pc Ls st) rfl hd hn hbig hc hl
  exact own_go stp (kk a T' h' k1 X' e' E S' hk' hZ' hown')
end Own3
section Own4
variable {p : Program} {l : Launch} {e : Env} {R : Room} {s : State} {vm0 : Vm} {m : MethodId} {args : Array Value} {below : List Frame} {meth : Method} {c : Code} {T T' : State} {locs : List Loc} {cells slots : Nat} {Z : State} {a0 : Array Value} {h h0 : Heap} {P : Outcome → State → Prop} {a b : Addr} {pc : Nat} {Ls : Array Slot} {rest st : List Value} {EL : List (String × Nat)}
/-- as own_EndW; what the constants of EL hold is still known -/
def own_EndH (Z : State) (EL : List (String × Nat)) (s : State) (h0 : Heap) (Q : Option Value → Heap → List Loc → Prop) (k n : Nat) (o : Outcome) (t : State) : Prop := ∃ v L, o = .returned v ∧ Q v t.heap L ∧ CHr Z EL s.vm h0 t.vm t.heap ∧ ReturnedEndW s o t L k n
def own_MetH (l : Launch) (Z : State) (EL : List (String × Nat)) (y : MethodName) (bytes : ByteArray) (maxL : Nat) (ret : Option FieldType) (rm : Room) (as' : Array Value) (h0 : Heap) (Q : Option Value → Heap → List Loc → Prop) : Prop :=
  ∀ ws : List Jvm.Cond, MetFree l y (head1 (Jvm.Cond.code y bytes maxL ret :: ws) rm) (fun a U => a = as' ∧ Z.Warmed39 U.vm ∧ U.heap = h0 ∧ CHv Z EL U.vm h0) (fun _ _ _ _ _ => True) (fun _ U o U' => ∃ v L, o = .returned v ∧ Q v U'.heap L ∧ CHr Z EL U.vm U.heap U'.vm U'.heap ∧ ReturnedEndW U o U' L rm.cells rm.slots)
theorem own_bodyH {y : MethodName} {bytes : ByteArray} {maxL : Nat} {ret : Option FieldType} {rm : Room} {as' : Array Value} {Q : Option Value → Heap → List Loc → Prop} (hp : plainFor y = true)
    (k : ∀ (p : Program) (e : Env) (s : State) (m : MethodId) (below : List Frame) (meth : Method) (c : Code) (T : State), Stand p l e rm (s.setVm s.vm) m as' below meth c T [] 0 0 → p.tables.exec = Jvm.exec → Z.Warmed39 (s.setVm s.vm).vm → c.code = bytes → c.maxLocals = maxL → (s.setVm s.vm).vm.findClass y.cls = some m.cls → meth.name = y.name →
      meth.sig.returnType = ret → meth.locks = false → T.heap = h0 → s.Since s.vm h0.size → h0.size ≤ h0.size → CHr Z EL s.vm h0 s.vm h0 → own_Go p e below (own_EndH Z EL s h0 Q rm.cells rm.slots) T (entryFrame m as' maxL)) : own_MetH l Z EL y bytes maxL ret rm as' h0 Q := by
  intro ws
  refine MetFree.of_bodySF hp hisR ?_
  intro p e s m args below meth c s₁ Bd hml0 hP hK
  obtain ⟨rfl, hZ, hh, hC⟩ := hP
  obtain ⟨s₂, o, q1, q2, q3, v, L, q4, q5, q6, q7⟩ := k p e s m below meth c s₁ (Stand.of_body Bd) Bd.exec hZ Bd.bytes hml0 (findClass_of_methodNamed Bd.named) (name_of_methodNamed Bd.named Bd.method).1 Bd.returns Bd.notSynchronized (by rw [← hh, Bd.state]; rfl) ((State.WarmedH.refl s).since _) (Nat.le_refl _) (CHr.refl hC)
  exact ⟨s₂, o, q1, q2, q3, v, L, q4, q5, by rw [hh]; exact q6, q7⟩
theorem own_retH (X : Stand p l e R (s.setVm vm0) m args below meth c T locs cells slots) (hx : p.tables.exec = Jvm.exec) {w : Value} {t : FieldType} {i : Instr} (hret : meth.sig.returnType = some t) (hlk : meth.locks = false) (hd : decode c.code pc = .ok (i, 1)) (hn : narrow t w = w)
    (hi : (i = .ireturn ∧ (t = .int ∨ t = .boolean ∨ t = .byte ∨ t = .char ∨ t = .short) ∧ ∃ z, w = .int z) ∨ (i = .lreturn ∧ t = .long ∧ ∃ z, w = .long z) ∨ (i = .dreturn ∧ t = .double ∧ ∃ z, w = .double z) ∨ (i = .freturn ∧ t = .float ∧ ∃ z, w = .float z) ∨ (i = .areturn ∧ t.isReference = true ∧ w.isRef = true))
    (hZ : Z.Warmed39 vm0) (hEL : EW Z a0 EL) (hC : CHr Z EL s.vm h0 vm0 h) (eT : T.heap = h) {n : Nat} (hS : s.Since vm0 n) (hk : n ≤ h.size) {Q : Option Value → Heap → List Loc → Prop} {kc kn : Nat} (hc : cells ≤ kc) (hs : slots ≤ kn) (hQ : Q (some w) T.heap locs) : own_Go p e below (own_EndH Z EL s h0 Q kc kn) T (mkF m pc Ls (w :: rest)) := by
  subst eT
  obtain ⟨fs, hr, hrun, hended, hE⟩ := X.leaveW hS hk (v := some w) (fun h => by rw [hret] at h; cases h) hlk
  exact ⟨_, _, retOut X hx hret hn hi hd hr, hrun, hended, _, _, rfl, hQ, hC.trans (show CHr Z EL vm0 T.heap T.vm T.heap from CHv.at X hZ hEL hC.1), hE.1, hE.2.1, hE.2.2.1, hE.2.2.2.mono hc hs⟩
theorem own_retIH (X : Stand p l e R (s.setVm vm0) m args below meth c T locs cells slots) (hx : p.tables.exec = Jvm.exec) {z : Int32} {t : FieldType} (hret : meth.sig.returnType = some t) (hlk : meth.locks = false) (hd : decode c.code pc = .ok (.ireturn, 1)) (hn : narrow t (.int z) = .int z)
    (ht : t = .int ∨ t = .boolean ∨ t = .byte ∨ t = .char ∨ t = .short) (hZ : Z.Warmed39 vm0) (hEL : EW Z a0 EL) (hC : CHr Z EL s.vm h0 vm0 h) (eT : T.heap = h) {n : Nat} (hS : s.Since vm0 n) (hk : n ≤ h.size) {Q : Option Value → Heap → List Loc → Prop} {kc kn : Nat} (hc : cells ≤ kc) (hs : slots ≤ kn) (hQ : Q (some (.int z)) T.heap locs) :
    own_Go p e below (own_EndH Z EL s h0 Q kc kn) T (mkF m pc Ls (.int z :: rest)) :=
  own_retH X hx hret hlk hd hn (Or.inl ⟨rfl, ht, z, rfl⟩) hZ hEL hC eT hS hk hc hs hQ
theorem own_retAH (X : Stand p l e R (s.setVm vm0) m args below meth c T locs cells slots) (hx : p.tables.exec = Jvm.exec) {w : Value} {t : FieldType} (hret : meth.sig.returnType = some t) (hlk : meth.locks = false) (hd : decode c.code pc = .ok (.areturn, 1)) (ht : t.isReference = true) (hw : w.isRef = true)
    (hZ : Z.Warmed39 vm0) (hEL : EW Z a0 EL) (hC : CHr Z EL s.vm h0 vm0 h) (eT : T.heap = h) {n : Nat} (hS : s.Since vm0 n) (hk : n ≤ h.size) {Q : Option Value → Heap → List Loc → Prop} {kc kn : Nat} (hc : cells ≤ kc) (hs : slots ≤ kn) (hQ : Q (some w) T.heap locs) :
    own_Go p e below (own_EndH Z EL s h0 Q kc kn) T (mkF m pc Ls (w :: rest)) :=
  own_retH X hx hret hlk hd (by cases t <;> first | rfl | (cases w <;> rfl) | (simp [FieldType.isReference] at ht)) (Or.inr (Or.inr (Or.inr (Or.inr ⟨rfl, ht, hw⟩)))) hZ hEL hC eT hS hk hc hs hQ
theorem own_retVH (X : Stand p l e R (s.setVm vm0) m args below meth c T locs cells slots) (hx : p.tables.exec = Jvm.exec) (hret : meth.sig.returnType = none) (hlk : meth.locks = false) (hd : decode c.code pc = .ok (.return_, 1))
    (hZ : Z.Warmed39 vm0) (hEL : EW Z a0 EL) (hC : CHr Z EL s.vm h0 vm0 h) (eT : T.heap = h) {n : Nat} (hS : s.Since vm0 n) (hk : n ≤ h.size) {Q : Option Value → Heap → List Loc → Prop} {kc kn : Nat} (hc : cells ≤ kc) (hs : slots ≤ kn) (hQ : Q none T.heap locs) : own_Go p e below (own_EndH Z EL s h0 Q kc kn) T (mkF m pc Ls []) := by
  subst eT
  obtain ⟨fs, hr, hrun, hended, hE⟩ := X.leaveW hS hk (v := none) (fun _ => rfl) hlk
  exact ⟨_, _, X.returnOut hx hret hd hr, hrun, hended, _, _, rfl, hQ, hC.trans (show CHr Z EL vm0 T.heap T.vm T.heap from CHv.at X hZ hEL hC.1), hE.1, hE.2.1, hE.2.2.1, hE.2.2.2.mono hc hs⟩
/-- a String constant of which nothing is read -/
theorem own_ldcO (X : Stand p l e R (s.setVm vm0) m args below meth c T locs cells slots) (hx : p.tables.exec = Jvm.exec) (hZ : Z.Warmed39 vm0) {own text : String} {index : Nat} (hown : vm0.findClass own = some m.cls) (w : (Jvm.Cond.stringLink own index text).before a0 Z = true) (wS : ∀ a ∈ Bundle.stringAtoms, a.before a0 Z = true)
    (eT : T.heap = h) {k0 : Nat} (hS : s.Since vm0 k0) (hk : k0 ≤ h.size) (hEL : EW Z a0 EL) (H : CHv Z EL vm0 h) (hd : decode c.code pc = .ok (.ldc index, 2)) (n : Nat) (hn : 4 * text.toList.length ≤ n) (hbig : n ≤ 536870912) (hc : cells + 2 ≤ R.cells) (hl : slots + (n + 4) ≤ R.slots)
    (kk : ∀ (a : Addr) (T' : State) (h' : Heap) (k1 : Nat), Stand p l e R (s.setVm T'.vm) m args below meth c T' locs (cells + 2) (slots + (n + 4)) → T'.heap = h' → Ext h h' → s.Since T'.vm k1 → k1 ≤ h'.size → Z.Warmed39 (s.setVm T'.vm).vm → (s.setVm T'.vm).vm.findClass own = some m.cls → CHr Z EL vm0 h T'.vm h' → Lit (s.setVm T'.vm) own index a → own_Go p e below P T' (mkF m (pc + 2) Ls (.ref a :: st))) :
    own_Go p e below P T (mkF m pc Ls st) := by
  obtain ⟨a, T', h', k1, X', e', E, S', hk', hZ', hown', hC, hL, stp⟩ := ldcOH X hx hZ hown w wS eT hS hk hEL H (g := mkF m pc Ls st) rfl hd hn hbig hc hl
  exact own_go stp (kk a T' h' k1 X' e' E S' hk' hZ' hown' hC hL)
/-- a String constant that is read -/
theorem own_ldcH (X : Stand p l e R (s.setVm vm0) m args below meth c T locs cells slots) (hx : p.tables.exec = Jvm.exec) (hZ : Z.Warmed39 vm0) {own text : String} {index : Nat} (hown : vm0.findClass own = some m.cls) (w : (Jvm.Cond.stringLink own index text).before a0 Z = true) (wS : ∀ a ∈ Bundle.stringAtoms, a.before a0 Z = true)
    (eT : T.heap = h) {k0 : Nat} (hS : s.Since vm0 k0) (hk : k0 ≤ h.size) (hEL : EW Z a0 EL) (hmem : (own, index) ∈ EL) (H : CHv Z EL vm0 h) {vs : List Value} {z : Int32} (ht : (∀ c ∈ text.toList, c.toNat < 256) ∧ text.toList.map (fun c => Value.int (Jvm.Lit.byteI c.toNat.toUInt16)) = vs) (hz : ¬ z < 0) (hlz : z.toNatClampNeg = vs.length)
    (hd : decode c.code pc = .ok (.ldc index, 2)) (n : Nat) (hn : 4 * text.toList.length ≤ n) (hbig : n ≤ 536870912) (hc : cells + 2 ≤ R.cells) (hl : slots + (n + 4) ≤ R.slots)
    (kk : ∀ (a : Addr) (T' : State) (h' : Heap) (k1 : Nat) (b : Addr) (k : ClassId), Stand p l e R (s.setVm T'.vm) m args below meth c T' locs (cells + 2) (slots + (n + 4)) → T'.heap = h' → Ext h h' → s.Since T'.vm k1 → k1 ≤ h'.size → Z.Warmed39 (s.setVm T'.vm).vm → (s.setVm T'.vm).vm.findClass own = some m.cls →
      Exa Z h' a "java/lang/String" → Fld Z h' a "java/lang/String" "coder" "B" (.int 0) → Fld Z h' a "java/lang/String" "value" "[B" (.ref b) → Arv Z h' b k .byte z vs (.int 0) → CHr Z EL vm0 h T'.vm h' → Lit (s.setVm T'.vm) own index a → (∀ x, Safe Z EL T'.vm h' x → x ≠ a ∧ x ≠ b) → own_Go p e below P T' (mkF m (pc + 2) Ls (.ref a :: st))) :
    own_Go p e below P T (mkF m pc Ls st) := by
  obtain ⟨a, T', h', k1, b, k, X', e', E, S', hk', hZ', hown', q1, q2, q3, q4, -, -, hC, hL, hne, stp⟩ := ldcCH X hx hZ hown w wS eT hS hk hEL hmem H ht hz hlz (g := mkF m pc Ls st) rfl hd hn hbig hc hl
  exact own_go stp (kk a T' h' k1 b k X' e' E S' hk' hZ' hown' q1 q2 q3 q4 hC hL hne)
theorem own_callSH (X : Stand p l e R (s.setVm vm0) m args below meth c T locs cells slots) (hx : p.tables.exec = Jvm.exec) (hZ : Z.Warmed39 vm0) {own : String} {index : Nat} {y : MethodName} {bytes : ByteArray} {maxL : Nat} {ret : Option FieldType} (hown : vm0.findClass own = some m.cls)
    (w1 : (Jvm.Cond.methodLink own index y).before a0 Z = true) (w2 : (Jvm.Cond.static y).before a0 Z = true) (w3 : (Jvm.Cond.initialized y.cls).before a0 Z = true) (w4 : (Jvm.Cond.code y bytes maxL ret).before a0 Z = true) (hy : y.cls ≠ "java/lang/invoke/MethodHandle" ∧ y.cls ≠ "java/lang/invoke/VarHandle")
    {argsL rest : List Value} {rm : Room} {Q : Option Value → Heap → List Loc → Prop} (hM : own_MetH l Z EL y bytes maxL ret rm (argsL).toArray h Q) (hEL : EW Z a0 EL) (H : CHv Z EL vm0 h) {k0 : Nat} (hS : s.Since vm0 k0) (hk : k0 ≤ h.size) (eT : T.heap = h) {st : List Value} (hsize : Ls.size = c.maxLocals)
    (hlen : ∀ sig, parseMethodDescriptor y.desc = some sig → argsL.length = sig.parameters.length) (hstack : st = argsL.reverse ++ rest) (hd : decode c.code pc = .ok (.invokestatic index, 3)) {W : Nat} (hW : (rest.map fun v => v.category).sum ≤ W) (h4 : rm.frames + 1 ≤ R.frames ∧ W + (maxL + 11) + rm.locals ≤ R.locals ∧ cells + rm.cells ≤ R.cells ∧ slots + rm.slots ≤ R.slots)
    (k : ∀ (v : Option Value) (T' : State) (L : List Loc), Stand p l e R (s.setVm T'.vm) m args below meth c T' (locs ++ L) (cells + rm.cells) (slots + rm.slots) → s.Since T'.vm T'.heap.size → Z.Warmed39 (s.setVm T'.vm).vm → (s.setVm T'.vm).vm.findClass own = some m.cls → CHr Z EL vm0 h T'.vm T'.heap → Q v T'.heap L → own_Go p e below P T' (mkF m (pc + 3) Ls (v.toList ++ rest))) : own_Go p e below P T (mkF m pc Ls st) := by
  obtain ⟨v, _, ⟨T', L', k', n'⟩, -, X', hS', hg, ⟨Lc, hQ, l1, y1, z1, hC⟩, stp⟩ := callSS X hx (y := y) hown (mvT (s := s.setVm vm0) hZ w1) (mvT (s := s.setVm vm0) hZ w2) (mvT (s := s.setVm vm0) hZ w3) (mvT (s := s.setVm vm0) hZ w4) hy (backOfSH (W := W) (hM []) hZ w4 w3 h4.1 h4.2.1 hEL H) (g := mkF m pc Ls st) rfl hsize (argsL := argsL) (rest := rest) hlen hstack (by show 2 * 0 + _ ≤ _; omega) hd (fun _ _ => ⟨rfl, eT, h4.2.2.1, h4.2.2.2⟩)
  dsimp only [Pt.U, Pt.locs, Pt.cells, Pt.slots] at X' l1 y1 z1 stp hQ hS' hg hC
  subst l1 y1 z1
  exact own_go (fun _ q => stp.trans q) (k v T' Lc X' (foldS hS (by rw [eT]; exact hk) hS' hg) (State.Warmed39.trans (t := s.setVm vm0) hZ hS'.1) (by rw [show (s.setVm T'.vm).vm = T'.vm from rfl, hS'.1.alike.findClass]; exact hown) hC hQ)
theorem own_callNH (X : Stand p l e R (s.setVm vm0) m args below meth c T locs cells slots) (hx : p.tables.exec = Jvm.exec) (hZ : Z.Warmed39 vm0) {own : String} {index : Nat} {y : MethodName} {bytes : ByteArray} {maxL : Nat} (hown : vm0.findClass own = some m.cls)
    (w1 : (Jvm.Cond.methodLink own index y).before a0 Z = true) (w2 : (Jvm.Cond.instanceMethod y).before a0 Z = true) (w4 : (Jvm.Cond.code y bytes maxL none).before a0 Z = true) (w3 : (Jvm.Cond.initialized y.cls).before a0 Z = true) (hy : y.cls ≠ "java/lang/invoke/MethodHandle" ∧ y.cls ≠ "java/lang/invoke/VarHandle") (hn : y.name = "<init>")
    {argsL rest : List Value} {rm : Room} {Q : Option Value → Heap → List Loc → Prop} (hM : own_MetH l Z EL y bytes maxL none rm (.ref b :: argsL).toArray h Q) (hEL : EW Z a0 EL) (H : CHv Z EL vm0 h) {k0 : Nat} (hS : s.Since vm0 k0) (hk : k0 ≤ h.size) (eT : T.heap = h) {st : List Value} (hsize : Ls.size = c.maxLocals)
    (hlen : ∀ sig, parseMethodDescriptor y.desc = some sig → argsL.length = sig.parameters.length) (hstack : st = argsL.reverse ++ .ref b :: rest) (hd : decode c.code pc = .ok (.invokespecial index, 3)) {W : Nat} (hW : (rest.map fun v => v.category).sum ≤ W) (h4 : rm.frames + 1 ≤ R.frames ∧ W + (maxL + 11) + rm.locals ≤ R.locals ∧ cells + rm.cells ≤ R.cells ∧ slots + rm.slots ≤ R.slots)
    (k : ∀ (v : Option Value) (T' : State) (L : List Loc), Stand p l e R (s.setVm T'.vm) m args below meth c T' (locs ++ L) (cells + rm.cells) (slots + rm.slots) → s.Since T'.vm T'.heap.size → Z.Warmed39 (s.setVm T'.vm).vm → (s.setVm T'.vm).vm.findClass own = some m.cls → CHr Z EL vm0 h T'.vm T'.heap → Q v T'.heap L → own_Go p e below P T' (mkF m (pc + 3) Ls (v.toList ++ rest))) : own_Go p e below P T (mkF m pc Ls st) := by
  obtain ⟨v, _, ⟨T', L', k', n'⟩, -, X', hS', hg, ⟨Lc, hQ, l1, y1, z1, hC⟩, stp⟩ := X.specialBackS hx (y := y) hn hown (mvT (s := s.setVm vm0) hZ w1) (mvT (s := s.setVm vm0) hZ w2) (mvT (s := s.setVm vm0) hZ w4) hy (backOfSH (W := W) (hM []) hZ w4 w3 h4.1 h4.2.1 hEL H) (g := mkF m pc Ls st) rfl hsize (Steps.refl _) (a := b) (argsL := argsL) (rest := rest) hlen hstack (by show 2 * 0 + _ ≤ _; omega) hd (fun _ _ => ⟨rfl, eT, h4.2.2.1, h4.2.2.2⟩)
  dsimp only [Pt.U, Pt.locs, Pt.cells, Pt.slots] at X' l1 y1 z1 stp hQ hS' hg hC
  subst l1 y1 z1
  exact own_go (fun _ q => stp.trans q) (k v T' Lc X' (foldS hS (by rw [eT]; exact hk) hS' hg) (State.Warmed39.trans (t := s.setVm vm0) hZ hS'.1) (by rw [show (s.setVm T'.vm).vm = T'.vm from rfl, hS'.1.alike.findClass]; exact hown) hC hQ)
theorem own_callVH (X : Stand p l e R (s.setVm vm0) m args below meth c T locs cells slots) (hx : p.tables.exec = Jvm.exec) (hZ : Z.Warmed39 vm0) {own C : String} {index : Nat} {y z : MethodName} {bytes : ByteArray} {maxL : Nat} {ret : Option FieldType} (hown : vm0.findClass own = some m.cls)
    (w1 : (Jvm.Cond.methodLink own index y).before a0 Z = true) (w2 : (Jvm.Cond.declares y).before a0 Z = true) (nf : NotFace (s.setVm vm0) y) (w3 : (Jvm.Cond.selects C y z).before a0 Z = true) (w4 : (Jvm.Cond.instanceMethod z).before a0 Z = true) (w5 : (Jvm.Cond.code z bytes maxL ret).before a0 Z = true) (w6 : (Jvm.Cond.initialized z.cls).before a0 Z = true) (hy : y.cls ≠ "java/lang/invoke/MethodHandle" ∧ y.cls ≠ "java/lang/invoke/VarHandle")
    {argsL rest : List Value} {rm : Room} {Q : Option Value → Heap → List Loc → Prop} (hM : own_MetH l Z EL z bytes maxL ret rm (.ref b :: argsL).toArray h Q) (hEL : EW Z a0 EL) (H : CHv Z EL vm0 h) {k0 : Nat} (hS : s.Since vm0 k0) (hk : k0 ≤ h.size) (eT : T.heap = h) (E : Exa Z h b C) {st : List Value} (hsize : Ls.size = c.maxLocals)
    (hlen : ∀ sig, parseMethodDescriptor y.desc = some sig → argsL.length = sig.parameters.length) (hstack : st = argsL.reverse ++ .ref b :: rest) (hd : decode c.code pc = .ok (.invokevirtual index, 3)) {W : Nat} (hW : (rest.map fun v => v.category).sum ≤ W) (h4 : rm.frames + 1 ≤ R.frames ∧ W + (maxL + 11) + rm.locals ≤ R.locals ∧ cells + rm.cells ≤ R.cells ∧ slots + rm.slots ≤ R.slots)
    (k : ∀ (v : Option Value) (T' : State) (L : List Loc), Stand p l e R (s.setVm T'.vm) m args below meth c T' (locs ++ L) (cells + rm.cells) (slots + rm.slots) → s.Since T'.vm T'.heap.size → Z.Warmed39 (s.setVm T'.vm).vm → (s.setVm T'.vm).vm.findClass own = some m.cls → CHr Z EL vm0 h T'.vm T'.heap → Q v T'.heap L → own_Go p e below P T' (mkF m (pc + 3) Ls (v.toList ++ rest))) : own_Go p e below P T (mkF m pc Ls st) := by
  obtain ⟨cq, kq, qa, qb, qc⟩ := isOf (s := s.setVm vm0) hZ eT E
  obtain ⟨v, _, ⟨T', L', k', n'⟩, -, X', hS', hg, ⟨Lc, hQ, l1, y1, z1, hC⟩, stp⟩ := X.virtualBackS hx (y := y) (z := z) hown (mvT (s := s.setVm vm0) hZ w1) (mvT (s := s.setVm vm0) hZ w2) nf (mvT (s := s.setVm vm0) hZ w3) (mvT (s := s.setVm vm0) hZ w4) hy (backOfSH (W := W) (hM []) hZ w5 w6 h4.1 h4.2.1 hEL H) qa qc (g := mkF m pc Ls st) rfl hsize (Steps.refl _) (argsL := argsL) (rest := rest) hlen hstack (by show 2 * 0 + _ ≤ _; omega) hd (fun _ _ => ⟨rfl, eT, h4.2.2.1, h4.2.2.2⟩)
  dsimp only [Pt.U, Pt.locs, Pt.cells, Pt.slots] at X' l1 y1 z1 stp hQ hS' hg hC
  subst l1 y1 z1
  exact own_go (fun _ q => stp.trans q) (k v T' Lc X' (foldS hS (by rw [eT]; exact hk) hS' hg) (State.Warmed39.trans (t := s.setVm vm0) hZ hS'.1) (by rw [show (s.setVm T'.vm).vm = T'.vm from rfl, hS'.1.alike.findClass]; exact hown) hC hQ)
/-- a String under construction is no constant's -/
theorem own_safe0 {vm : Vm} {x : Addr} (hal : Z.vm.Alike vm) (E : Exa Z h x "java/lang/String") (F : Fld Z h x "java/lang/String" "value" "[B" .null) : Safe Z EL vm h x := fun B => by
  obtain ⟨p, hp, u, a, hb, q, hq, ⟨cS, ⟨⟨s1, s2, s3, ⟨cv, kv, iv, s4, s4'⟩, s5, s6, s7, s8, s9, s10, -⟩, hfS, hcS⟩, -, hB, -⟩, hy⟩ := B
  obtain ⟨cell, k, e1, e2, e3, -, -⟩ := E
  obtain ⟨cell', cf, k', i, f, f1, f2, -, -, -, -, f7⟩ := F
  cases e1.symm.trans f1
  rcases hy with rfl | rfl
  · have hs1 : h[q.sa]? = some q.sC := s1
    cases e1.symm.trans hs1
    obtain ⟨kv', z4⟩ := ff_back (U := Wst Z vm h) hal s4
    have z4' : Z.fieldFound? "java/lang/String" "value" "[B" = some (cv, kv', iv, q.fSV) := z4
    cases f2.symm.trans z4'
    have s8' : q.sC.slots[q.fSV.slot]? = some (.ref q.sd) := s8
    rw [f7] at s8'
    cases s8'
  · have hs1 : h[q.sd]? = some q.SA := s10
    cases e1.symm.trans hs1
    have hB' : vm.findClass "[B" = some q.SA.cls := hB
    rw [hal.findClass] at hB'
    obtain ⟨k1, q1, q2⟩ := Vm.findClass_spec hB'
    obtain ⟨k2, q3, q4⟩ := Vm.findClass_spec e2
    cases q1.symm.trans q3
    exact absurd (q2.symm.trans q4) (by decide)
end Own4
theorem own_bytes : ∀ n : Fin 256, ((Int32.ofNat n.val).toInt8.toInt32 &&& 255) = Int32.ofNat n.val ∧ (Int32.ofNat n.val).toUInt32.toUInt16.toUInt32.toInt32 = Int32.ofNat n.val := by decide +kernel
theorem own_nat (c : Int32) (h : ¬ c < 0 ∧ ¬ (255 : Int32) < c) : ∃ n : Fin 256, c = Int32.ofNat n.val := by
  have e0 : (0 : Int32).toInt = 0 := rfl
  have e1 : (255 : Int32).toInt = 255 := rfl
  obtain ⟨h1, h2⟩ := h
  rw [Int32.lt_iff_toInt_lt, e0] at h1
  rw [Int32.lt_iff_toInt_lt, e1] at h2
  refine ⟨⟨c.toInt.toNat, by omega⟩, Int32.toInt_inj.mp ?_⟩
  rw [Int32.toInt_ofNat_small (by show c.toInt.toNat < 2 ^ 31; omega)]
  show c.toInt = (c.toInt.toNat : Int); omega
theorem own_rt (c : Int32) (h : ¬ c < 0 ∧ ¬ (255 : Int32) < c) : (c.toInt8.toInt32 &&& 255) = c := by obtain ⟨n, rfl⟩ := own_nat c h; exact (own_bytes n).1
theorem own_ic (c : Int32) (h : ¬ c < 0 ∧ ¬ (255 : Int32) < c) : c.toUInt32.toUInt16.toUInt32.toInt32 = c := by obtain ⟨n, rfl⟩ := own_nat c h; exact (own_bytes n).2
theorem own_nc (c : Int32) (h : ¬ c < 0 ∧ ¬ (255 : Int32) < c) : narrow .char (.int c) = .int c := by
  have q := own_ic c h
  show Value.int c.toUInt32.toUInt16.toUInt32.toInt32 = _
  rw [q]
theorem own_and255 (x : Int32) : 0 ≤ (x &&& 255).toInt ∧ (x &&& 255).toInt ≤ 255 := by
  have h : (x &&& 255).toInt = x.toInt % 2 ^ 8 := Jvm.Kit.i32_mask x 255 (k := 8) (by decide) (by decide)
  rw [h]; omega
theorem own_ch (x : Int32) : ¬ (x &&& 255) < 0 ∧ ¬ (255 : Int32) < (x &&& 255) := by
  have h := own_and255 x
  have e0 : (0 : Int32).toInt = 0 := rfl
  have e1 : (255 : Int32).toInt = 255 := rfl
  rw [Int32.lt_iff_toInt_lt, Int32.lt_iff_toInt_lt, e0, e1]; omega
theorem own_rem5 (x : Int32) : 0 ≤ ((x &&& 2147483647) % 5).toInt ∧ ((x &&& 2147483647) % 5).toInt ≤ 4 := by
  have h : (x &&& 2147483647).toInt = x.toInt % 2 ^ 31 := Jvm.Kit.i32_mask x 2147483647 (k := 31) (by decide) (by decide)
  have q : ((x &&& 2147483647) % 5).toInt = (x &&& 2147483647).toInt % (5 : Int32).toInt := Jvm.Kit.i32_rem_nonneg (by omega)
  have e : (5 : Int32).toInt = 5 := rfl
  rw [q, e]; omega
theorem own_cases (i : Int32) (hi : 0 ≤ i.toInt ∧ i.toInt ≤ 4) : i = 0 ∨ i = 1 ∨ i = 2 ∨ i = 3 ∨ i = 4 := by
  have h : i.toInt = 0 ∨ i.toInt = 1 ∨ i.toInt = 2 ∨ i.toInt = 3 ∨ i.toInt = 4 := by omega
  rcases h with h | h | h | h | h
  · exact Or.inl (own_i32 0 rfl h)
  · exact Or.inr (Or.inl (own_i32 1 rfl h))
  · exact Or.inr (Or.inr (Or.inl (own_i32 2 rfl h)))
  · exact Or.inr (Or.inr (Or.inr (Or.inl (own_i32 3 rfl h))))
  · exact Or.inr (Or.inr (Or.inr (Or.inr ((own_i32 4 rfl h)))))
def own_EL : List (String × Nat) := [("java/lang/StringLatin1", 151)]
theorem own_EW {Z : State} {a0 : Array Value} (hw : ∀ d ∈ tables_1, d.before a0 Z = true) : EW Z a0 own_EL := (EW.cons (own_hw hw 146 rfl) (by decide) EW.nil)
def own_Gs (Z : State) (z : Int32) (sf : Value) : Prop := Sta Z Z.heap "java/lang/String" "COMPACT_STRINGS" "Z" (.int z) ∧ ¬ z = 0 ∧ Sta Z Z.heap "jdk/internal/util/Preconditions" "SIOOBE_FORMATTER" "Ljava/util/function/BiFunction;" sf ∧ sf.isRef = true
abbrev own_E (Z : State) (h : Heap) (t : Addr) : Prop := Exa Z h t "java/lang/String"
abbrev own_V (Z : State) (h : Heap) (t b : Addr) : Prop := Fld Z h t "java/lang/String" "value" "[B" (.ref b)
abbrev own_C (Z : State) (h : Heap) (t : Addr) : Prop := Fld Z h t "java/lang/String" "coder" "B" (.int 0)
theorem d8_0 : decode jdk_30_method_1_code 0 = .ok (.aload_n 0, 1) := by decide +kernel
theorem d8_1 : decode jdk_30_method_1_code 1 = .ok (.invokespecial 1, 3) := by decide +kernel
theorem d8_4 : decode jdk_30_method_1_code 4 = .ok (.return_, 1) := by decide +kernel
def own_r_own_ri : Room := { frames := 1, cells := 0, slots := 0, locals := 12 }
theorem own_ri (l : Launch) (Z : State) (a0 : Array Value) (hw : own_W a0 Z) (a1 : Addr) (h0 : Heap) (n0 : Nat)  :
    own_Met l Z (⟨"java/lang/Record", "<init>", "()V"⟩ : MethodName) jdk_30_method_1_code 1 none own_r_own_ri #[(.ref a1)] h0 (own_Qv none h0 n0) := by
  refine own_body (by decide +kernel) ?_
  intro p e s m below meth c T0 X0 hx hZ hby hml hown hnm hret hlk e0
  have N0 := Fr.nil n0
  refine own_cast (own_frame (L := [rv a1]) (ls := #[rv a1]) rfl rfl) ?_
  refine og_aloadN X0 hx (hb hby d8_0) rfl rfl ?_
  obtain ⟨T1, X1, e1, st1⟩ := initO X0 hx hZ hown (own_hw hw 46 rfl) (own_hw hw 13 rfl) (own_hw hw 14 rfl) e0 (g := (mkF m 1 #[rv a1] [(.ref a1)])) rfl (by rw [hml]; rfl) rfl (hb hby d8_1) (by decide) (W := 0) (by show 2 * 0 + _ ≤ _; exact Nat.le_of_eq rfl) (by decide)
  refine own_go st1 ?_
  show own_Go p e below _ T1 (mkF m 4 #[rv a1] [])
  exact own_retV X1 hx hret hlk (hb hby d8_4) (by decide) (by decide) (⟨rfl, N0, e1⟩)
theorem d12_0 : decode jdk_41_method_11_code 0 = .ok (.iload_n 0, 1) := by decide +kernel
theorem d12_1 : decode jdk_41_method_11_code 1 = .ok (.ifCond .lt 8, 3) := by decide +kernel
theorem d12_4 : decode jdk_41_method_11_code 4 = .ok (.iload_n 0, 1) := by decide +kernel
theorem d12_5 : decode jdk_41_method_11_code 5 = .ok (.iload_n 1, 1) := by decide +kernel
theorem d12_6 : decode jdk_41_method_11_code 6 = .ok (.if_icmp .lt 10, 3) := by decide +kernel
theorem d12_16 : decode jdk_41_method_11_code 16 = .ok (.iload_n 0, 1) := by decide +kernel
theorem d12_17 : decode jdk_41_method_11_code 17 = .ok (.ireturn, 1) := by decide +kernel
def own_r_own_pckn : Room := { frames := 0, cells := 0, slots := 0, locals := 0 }
theorem own_pckn (l : Launch) (Z : State) (a0 : Array Value) (hw : own_W a0 Z) (i n : Int32) (h0 : Heap) (n0 : Nat) (h1 : ¬ i < 0) (h2 : i < n) :
    own_Met l Z (⟨"jdk/internal/util/Preconditions", "checkIndex", "(IILjava/util/function/BiFunction;)I"⟩ : MethodName) jdk_41_method_11_code 3 (some .int) own_r_own_pckn #[(.int i), (.int n), .null] h0 (own_Qv (some (.int i)) h0 n0) := by
  refine own_body (by decide +kernel) ?_
  intro p e s m below meth c T0 X0 hx hZ hby hml hown hnm hret hlk e0
  have N0 := Fr.nil n0
  refine own_cast (own_frame (L := [iv i, iv n, .val .null]) (ls := #[iv i, iv n, .val .null]) rfl rfl) ?_
  refine og_iloadN X0 hx (hb hby d12_0) rfl ?_
  refine og_ifN X0 hx (hb hby d12_1) (flt h1).1 ?_
  refine og_iloadN X0 hx (hb hby d12_4) rfl ?_
  refine og_iloadN X0 hx (hb hby d12_5) rfl ?_
  refine og_icY X0 hx 16 (hb hby d12_6) (tlt h2).1 (by decide) (by decide) ?_
  refine og_iloadN X0 hx (hb hby d12_16) rfl ?_
  exact own_retI X0 hx hret hlk (hb hby d12_17) rfl (by simp) (by decide) (by decide) (⟨rfl, N0, e0⟩)
theorem d11_0 : decode jdk_31_method_17_code 0 = .ok (.iload_n 0, 1) := by decide +kernel
theorem d11_1 : decode jdk_31_method_17_code 1 = .ok (.iload_n 1, 1) := by decide +kernel
theorem d11_2 : decode jdk_31_method_17_code 2 = .ok (.aconst_null, 1) := by decide +kernel
theorem d11_3 : decode jdk_31_method_17_code 3 = .ok (.invokestatic 105, 3) := by decide +kernel
theorem d11_6 : decode jdk_31_method_17_code 6 = .ok (.ireturn, 1) := by decide +kernel
theorem own_pd6315 : parseMethodDescriptor "(IILjava/util/function/BiFunction;)I" = some ⟨[.int, .int, (.object "java/util/function/BiFunction")], some .int⟩ := by decide +kernel
def own_r_own_oci_0 : Room := { frames := 1, cells := 0, slots := 0, locals := 14 }
theorem own_oci_0 (l : Launch) (Z : State) (a0 : Array Value) (hw : own_W a0 Z)  (h0 : Heap) (n0 : Nat)  :
    own_Met l Z (⟨"java/util/Objects", "checkIndex", "(II)I"⟩ : MethodName) jdk_31_method_17_code 2 (some .int) own_r_own_oci_0 #[(.int 0), (.int 5)] h0 (own_Qv (some (.int 0)) h0 n0) := by
  refine own_body (by decide +kernel) ?_
  intro p e s m below meth c T0 X0 hx hZ hby hml hown hnm hret hlk e0
  have N0 := Fr.nil n0
  refine own_cast (own_frame (L := [iv 0, iv 5]) (ls := #[iv 0, iv 5]) rfl rfl) ?_
  refine og_iloadN X0 hx (hb hby d11_0) rfl ?_
  refine og_iloadN X0 hx (hb hby d11_1) rfl ?_
  refine og_null X0 hx (hb hby d11_2) ?_
  refine own_callS X0 hx hZ hown (own_hw hw 61 rfl) (own_hw hw 62 rfl) (own_hw hw 63 rfl) (own_hw hw 64 rfl) (by decide) (argsL := [(.int 0), (.int 5), .null]) (rest := []) (own_pckn l Z a0 hw 0 5 h0 n0 (by decide) (by decide)) e0 (by rw [hml]; rfl) (lenOf own_pd6315 rfl) rfl (hb hby d11_3) (W := 0) (Nat.le_of_eq rfl) (by decide) ?_
  intro v1 T1 L1 X1 q1
  obtain ⟨rfl, N1q, e1⟩ := q1
  have N1 := Fr.app N0 N1q
  show own_Go p e below _ T1 (mkF m 6 #[iv 0, iv 5] [(.int 0)])
  exact own_retI X1 hx hret hlk (hb hby d11_6) rfl (by simp) (by decide) (by decide) (⟨rfl, N1, e1⟩)
def own_Qc0 (Z : State) (a1 t : Addr) (h0 : Heap) (n0 : Nat) (v : Option Value) (h : Heap) (L : List Loc) : Prop := v = none ∧ Fr n0 L ∧ Keep h0 h [a1] ∧ Fld Z h a1 "com/example/winnow/winnow/contacts/ContentLine" "text" "Ljava/lang/String;" (.ref t) ∧ Fld Z h a1 "com/example/winnow/winnow/contacts/ContentLine" "valueStart" "I" (.int (0 : Int32))
theorem own_shr0 (n : Int32) : (n >>> ((0 : Int32) &&& 31)) = n := Int32.toInt_inj.mp (by rw [Jvm.Kit.i32_shr n _ (k := 0) (by decide)]; omega)
theorem d10_0 : decode jdk_42_method_152_code 0 = .ok (.getstatic 38, 3) := by decide +kernel
theorem d10_3 : decode jdk_42_method_152_code 3 = .ok (.ifCond .eq 10, 3) := by decide +kernel
theorem d10_6 : decode jdk_42_method_152_code 6 = .ok (.aload_n 0, 1) := by decide +kernel
theorem d10_7 : decode jdk_42_method_152_code 7 = .ok (.getfield 15, 3) := by decide +kernel
theorem d10_10 : decode jdk_42_method_152_code 10 = .ok (.goto 4, 3) := by decide +kernel
theorem d10_14 : decode jdk_42_method_152_code 14 = .ok (.ireturn, 1) := by decide +kernel
def own_r_own_coder : Room := { frames := 0, cells := 0, slots := 0, locals := 0 }
theorem own_coder (l : Launch) (Z : State) (a0 : Array Value) (hw : own_W a0 Z) (z : Int32) (sf : Value) (t : Addr) (h0 : Heap) (n0 : Nat) (hO : Old Z n0 h0) (hG : own_Gs Z z sf) (Fc : own_C Z h0 t) :
    own_Met l Z (⟨"java/lang/String", "coder", "()B"⟩ : MethodName) jdk_42_method_152_code 1 (some .byte) own_r_own_coder #[(.ref t)] h0 (own_Qv (some (.int 0)) h0 n0) := by
  refine own_body (by decide +kernel) ?_
  intro p e s m below meth c T0 X0 hx hZ hby hml hown hnm hret hlk e0
  have N0 := Fr.nil n0
  refine own_cast (own_frame (L := [rv t]) (ls := #[rv t]) rfl rfl) ?_
  obtain ⟨SC, hz, SF, rf⟩ := id hG
  refine og_getS X0 hx hZ hown (own_hw hw 15 rfl) Via.refl e0 (SC.ext hO.2) (hb hby d10_0) ?_
  intro T1 X1 e1
  show own_Go p e below _ T1 (mkF m 3 #[rv t] [(.int z)])
  refine og_ifN X1 hx (hb hby d10_3) (feq hz).1 ?_
  refine og_aloadN X1 hx (hb hby d10_6) rfl rfl ?_
  refine og_getF X1 hx hZ hown (own_hw hw 27 rfl) Via.refl e1 Fc (hb hby d10_7) ?_
  intro T2 X2 e2
  refine og_goto X2 hx 14 (hb hby d10_10) (by decide) (by decide) ?_
  exact own_retI X2 hx hret hlk (hb hby d10_14) rfl (by simp) (by decide) (by decide) (⟨rfl, N0, e2⟩)
theorem d9_0 : decode jdk_42_method_54_code 0 = .ok (.aload_n 0, 1) := by decide +kernel
theorem d9_1 : decode jdk_42_method_54_code 1 = .ok (.getfield 9, 3) := by decide +kernel
theorem d9_4 : decode jdk_42_method_54_code 4 = .ok (.arraylength, 1) := by decide +kernel
theorem d9_5 : decode jdk_42_method_54_code 5 = .ok (.aload_n 0, 1) := by decide +kernel
theorem d9_6 : decode jdk_42_method_54_code 6 = .ok (.invokevirtual 335, 3) := by decide +kernel
theorem d9_9 : decode jdk_42_method_54_code 9 = .ok (.ishr, 1) := by decide +kernel
theorem d9_10 : decode jdk_42_method_54_code 10 = .ok (.ireturn, 1) := by decide +kernel
theorem own_pd59997 : parseMethodDescriptor "()B" = some ⟨[], some .byte⟩ := by decide +kernel
def own_r_own_slen : Room := { frames := 1, cells := 0, slots := 0, locals := 13 }
theorem own_slen (l : Launch) (Z : State) (a0 : Array Value) (hw : own_W a0 Z) (z : Int32) (sf : Value) (t b : Addr) (kb : ClassId) (dv : Value) (n : Int32) (vs : List Value) (h0 : Heap) (n0 : Nat) (hO : Old Z n0 h0) (hG : own_Gs Z z sf) (Et : own_E Z h0 t) (Fv : own_V Z h0 t b) (Fc : own_C Z h0 t) (Ab : Arv Z h0 b kb .byte n vs dv) :
    own_Met l Z (⟨"java/lang/String", "length", "()I"⟩ : MethodName) jdk_42_method_54_code 1 (some .int) own_r_own_slen #[(.ref t)] h0 (own_Qv (some (.int n)) h0 n0) := by
  refine own_body (by decide +kernel) ?_
  intro p e s m below meth c T0 X0 hx hZ hby hml hown hnm hret hlk e0
  have N0 := Fr.nil n0
  refine own_cast (own_frame (L := [rv t]) (ls := #[rv t]) rfl rfl) ?_
  obtain ⟨SC, hz, SF, rf⟩ := id hG
  refine og_aloadN X0 hx (hb hby d9_0) rfl rfl ?_
  refine og_getF X0 hx hZ hown (own_hw hw 29 rfl) Via.refl e0 Fv (hb hby d9_1) ?_
  intro T1 X1 e1
  show own_Go p e below _ T1 (mkF m 4 #[rv t] [(.ref b)])
  refine own_len X1 hx hZ e1 Ab (hb hby d9_4) ?_
  show own_Go p e below _ T1 (mkF m 5 #[rv t] [(.int n)])
  refine og_aloadN X1 hx (hb hby d9_5) rfl rfl ?_
  refine own_callV X1 hx hZ hown (own_hw hw 52 rfl) (own_hw hw 53 rfl) (notFace_of_selects (args := #[]) (mvT hZ (own_hw hw 55 rfl))) (own_hw hw 55 rfl) (own_hw hw 54 rfl) (own_hw hw 56 rfl) (own_hw hw 4 rfl) (by decide) (b := t) (argsL := []) (rest := [(.int n)]) (own_coder l Z a0 hw z sf t h0 n0 hO hG Fc) e1 Et (by rw [hml]; rfl) (lenOf own_pd59997 rfl) rfl (hb hby d9_6) (W := 1) (Nat.le_of_eq rfl) (by decide) ?_
  intro v2 T2 L2 X2 q2
  obtain ⟨rfl, N2q, e2⟩ := q2
  have N2 := Fr.app N0 N2q
  show own_Go p e below _ T2 (mkF m 9 #[rv t] [(.int (0 : Int32)), (.int n)])
  refine own_go (fun t k => XS.ishr X2.here hx rfl (hb hby d9_9) rfl k) ?_
  show own_Go p e below _ T2 (mkF m 10 #[rv t] [(.int (n >>> ((0 : Int32) &&& 31)))])
  rw [own_shr0 n]
  show own_Go p e below _ T2 (mkF m 10 #[rv t] [(.int n)])
  exact own_retI X2 hx hret hlk (hb hby d9_10) rfl (by simp) (by decide) (by decide) (⟨rfl, N2, e2⟩)
theorem d7_0 : decode prog_25_method_1_code 0 = .ok (.aload_n 0, 1) := by decide +kernel
theorem d7_1 : decode prog_25_method_1_code 1 = .ok (.invokespecial 1, 3) := by decide +kernel
theorem d7_4 : decode prog_25_method_1_code 4 = .ok (.iload 5, 2) := by decide +kernel
theorem d7_6 : decode prog_25_method_1_code 6 = .ok (.aload_n 2, 1) := by decide +kernel
theorem d7_7 : decode prog_25_method_1_code 7 = .ok (.invokevirtual 7, 3) := by decide +kernel
theorem d7_10 : decode prog_25_method_1_code 10 = .ok (.iconst 1, 1) := by decide +kernel
theorem d7_11 : decode prog_25_method_1_code 11 = .ok (.iadd, 1) := by decide +kernel
theorem d7_12 : decode prog_25_method_1_code 12 = .ok (.invokestatic 13, 3) := by decide +kernel
theorem d7_15 : decode prog_25_method_1_code 15 = .ok (.pop, 1) := by decide +kernel
theorem d7_16 : decode prog_25_method_1_code 16 = .ok (.aload_n 0, 1) := by decide +kernel
theorem d7_17 : decode prog_25_method_1_code 17 = .ok (.iload_n 1, 1) := by decide +kernel
theorem d7_18 : decode prog_25_method_1_code 18 = .ok (.putfield 19, 3) := by decide +kernel
theorem d7_21 : decode prog_25_method_1_code 21 = .ok (.aload_n 0, 1) := by decide +kernel
theorem d7_22 : decode prog_25_method_1_code 22 = .ok (.aload_n 2, 1) := by decide +kernel
theorem d7_23 : decode prog_25_method_1_code 23 = .ok (.putfield 25, 3) := by decide +kernel
theorem d7_26 : decode prog_25_method_1_code 26 = .ok (.aload_n 0, 1) := by decide +kernel
theorem d7_27 : decode prog_25_method_1_code 27 = .ok (.aload_n 3, 1) := by decide +kernel
theorem d7_28 : decode prog_25_method_1_code 28 = .ok (.putfield 29, 3) := by decide +kernel
theorem d7_31 : decode prog_25_method_1_code 31 = .ok (.aload_n 0, 1) := by decide +kernel
theorem d7_32 : decode prog_25_method_1_code 32 = .ok (.aload 4, 2) := by decide +kernel
theorem d7_34 : decode prog_25_method_1_code 34 = .ok (.putfield 32, 3) := by decide +kernel
theorem d7_37 : decode prog_25_method_1_code 37 = .ok (.aload_n 0, 1) := by decide +kernel
theorem d7_38 : decode prog_25_method_1_code 38 = .ok (.iload 5, 2) := by decide +kernel
theorem d7_40 : decode prog_25_method_1_code 40 = .ok (.putfield 35, 3) := by decide +kernel
theorem d7_43 : decode prog_25_method_1_code 43 = .ok (.return_, 1) := by decide +kernel
theorem own_pd8992 : parseMethodDescriptor "()V" = some ⟨[], none⟩ := by decide +kernel
theorem own_pd13941 : parseMethodDescriptor "()I" = some ⟨[], some .int⟩ := by decide +kernel
theorem own_pd23903 : parseMethodDescriptor "(II)I" = some ⟨[.int, .int], some .int⟩ := by decide +kernel
def own_r_own_cl_0 : Room := { frames := 2, cells := 0, slots := 0, locals := 27 }
theorem own_cl_0 (l : Launch) (Z : State) (a0 : Array Value) (hw : own_W a0 Z) (z : Int32) (sf : Value) (t b : Addr) (kb : ClassId) (dv : Value) (v0 v1 v2 v3 : Value) (a1 g nm : Addr) (p1 : Int32) (u_number u_text u_group u_name u_valueStart : Value) (h0 : Heap) (n0 : Nat) (hO : Old Z n0 h0) (hG : own_Gs Z z sf) (Et : own_E Z h0 t) (Fv : own_V Z h0 t b) (Fc : own_C Z h0 t) (Ab : Arv Z h0 b kb .byte 4 [v0, v1, v2, v3] dv) (g1 : n0 ≤ a1) (ne1 : a1 ≠ t) (ne2 : a1 ≠ b) (E1 : Exa Z h0 a1 "com/example/winnow/winnow/contacts/ContentLine") (F_number : Fld Z h0 a1 "com/example/winnow/winnow/contacts/ContentLine" "number" "I" u_number) (F_text : Fld Z h0 a1 "com/example/winnow/winnow/contacts/ContentLine" "text" "Ljava/lang/String;" u_text) (F_group : Fld Z h0 a1 "com/example/winnow/winnow/contacts/ContentLine" "group" "Ljava/lang/String;" u_group) (F_name : Fld Z h0 a1 "com/example/winnow/winnow/contacts/ContentLine" "name" "Ljava/lang/String;" u_name) (F_valueStart : Fld Z h0 a1 "com/example/winnow/winnow/contacts/ContentLine" "valueStart" "I" u_valueStart) :
    own_Met l Z (⟨"com/example/winnow/winnow/contacts/ContentLine", "<init>", "(ILjava/lang/String;Ljava/lang/String;Ljava/lang/String;I)V"⟩ : MethodName) prog_25_method_1_code 6 none own_r_own_cl_0 #[(.ref a1), (.int p1), (.ref t), (.ref g), (.ref nm), (.int 0)] h0 (own_Qc0 Z a1 t h0 n0) := by
  refine own_body (by decide +kernel) ?_
  intro p e s m below meth c T0 X0 hx hZ hby hml hown hnm hret hlk e0
  have N0 := Fr.nil n0
  refine own_cast (own_frame (L := [rv a1, iv p1, rv t, rv g, rv nm, iv 0]) (ls := #[rv a1, iv p1, rv t, rv g, rv nm, iv 0]) rfl rfl) ?_
  obtain ⟨SC, hz, SF, rf⟩ := id hG
  refine og_aloadN X0 hx (hb hby d7_0) rfl rfl ?_
  refine own_callN X0 hx hZ hown (own_hw hw 41 rfl) (own_hw hw 42 rfl) (own_hw hw 45 rfl) (own_hw hw 44 rfl) (by decide) rfl (b := a1) (argsL := []) (rest := []) (own_ri l Z a0 hw a1 h0 n0) e0 (by rw [hml]; rfl) (lenOf own_pd8992 rfl) rfl (hb hby d7_1) (W := 0) (Nat.le_of_eq rfl) (by decide) ?_
  intro v1 T1 L1 X1 q1
  obtain ⟨rfl, N1q, e1⟩ := q1
  have N1 := Fr.app N0 N1q
  show own_Go p e below _ T1 (mkF m 4 #[rv a1, iv p1, rv t, rv g, rv nm, iv 0] [])
  refine og_iload X1 hx (hb hby d7_4) rfl ?_
  refine og_aloadN X1 hx (hb hby d7_6) rfl rfl ?_
  refine own_callV X1 hx hZ hown (own_hw hw 47 rfl) (own_hw hw 48 rfl) (notFace_of_selects (args := #[]) (mvT hZ (own_hw hw 50 rfl))) (own_hw hw 50 rfl) (own_hw hw 49 rfl) (own_hw hw 51 rfl) (own_hw hw 4 rfl) (by decide) (b := t) (argsL := []) (rest := [(.int 0)]) (own_slen l Z a0 hw z sf t b _ _ _ _ h0 n0 hO hG Et Fv Fc Ab) e1 Et (by rw [hml]; rfl) (lenOf own_pd13941 rfl) rfl (hb hby d7_7) (W := 1) (Nat.le_of_eq rfl) (by decide) ?_
  intro v2 T2 L2 X2 q2
  obtain ⟨rfl, N2q, e2⟩ := q2
  have N2 := Fr.app N1 N2q
  show own_Go p e below _ T2 (mkF m 10 #[rv a1, iv p1, rv t, rv g, rv nm, iv 0] [(.int 4), (.int 0)])
  refine og_iconst X2 hx (hb hby d7_10) ?_
  refine og_iadd X2 hx (hb hby d7_11) ?_
  show own_Go p e below _ T2 (mkF m 12 #[rv a1, iv p1, rv t, rv g, rv nm, iv 0] [(.int 5), (.int 0)])
  refine own_callS X2 hx hZ hown (own_hw hw 57 rfl) (own_hw hw 58 rfl) (own_hw hw 59 rfl) (own_hw hw 60 rfl) (by decide) (argsL := [(.int 0), (.int 5)]) (rest := []) (own_oci_0 l Z a0 hw h0 n0) e2 (by rw [hml]; rfl) (lenOf own_pd23903 rfl) rfl (hb hby d7_12) (W := 0) (Nat.le_of_eq rfl) (by decide) ?_
  intro v3 T3 L3 X3 q3
  obtain ⟨rfl, N3q, e3⟩ := q3
  have N3 := Fr.app N2 N3q
  show own_Go p e below _ T3 (mkF m 15 #[rv a1, iv p1, rv t, rv g, rv nm, iv 0] [(.int 0)])
  refine og_pop X3 hx (hb hby d7_15) rfl ?_
  refine og_aloadN X3 hx (hb hby d7_16) rfl rfl ?_
  refine og_iloadN X3 hx (hb hby d7_17) rfl ?_
  obtain ⟨T4, h4, X4, e4, W4, st4⟩ := putF X3 hx hZ hown (host := "") (Or.inl (own_hw hw 65 rfl)) Via.refl e3 F_number E1 (Or.inr ⟨(own_hw hw 66 rfl), rfl, hnm⟩) (own_hw hw 32 rfl) (ty := .int) (by decide) rfl rfl (g := (mkF m 18 #[rv a1, iv p1, rv t, rv g, rv nm, iv 0] [(.int p1), (.ref a1)])) rfl rfl (hb hby d7_18)
  refine own_go st4 ?_
  have E_t_4 := Et.wr W4
  have F_t_value_4 := Fv.other W4 (Or.inl (Ne.symm ne1))
  have F_t_coder_4 := Fc.other W4 (Or.inl (Ne.symm ne1))
  have A_b_4 := Ab.other W4 (Ne.symm ne2)
  have E_a1_4 := E1.wr W4
  have F_a1_text_4 := F_text.other W4 (Or.inr (slot_ne (Or.inr (own_hw hw 68 rfl)) (Or.inr (own_hw hw 66 rfl)) (by decide) (t := (.object "java/lang/String")) (t' := .int) (by decide) (by decide)))
  have F_a1_group_4 := F_group.other W4 (Or.inr (slot_ne (Or.inr (own_hw hw 70 rfl)) (Or.inr (own_hw hw 66 rfl)) (by decide) (t := (.object "java/lang/String")) (t' := .int) (by decide) (by decide)))
  have F_a1_name_4 := F_name.other W4 (Or.inr (slot_ne (Or.inr (own_hw hw 72 rfl)) (Or.inr (own_hw hw 66 rfl)) (by decide) (t := (.object "java/lang/String")) (t' := .int) (by decide) (by decide)))
  have F_a1_valueStart_4 := F_valueStart.other W4 (Or.inr (slot_ne (Or.inr (own_hw hw 74 rfl)) (Or.inr (own_hw hw 66 rfl)) (by decide) (t := .int) (t' := .int) (by decide) (by decide)))
  have O4 := hO.wr W4 g1
  have K4 := (Keep.refl h0 [a1]).wr W4 (Or.inl (by simp))
  have N4 := Fr.snoc X4 N3 g1
  have F_a1_number_4 : Fld Z h4 a1 "com/example/winnow/winnow/contacts/ContentLine" "number" "I" (.int p1) := F_number.same W4
  show own_Go p e below _ T4 (mkF m 21 #[rv a1, iv p1, rv t, rv g, rv nm, iv 0] [])
  refine og_aloadN X4 hx (hb hby d7_21) rfl rfl ?_
  refine og_aloadN X4 hx (hb hby d7_22) rfl rfl ?_
  obtain ⟨T5, h5, X5, e5, W5, st5⟩ := putF X4 hx hZ hown (host := "") (Or.inl (own_hw hw 67 rfl)) Via.refl e4 F_a1_text_4 E_a1_4 (Or.inr ⟨(own_hw hw 68 rfl), rfl, hnm⟩) (own_hw hw 32 rfl) (ty := (.object "java/lang/String")) (by decide) rfl rfl (g := (mkF m 23 #[rv a1, iv p1, rv t, rv g, rv nm, iv 0] [(.ref t), (.ref a1)])) rfl rfl (hb hby d7_23)
  refine own_go st5 ?_
  have E_t_5 := E_t_4.wr W5
  have F_t_value_5 := F_t_value_4.other W5 (Or.inl (Ne.symm ne1))
  have F_t_coder_5 := F_t_coder_4.other W5 (Or.inl (Ne.symm ne1))
  have A_b_5 := A_b_4.other W5 (Ne.symm ne2)
  have E_a1_5 := E_a1_4.wr W5
  have F_a1_group_5 := F_a1_group_4.other W5 (Or.inr (slot_ne (Or.inr (own_hw hw 70 rfl)) (Or.inr (own_hw hw 68 rfl)) (by decide) (t := (.object "java/lang/String")) (t' := (.object "java/lang/String")) (by decide) (by decide)))
  have F_a1_name_5 := F_a1_name_4.other W5 (Or.inr (slot_ne (Or.inr (own_hw hw 72 rfl)) (Or.inr (own_hw hw 68 rfl)) (by decide) (t := (.object "java/lang/String")) (t' := (.object "java/lang/String")) (by decide) (by decide)))
  have F_a1_valueStart_5 := F_a1_valueStart_4.other W5 (Or.inr (slot_ne (Or.inr (own_hw hw 74 rfl)) (Or.inr (own_hw hw 68 rfl)) (by decide) (t := .int) (t' := (.object "java/lang/String")) (by decide) (by decide)))
  have F_a1_number_5 := F_a1_number_4.other W5 (Or.inr (slot_ne (Or.inr (own_hw hw 66 rfl)) (Or.inr (own_hw hw 68 rfl)) (by decide) (t := .int) (t' := (.object "java/lang/String")) (by decide) (by decide)))
  have O5 := O4.wr W5 g1
  have K5 := K4.wr W5 (Or.inl (by simp))
  have N5 := Fr.snoc X5 N4 g1
  have F_a1_text_5 : Fld Z h5 a1 "com/example/winnow/winnow/contacts/ContentLine" "text" "Ljava/lang/String;" (.ref t) := F_a1_text_4.same W5
  show own_Go p e below _ T5 (mkF m 26 #[rv a1, iv p1, rv t, rv g, rv nm, iv 0] [])
  refine og_aloadN X5 hx (hb hby d7_26) rfl rfl ?_
  refine og_aloadN X5 hx (hb hby d7_27) rfl rfl ?_
  obtain ⟨T6, h6, X6, e6, W6, st6⟩ := putF X5 hx hZ hown (host := "") (Or.inl (own_hw hw 69 rfl)) Via.refl e5 F_a1_group_5 E_a1_5 (Or.inr ⟨(own_hw hw 70 rfl), rfl, hnm⟩) (own_hw hw 32 rfl) (ty := (.object "java/lang/String")) (by decide) rfl rfl (g := (mkF m 28 #[rv a1, iv p1, rv t, rv g, rv nm, iv 0] [(.ref g), (.ref a1)])) rfl rfl (hb hby d7_28)
  refine own_go st6 ?_
  have E_t_6 := E_t_5.wr W6
  have F_t_value_6 := F_t_value_5.other W6 (Or.inl (Ne.symm ne1))
  have F_t_coder_6 := F_t_coder_5.other W6 (Or.inl (Ne.symm ne1))
  have A_b_6 := A_b_5.other W6 (Ne.symm ne2)
  have E_a1_6 := E_a1_5.wr W6
  have F_a1_name_6 := F_a1_name_5.other W6 (Or.inr (slot_ne (Or.inr (own_hw hw 72 rfl)) (Or.inr (own_hw hw 70 rfl)) (by decide) (t := (.object "java/lang/String")) (t' := (.object "java/lang/String")) (by decide) (by decide)))
  have F_a1_valueStart_6 := F_a1_valueStart_5.other W6 (Or.inr (slot_ne (Or.inr (own_hw hw 74 rfl)) (Or.inr (own_hw hw 70 rfl)) (by decide) (t := .int) (t' := (.object "java/lang/String")) (by decide) (by decide)))
  have F_a1_number_6 := F_a1_number_5.other W6 (Or.inr (slot_ne (Or.inr (own_hw hw 66 rfl)) (Or.inr (own_hw hw 70 rfl)) (by decide) (t := .int) (t' := (.object "java/lang/String")) (by decide) (by decide)))
  have F_a1_text_6 := F_a1_text_5.other W6 (Or.inr (slot_ne (Or.inr (own_hw hw 68 rfl)) (Or.inr (own_hw hw 70 rfl)) (by decide) (t := (.object "java/lang/String")) (t' := (.object "java/lang/String")) (by decide) (by decide)))
  have O6 := O5.wr W6 g1
  have K6 := K5.wr W6 (Or.inl (by simp))
  have N6 := Fr.snoc X6 N5 g1
  have F_a1_group_6 : Fld Z h6 a1 "com/example/winnow/winnow/contacts/ContentLine" "group" "Ljava/lang/String;" (.ref g) := F_a1_group_5.same W6
  show own_Go p e below _ T6 (mkF m 31 #[rv a1, iv p1, rv t, rv g, rv nm, iv 0] [])
  refine og_aloadN X6 hx (hb hby d7_31) rfl rfl ?_
  refine og_aload X6 hx (hb hby d7_32) rfl rfl ?_
  obtain ⟨T7, h7, X7, e7, W7, st7⟩ := putF X6 hx hZ hown (host := "") (Or.inl (own_hw hw 71 rfl)) Via.refl e6 F_a1_name_6 E_a1_6 (Or.inr ⟨(own_hw hw 72 rfl), rfl, hnm⟩) (own_hw hw 32 rfl) (ty := (.object "java/lang/String")) (by decide) rfl rfl (g := (mkF m 34 #[rv a1, iv p1, rv t, rv g, rv nm, iv 0] [(.ref nm), (.ref a1)])) rfl rfl (hb hby d7_34)
  refine own_go st7 ?_
  have E_t_7 := E_t_6.wr W7
  have F_t_value_7 := F_t_value_6.other W7 (Or.inl (Ne.symm ne1))
  have F_t_coder_7 := F_t_coder_6.other W7 (Or.inl (Ne.symm ne1))
  have A_b_7 := A_b_6.other W7 (Ne.symm ne2)
  have E_a1_7 := E_a1_6.wr W7
  have F_a1_valueStart_7 := F_a1_valueStart_6.other W7 (Or.inr (slot_ne (Or.inr (own_hw hw 74 rfl)) (Or.inr (own_hw hw 72 rfl)) (by decide) (t := .int) (t' := (.object "java/lang/String")) (by decide) (by decide)))
  have F_a1_number_7 := F_a1_number_6.other W7 (Or.inr (slot_ne (Or.inr (own_hw hw 66 rfl)) (Or.inr (own_hw hw 72 rfl)) (by decide) (t := .int) (t' := (.object "java/lang/String")) (by decide) (by decide)))
  have F_a1_text_7 := F_a1_text_6.other W7 (Or.inr (slot_ne (Or.inr (own_hw hw 68 rfl)) (Or.inr (own_hw hw 72 rfl)) (by decide) (t := (.object "java/lang/String")) (t' := (.object "java/lang/String")) (by decide) (by decide)))
  have F_a1_group_7 := F_a1_group_6.other W7 (Or.inr (slot_ne (Or.inr (own_hw hw 70 rfl)) (Or.inr (own_hw hw 72 rfl)) (by decide) (t := (.object "java/lang/String")) (t' := (.object "java/lang/String")) (by decide) (by decide)))
  have O7 := O6.wr W7 g1
  have K7 := K6.wr W7 (Or.inl (by simp))
  have N7 := Fr.snoc X7 N6 g1
  have F_a1_name_7 : Fld Z h7 a1 "com/example/winnow/winnow/contacts/ContentLine" "name" "Ljava/lang/String;" (.ref nm) := F_a1_name_6.same W7
  show own_Go p e below _ T7 (mkF m 37 #[rv a1, iv p1, rv t, rv g, rv nm, iv 0] [])
  refine og_aloadN X7 hx (hb hby d7_37) rfl rfl ?_
  refine og_iload X7 hx (hb hby d7_38) rfl ?_
  obtain ⟨T8, h8, X8, e8, W8, st8⟩ := putF X7 hx hZ hown (host := "") (Or.inl (own_hw hw 73 rfl)) Via.refl e7 F_a1_valueStart_7 E_a1_7 (Or.inr ⟨(own_hw hw 74 rfl), rfl, hnm⟩) (own_hw hw 32 rfl) (ty := .int) (by decide) rfl rfl (g := (mkF m 40 #[rv a1, iv p1, rv t, rv g, rv nm, iv 0] [(.int 0), (.ref a1)])) rfl rfl (hb hby d7_40)
  refine own_go st8 ?_
  have E_t_8 := E_t_7.wr W8
  have F_t_value_8 := F_t_value_7.other W8 (Or.inl (Ne.symm ne1))
  have F_t_coder_8 := F_t_coder_7.other W8 (Or.inl (Ne.symm ne1))
  have A_b_8 := A_b_7.other W8 (Ne.symm ne2)
  have E_a1_8 := E_a1_7.wr W8
  have F_a1_number_8 := F_a1_number_7.other W8 (Or.inr (slot_ne (Or.inr (own_hw hw 66 rfl)) (Or.inr (own_hw hw 74 rfl)) (by decide) (t := .int) (t' := .int) (by decide) (by decide)))
  have F_a1_text_8 := F_a1_text_7.other W8 (Or.inr (slot_ne (Or.inr (own_hw hw 68 rfl)) (Or.inr (own_hw hw 74 rfl)) (by decide) (t := (.object "java/lang/String")) (t' := .int) (by decide) (by decide)))
  have F_a1_group_8 := F_a1_group_7.other W8 (Or.inr (slot_ne (Or.inr (own_hw hw 70 rfl)) (Or.inr (own_hw hw 74 rfl)) (by decide) (t := (.object "java/lang/String")) (t' := .int) (by decide) (by decide)))
  have F_a1_name_8 := F_a1_name_7.other W8 (Or.inr (slot_ne (Or.inr (own_hw hw 72 rfl)) (Or.inr (own_hw hw 74 rfl)) (by decide) (t := (.object "java/lang/String")) (t' := .int) (by decide) (by decide)))
  have O8 := O7.wr W8 g1
  have K8 := K7.wr W8 (Or.inl (by simp))
  have N8 := Fr.snoc X8 N7 g1
  have F_a1_valueStart_8 : Fld Z h8 a1 "com/example/winnow/winnow/contacts/ContentLine" "valueStart" "I" (.int 0) := F_a1_valueStart_7.same W8
  show own_Go p e below _ T8 (mkF m 43 #[rv a1, iv p1, rv t, rv g, rv nm, iv 0] [])
  exact own_retV X8 hx hret hlk (hb hby d7_43) (by decide) (by decide) (by rw [e8]; exact ⟨rfl, N8, K8, F_a1_text_8, F_a1_valueStart_8⟩)
theorem d17_0 : decode jdk_41_method_12_code 0 = .ok (.iload_n 0, 1) := by decide +kernel
theorem d17_1 : decode jdk_41_method_12_code 1 = .ok (.ifCond .lt 13, 3) := by decide +kernel
theorem d17_4 : decode jdk_41_method_12_code 4 = .ok (.iload_n 0, 1) := by decide +kernel
theorem d17_5 : decode jdk_41_method_12_code 5 = .ok (.iload_n 1, 1) := by decide +kernel
theorem d17_6 : decode jdk_41_method_12_code 6 = .ok (.if_icmp .gt 8, 3) := by decide +kernel
theorem d17_9 : decode jdk_41_method_12_code 9 = .ok (.iload_n 1, 1) := by decide +kernel
theorem d17_10 : decode jdk_41_method_12_code 10 = .ok (.iload_n 2, 1) := by decide +kernel
theorem d17_11 : decode jdk_41_method_12_code 11 = .ok (.if_icmp .le 11, 3) := by decide +kernel
theorem d17_22 : decode jdk_41_method_12_code 22 = .ok (.iload_n 0, 1) := by decide +kernel
theorem d17_23 : decode jdk_41_method_12_code 23 = .ok (.ireturn, 1) := by decide +kernel
def own_r_own_cft : Room := { frames := 0, cells := 0, slots := 0, locals := 0 }
theorem own_cft (l : Launch) (Z : State) (a0 : Array Value) (hw : own_W a0 Z) (lo hi n : Int32) (sf : Value) (h0 : Heap) (n0 : Nat) (rf : sf.isRef = true) (h1 : ¬ lo < 0) (h2 : ¬ hi < lo) (h3 : ¬ n < hi) :
    own_Met l Z (⟨"jdk/internal/util/Preconditions", "checkFromToIndex", "(IIILjava/util/function/BiFunction;)I"⟩ : MethodName) jdk_41_method_12_code 4 (some .int) own_r_own_cft #[(.int lo), (.int hi), (.int n), sf] h0 (own_Qv (some (.int lo)) h0 n0) := by
  refine own_body (by decide +kernel) ?_
  intro p e s m below meth c T0 X0 hx hZ hby hml hown hnm hret hlk e0
  have N0 := Fr.nil n0
  refine own_cast (own_frame (L := [iv lo, iv hi, iv n, .val sf]) (ls := #[iv lo, iv hi, iv n, .val sf]) (congrArg (fun q => iv lo :: iv hi :: iv n :: q) (own_laid1 rf)) rfl) ?_
  refine og_iloadN X0 hx (hb hby d17_0) rfl ?_
  refine og_ifN X0 hx (hb hby d17_1) (flt h1).1 ?_
  refine og_iloadN X0 hx (hb hby d17_4) rfl ?_
  refine og_iloadN X0 hx (hb hby d17_5) rfl ?_
  refine og_icN X0 hx (hb hby d17_6) (flt h2).2.2.1 ?_
  refine og_iloadN X0 hx (hb hby d17_9) rfl ?_
  refine og_iloadN X0 hx (hb hby d17_10) rfl ?_
  refine og_icY X0 hx 22 (hb hby d17_11) (flt h3).2.2.2 (by decide) (by decide) ?_
  refine og_iloadN X0 hx (hb hby d17_22) rfl ?_
  exact own_retI X0 hx hret hlk (hb hby d17_23) rfl (by simp) (by decide) (by decide) (⟨rfl, N0, e0⟩)
theorem d16_0 : decode jdk_42_method_158_code 0 = .ok (.iload_n 0, 1) := by decide +kernel
theorem d16_1 : decode jdk_42_method_158_code 1 = .ok (.iload_n 1, 1) := by decide +kernel
theorem d16_2 : decode jdk_42_method_158_code 2 = .ok (.iload_n 2, 1) := by decide +kernel
theorem d16_3 : decode jdk_42_method_158_code 3 = .ok (.getstatic 1053, 3) := by decide +kernel
theorem d16_6 : decode jdk_42_method_158_code 6 = .ok (.invokestatic 1062, 3) := by decide +kernel
theorem d16_9 : decode jdk_42_method_158_code 9 = .ok (.pop, 1) := by decide +kernel
theorem d16_10 : decode jdk_42_method_158_code 10 = .ok (.return_, 1) := by decide +kernel
theorem own_pd49920 : parseMethodDescriptor "(IIILjava/util/function/BiFunction;)I" = some ⟨[.int, .int, .int, (.object "java/util/function/BiFunction")], some .int⟩ := by decide +kernel
def own_r_own_cbb : Room := { frames := 1, cells := 0, slots := 0, locals := 15 }
theorem own_cbb (l : Launch) (Z : State) (a0 : Array Value) (hw : own_W a0 Z) (z : Int32) (sf : Value) (lo hi n : Int32) (h0 : Heap) (n0 : Nat) (hO : Old Z n0 h0) (hG : own_Gs Z z sf) (h1 : ¬ lo < 0) (h2 : ¬ hi < lo) (h3 : ¬ n < hi) :
    own_Met l Z (⟨"java/lang/String", "checkBoundsBeginEnd", "(III)V"⟩ : MethodName) jdk_42_method_158_code 3 none own_r_own_cbb #[(.int lo), (.int hi), (.int n)] h0 (own_Qv none h0 n0) := by
  refine own_body (by decide +kernel) ?_
  intro p e s m below meth c T0 X0 hx hZ hby hml hown hnm hret hlk e0
  have N0 := Fr.nil n0
  refine own_cast (own_frame (L := [iv lo, iv hi, iv n]) (ls := #[iv lo, iv hi, iv n]) rfl rfl) ?_
  obtain ⟨SC, hz, SF, rf⟩ := id hG
  refine og_iloadN X0 hx (hb hby d16_0) rfl ?_
  refine og_iloadN X0 hx (hb hby d16_1) rfl ?_
  refine og_iloadN X0 hx (hb hby d16_2) rfl ?_
  refine og_getS X0 hx hZ hown (own_hw hw 94 rfl) Via.refl e0 (SF.ext hO.2) (hb hby d16_3) ?_
  intro T1 X1 e1
  show own_Go p e below _ T1 (mkF m 6 #[iv lo, iv hi, iv n] [sf, (.int n), (.int hi), (.int lo)])
  refine own_callS X1 hx hZ hown (own_hw hw 95 rfl) (own_hw hw 96 rfl) (own_hw hw 63 rfl) (own_hw hw 97 rfl) (by decide) (argsL := [(.int lo), (.int hi), (.int n), sf]) (rest := []) (own_cft l Z a0 hw lo hi n sf h0 n0 rf h1 h2 h3) e1 (by rw [hml]; rfl) (lenOf own_pd49920 rfl) rfl (hb hby d16_6) (W := 0) (Nat.le_of_eq rfl) (by decide) ?_
  intro v2 T2 L2 X2 q2
  obtain ⟨rfl, N2q, e2⟩ := q2
  have N2 := Fr.app N0 N2q
  show own_Go p e below _ T2 (mkF m 9 #[iv lo, iv hi, iv n] [(.int lo)])
  refine og_pop X2 hx (hb hby d16_9) rfl ?_
  exact own_retV X2 hx hret hlk (hb hby d16_10) (by decide) (by decide) (⟨rfl, N2, e2⟩)
theorem d18_0 : decode jdk_42_method_154_code 0 = .ok (.getstatic 38, 3) := by decide +kernel
theorem d18_3 : decode jdk_42_method_154_code 3 = .ok (.ifCond .eq 14, 3) := by decide +kernel
theorem d18_6 : decode jdk_42_method_154_code 6 = .ok (.aload_n 0, 1) := by decide +kernel
theorem d18_7 : decode jdk_42_method_154_code 7 = .ok (.getfield 15, 3) := by decide +kernel
theorem d18_10 : decode jdk_42_method_154_code 10 = .ok (.ifCond .ne 7, 3) := by decide +kernel
theorem d18_13 : decode jdk_42_method_154_code 13 = .ok (.iconst 1, 1) := by decide +kernel
theorem d18_14 : decode jdk_42_method_154_code 14 = .ok (.goto 4, 3) := by decide +kernel
theorem d18_18 : decode jdk_42_method_154_code 18 = .ok (.ireturn, 1) := by decide +kernel
def own_r_own_isl1 : Room := { frames := 0, cells := 0, slots := 0, locals := 0 }
theorem own_isl1 (l : Launch) (Z : State) (a0 : Array Value) (hw : own_W a0 Z) (z : Int32) (sf : Value) (t : Addr) (h0 : Heap) (n0 : Nat) (hO : Old Z n0 h0) (hG : own_Gs Z z sf) (Fc : own_C Z h0 t) :
    own_Met l Z (⟨"java/lang/String", "isLatin1", "()Z"⟩ : MethodName) jdk_42_method_154_code 1 (some .boolean) own_r_own_isl1 #[(.ref t)] h0 (own_Qv (some (.int 1)) h0 n0) := by
  refine own_body (by decide +kernel) ?_
  intro p e s m below meth c T0 X0 hx hZ hby hml hown hnm hret hlk e0
  have N0 := Fr.nil n0
  refine own_cast (own_frame (L := [rv t]) (ls := #[rv t]) rfl rfl) ?_
  obtain ⟨SC, hz, SF, rf⟩ := id hG
  refine og_getS X0 hx hZ hown (own_hw hw 15 rfl) Via.refl e0 (SC.ext hO.2) (hb hby d18_0) ?_
  intro T1 X1 e1
  show own_Go p e below _ T1 (mkF m 3 #[rv t] [(.int z)])
  refine og_ifN X1 hx (hb hby d18_3) (feq hz).1 ?_
  refine og_aloadN X1 hx (hb hby d18_6) rfl rfl ?_
  refine og_getF X1 hx hZ hown (own_hw hw 27 rfl) Via.refl e1 Fc (hb hby d18_7) ?_
  intro T2 X2 e2
  show own_Go p e below _ T2 (mkF m 10 #[rv t] [(.int (0 : Int32))])
  refine og_ifN X2 hx (hb hby d18_10) (teq (by decide)).2 ?_
  refine og_iconst X2 hx (hb hby d18_13) ?_
  refine og_goto X2 hx 18 (hb hby d18_14) (by decide) (by decide) ?_
  exact own_retI X2 hx hret hlk (hb hby d18_18) rfl (by simp) (by decide) (by decide) (⟨rfl, N0, e2⟩)
theorem d15_0 : decode jdk_42_method_92_code 0 = .ok (.aload_n 0, 1) := by decide +kernel
theorem d15_1 : decode jdk_42_method_92_code 1 = .ok (.invokevirtual 505, 3) := by decide +kernel
theorem d15_4 : decode jdk_42_method_92_code 4 = .ok (.istore_n 3, 1) := by decide +kernel
theorem d15_5 : decode jdk_42_method_92_code 5 = .ok (.iload_n 1, 1) := by decide +kernel
theorem d15_6 : decode jdk_42_method_92_code 6 = .ok (.iload_n 2, 1) := by decide +kernel
theorem d15_7 : decode jdk_42_method_92_code 7 = .ok (.iload_n 3, 1) := by decide +kernel
theorem d15_8 : decode jdk_42_method_92_code 8 = .ok (.invokestatic 521, 3) := by decide +kernel
theorem d15_11 : decode jdk_42_method_92_code 11 = .ok (.iload_n 1, 1) := by decide +kernel
theorem d15_12 : decode jdk_42_method_92_code 12 = .ok (.ifCond .ne 10, 3) := by decide +kernel
theorem d15_15 : decode jdk_42_method_92_code 15 = .ok (.iload_n 2, 1) := by decide +kernel
theorem d15_16 : decode jdk_42_method_92_code 16 = .ok (.iload_n 3, 1) := by decide +kernel
theorem d15_17 : decode jdk_42_method_92_code 17 = .ok (.if_icmp .ne 5, 3) := by decide +kernel
theorem d15_20 : decode jdk_42_method_92_code 20 = .ok (.aload_n 0, 1) := by decide +kernel
theorem d15_21 : decode jdk_42_method_92_code 21 = .ok (.areturn, 1) := by decide +kernel
theorem own_pd73746 : parseMethodDescriptor "(III)V" = some ⟨[.int, .int, .int], none⟩ := by decide +kernel
def own_r_own_subSz : Room := { frames := 2, cells := 0, slots := 0, locals := 29 }
theorem own_subSz (l : Launch) (Z : State) (a0 : Array Value) (hw : own_W a0 Z) (z : Int32) (sf : Value) (t b : Addr) (kb : ClassId) (dv : Value) (n : Int32) (vs : List Value) (h0 : Heap) (n0 : Nat) (hO : Old Z n0 h0) (hG : own_Gs Z z sf) (hn : ¬ n < 0) (Et : own_E Z h0 t) (Fv : own_V Z h0 t b) (Fc : own_C Z h0 t) (Ab : Arv Z h0 b kb .byte n vs dv) :
    own_Met l Z (⟨"java/lang/String", "substring", "(II)Ljava/lang/String;"⟩ : MethodName) jdk_42_method_92_code 5 (some (.object "java/lang/String")) own_r_own_subSz #[(.ref t), (.int 0), (.int n)] h0 (own_Qv (some (.ref t)) h0 n0) := by
  refine own_body (by decide +kernel) ?_
  intro p e s m below meth c T0 X0 hx hZ hby hml hown hnm hret hlk e0
  have N0 := Fr.nil n0
  refine own_cast (own_frame (L := [rv t, iv 0, iv n]) (ls := #[rv t, iv 0, iv n, .unset, .unset]) rfl rfl) ?_
  obtain ⟨SC, hz, SF, rf⟩ := id hG
  refine og_aloadN X0 hx (hb hby d15_0) rfl rfl ?_
  refine own_callV X0 hx hZ hown (own_hw hw 85 rfl) (own_hw hw 48 rfl) (notFace_of_selects (args := #[]) (mvT hZ (own_hw hw 50 rfl))) (own_hw hw 50 rfl) (own_hw hw 49 rfl) (own_hw hw 51 rfl) (own_hw hw 4 rfl) (by decide) (b := t) (argsL := []) (rest := []) (own_slen l Z a0 hw z sf t b _ _ _ _ h0 n0 hO hG Et Fv Fc Ab) e0 Et (by rw [hml]; rfl) (lenOf own_pd13941 rfl) rfl (hb hby d15_1) (W := 0) (Nat.le_of_eq rfl) (by decide) ?_
  intro v1 T1 L1 X1 q1
  obtain ⟨rfl, N1q, e1⟩ := q1
  have N1 := Fr.app N0 N1q
  show own_Go p e below _ T1 (mkF m 4 #[rv t, iv 0, iv n, .unset, .unset] [(.int n)])
  refine og_istoreN X1 hx #[rv t, iv 0, iv n, iv n, .unset] (hb hby d15_4) rfl ?_
  refine og_iloadN X1 hx (hb hby d15_5) rfl ?_
  refine og_iloadN X1 hx (hb hby d15_6) rfl ?_
  refine og_iloadN X1 hx (hb hby d15_7) rfl ?_
  refine own_callS X1 hx hZ hown (own_hw hw 91 rfl) (own_hw hw 92 rfl) (own_hw hw 4 rfl) (own_hw hw 93 rfl) (by decide) (argsL := [(.int 0), (.int n), (.int n)]) (rest := []) (own_cbb l Z a0 hw z sf 0 n n h0 n0 hO hG (by decide) hn Int32.lt_irrefl) e1 (by rw [hml]; rfl) (lenOf own_pd73746 rfl) rfl (hb hby d15_8) (W := 0) (Nat.le_of_eq rfl) (by decide) ?_
  intro v2 T2 L2 X2 q2
  obtain ⟨rfl, N2q, e2⟩ := q2
  have N2 := Fr.app N1 N2q
  show own_Go p e below _ T2 (mkF m 11 #[rv t, iv 0, iv n, iv n, .unset] [])
  refine og_iloadN X2 hx (hb hby d15_11) rfl ?_
  refine og_ifN X2 hx (hb hby d15_12) (teq rfl).2 ?_
  refine og_iloadN X2 hx (hb hby d15_15) rfl ?_
  refine og_iloadN X2 hx (hb hby d15_16) rfl ?_
  refine og_icN X2 hx (hb hby d15_17) (teq rfl).2 ?_
  refine og_aloadN X2 hx (hb hby d15_20) rfl rfl ?_
  exact own_retA X2 hx hret hlk (hb hby d15_21) rfl rfl (by decide) (by decide) (⟨rfl, N2, e2⟩)
theorem d14_0 : decode jdk_42_method_91_code 0 = .ok (.aload_n 0, 1) := by decide +kernel
theorem d14_1 : decode jdk_42_method_91_code 1 = .ok (.iload_n 1, 1) := by decide +kernel
theorem d14_2 : decode jdk_42_method_91_code 2 = .ok (.aload_n 0, 1) := by decide +kernel
theorem d14_3 : decode jdk_42_method_91_code 3 = .ok (.invokevirtual 505, 3) := by decide +kernel
theorem d14_6 : decode jdk_42_method_91_code 6 = .ok (.invokevirtual 681, 3) := by decide +kernel
theorem d14_9 : decode jdk_42_method_91_code 9 = .ok (.areturn, 1) := by decide +kernel
theorem own_pd41291 : parseMethodDescriptor "(II)Ljava/lang/String;" = some ⟨[.int, .int], some (.object "java/lang/String")⟩ := by decide +kernel
def own_r_own_sub1Sz : Room := { frames := 3, cells := 0, slots := 0, locals := 45 }
theorem own_sub1Sz (l : Launch) (Z : State) (a0 : Array Value) (hw : own_W a0 Z) (z : Int32) (sf : Value) (t b : Addr) (kb : ClassId) (dv : Value) (n : Int32) (vs : List Value) (h0 : Heap) (n0 : Nat) (hO : Old Z n0 h0) (hG : own_Gs Z z sf) (hn : ¬ n < 0) (Et : own_E Z h0 t) (Fv : own_V Z h0 t b) (Fc : own_C Z h0 t) (Ab : Arv Z h0 b kb .byte n vs dv) :
    own_Met l Z (⟨"java/lang/String", "substring", "(I)Ljava/lang/String;"⟩ : MethodName) jdk_42_method_91_code 2 (some (.object "java/lang/String")) own_r_own_sub1Sz #[(.ref t), (.int 0)] h0 (own_Qv (some (.ref t)) h0 n0) := by
  refine own_body (by decide +kernel) ?_
  intro p e s m below meth c T0 X0 hx hZ hby hml hown hnm hret hlk e0
  have N0 := Fr.nil n0
  refine own_cast (own_frame (L := [rv t, iv 0]) (ls := #[rv t, iv 0]) rfl rfl) ?_
  obtain ⟨SC, hz, SF, rf⟩ := id hG
  refine og_aloadN X0 hx (hb hby d14_0) rfl rfl ?_
  refine og_iloadN X0 hx (hb hby d14_1) rfl ?_
  refine og_aloadN X0 hx (hb hby d14_2) rfl rfl ?_
  refine own_callV X0 hx hZ hown (own_hw hw 85 rfl) (own_hw hw 48 rfl) (notFace_of_selects (args := #[]) (mvT hZ (own_hw hw 50 rfl))) (own_hw hw 50 rfl) (own_hw hw 49 rfl) (own_hw hw 51 rfl) (own_hw hw 4 rfl) (by decide) (b := t) (argsL := []) (rest := [(.int 0), (.ref t)]) (own_slen l Z a0 hw z sf t b _ _ _ _ h0 n0 hO hG Et Fv Fc Ab) e0 Et (by rw [hml]; rfl) (lenOf own_pd13941 rfl) rfl (hb hby d14_3) (W := 2) (Nat.le_of_eq rfl) (by decide) ?_
  intro v1 T1 L1 X1 q1
  obtain ⟨rfl, N1q, e1⟩ := q1
  have N1 := Fr.app N0 N1q
  show own_Go p e below _ T1 (mkF m 6 #[rv t, iv 0] [(.int n), (.int 0), (.ref t)])
  refine own_callV X1 hx hZ hown (own_hw hw 86 rfl) (own_hw hw 87 rfl) (notFace_of_selects (args := #[]) (mvT hZ (own_hw hw 89 rfl))) (own_hw hw 89 rfl) (own_hw hw 88 rfl) (own_hw hw 90 rfl) (own_hw hw 4 rfl) (by decide) (b := t) (argsL := [(.int 0), (.int n)]) (rest := []) (own_subSz l Z a0 hw z sf t b _ _ _ _ h0 n0 hO hG hn Et Fv Fc Ab) e1 Et (by rw [hml]; rfl) (lenOf own_pd41291 rfl) rfl (hb hby d14_6) (W := 0) (Nat.le_of_eq rfl) (by decide) ?_
  intro v2 T2 L2 X2 q2
  obtain ⟨rfl, N2q, e2⟩ := q2
  have N2 := Fr.app N1 N2q
  show own_Go p e below _ T2 (mkF m 9 #[rv t, iv 0] [(.ref t)])
  exact own_retA X2 hx hret hlk (hb hby d14_9) rfl rfl (by decide) (by decide) (⟨rfl, N2, e2⟩)
theorem d13_0 : decode prog_25_method_3_code 0 = .ok (.aload_n 0, 1) := by decide +kernel
theorem d13_1 : decode prog_25_method_3_code 1 = .ok (.getfield 25, 3) := by decide +kernel
theorem d13_4 : decode prog_25_method_3_code 4 = .ok (.aload_n 0, 1) := by decide +kernel
theorem d13_5 : decode prog_25_method_3_code 5 = .ok (.getfield 35, 3) := by decide +kernel
theorem d13_8 : decode prog_25_method_3_code 8 = .ok (.invokevirtual 44, 3) := by decide +kernel
theorem d13_11 : decode prog_25_method_3_code 11 = .ok (.areturn, 1) := by decide +kernel
theorem own_pd44404 : parseMethodDescriptor "(I)Ljava/lang/String;" = some ⟨[.int], some (.object "java/lang/String")⟩ := by decide +kernel
def own_r_own_va_0 : Room := { frames := 4, cells := 0, slots := 0, locals := 58 }
theorem own_va_0 (l : Launch) (Z : State) (a0 : Array Value) (hw : own_W a0 Z) (z : Int32) (sf : Value) (t b : Addr) (kb : ClassId) (dv : Value) (v0 v1 v2 v3 : Value) (a1 : Addr) (h0 : Heap) (n0 : Nat) (hO : Old Z n0 h0) (hG : own_Gs Z z sf) (Et : own_E Z h0 t) (Fv : own_V Z h0 t b) (Fc : own_C Z h0 t) (Ab : Arv Z h0 b kb .byte 4 [v0, v1, v2, v3] dv) (F1 : Fld Z h0 a1 "com/example/winnow/winnow/contacts/ContentLine" "text" "Ljava/lang/String;" (.ref t)) (F2 : Fld Z h0 a1 "com/example/winnow/winnow/contacts/ContentLine" "valueStart" "I" (.int (0 : Int32))) :
    own_Met l Z (⟨"com/example/winnow/winnow/contacts/ContentLine", "value", "()Ljava/lang/String;"⟩ : MethodName) prog_25_method_3_code 1 (some (.object "java/lang/String")) own_r_own_va_0 #[(.ref a1)] h0 (own_Qv (some (.ref t)) h0 n0) := by
  refine own_body (by decide +kernel) ?_
  intro p e s m below meth c T0 X0 hx hZ hby hml hown hnm hret hlk e0
  have N0 := Fr.nil n0
  refine own_cast (own_frame (L := [rv a1]) (ls := #[rv a1]) rfl rfl) ?_
  obtain ⟨SC, hz, SF, rf⟩ := id hG
  refine og_aloadN X0 hx (hb hby d13_0) rfl rfl ?_
  refine og_getF X0 hx hZ hown (own_hw hw 67 rfl) Via.refl e0 F1 (hb hby d13_1) ?_
  intro T1 X1 e1
  refine og_aloadN X1 hx (hb hby d13_4) rfl rfl ?_
  refine og_getF X1 hx hZ hown (own_hw hw 73 rfl) Via.refl e1 F2 (hb hby d13_5) ?_
  intro T2 X2 e2
  show own_Go p e below _ T2 (mkF m 8 #[rv a1] [(.int 0), (.ref t)])
  refine own_callV X2 hx hZ hown (own_hw hw 80 rfl) (own_hw hw 81 rfl) (notFace_of_selects (args := #[]) (mvT hZ (own_hw hw 83 rfl))) (own_hw hw 83 rfl) (own_hw hw 82 rfl) (own_hw hw 84 rfl) (own_hw hw 4 rfl) (by decide) (b := t) (argsL := [(.int 0)]) (rest := []) (own_sub1Sz l Z a0 hw z sf t b _ _ _ _ h0 n0 hO hG (by decide) Et Fv Fc Ab) e2 Et (by rw [hml]; rfl) (lenOf own_pd44404 rfl) rfl (hb hby d13_8) (W := 0) (Nat.le_of_eq rfl) (by decide) ?_
  intro v3 T3 L3 X3 q3
  obtain ⟨rfl, N3q, e3⟩ := q3
  have N3 := Fr.app N0 N3q
  show own_Go p e below _ T3 (mkF m 11 #[rv a1] [(.ref t)])
  exact own_retA X3 hx hret hlk (hb hby d13_11) rfl rfl (by decide) (by decide) (⟨rfl, N3, e3⟩)
def own_r_own_oci_1 : Room := { frames := 1, cells := 0, slots := 0, locals := 14 }
theorem own_oci_1 (l : Launch) (Z : State) (a0 : Array Value) (hw : own_W a0 Z)  (h0 : Heap) (n0 : Nat)  :
    own_Met l Z (⟨"java/util/Objects", "checkIndex", "(II)I"⟩ : MethodName) jdk_31_method_17_code 2 (some .int) own_r_own_oci_1 #[(.int 1), (.int 5)] h0 (own_Qv (some (.int 1)) h0 n0) := by
  refine own_body (by decide +kernel) ?_
  intro p e s m below meth c T0 X0 hx hZ hby hml hown hnm hret hlk e0
  have N0 := Fr.nil n0
  refine own_cast (own_frame (L := [iv 1, iv 5]) (ls := #[iv 1, iv 5]) rfl rfl) ?_
  refine og_iloadN X0 hx (hb hby d11_0) rfl ?_
  refine og_iloadN X0 hx (hb hby d11_1) rfl ?_
  refine og_null X0 hx (hb hby d11_2) ?_
  refine own_callS X0 hx hZ hown (own_hw hw 61 rfl) (own_hw hw 62 rfl) (own_hw hw 63 rfl) (own_hw hw 64 rfl) (by decide) (argsL := [(.int 1), (.int 5), .null]) (rest := []) (own_pckn l Z a0 hw 1 5 h0 n0 (by decide) (by decide)) e0 (by rw [hml]; rfl) (lenOf own_pd6315 rfl) rfl (hb hby d11_3) (W := 0) (Nat.le_of_eq rfl) (by decide) ?_
  intro v1 T1 L1 X1 q1
  obtain ⟨rfl, N1q, e1⟩ := q1
  have N1 := Fr.app N0 N1q
  show own_Go p e below _ T1 (mkF m 6 #[iv 1, iv 5] [(.int 1)])
  exact own_retI X1 hx hret hlk (hb hby d11_6) rfl (by simp) (by decide) (by decide) (⟨rfl, N1, e1⟩)
def own_Qc1 (Z : State) (a1 t : Addr) (h0 : Heap) (n0 : Nat) (v : Option Value) (h : Heap) (L : List Loc) : Prop := v = none ∧ Fr n0 L ∧ Keep h0 h [a1] ∧ Fld Z h a1 "com/example/winnow/winnow/contacts/ContentLine" "text" "Ljava/lang/String;" (.ref t) ∧ Fld Z h a1 "com/example/winnow/winnow/contacts/ContentLine" "valueStart" "I" (.int (1 : Int32))
def own_r_own_cl_1 : Room := { frames := 2, cells := 0, slots := 0, locals := 27 }
theorem own_cl_1 (l : Launch) (Z : State) (a0 : Array Value) (hw : own_W a0 Z) (z : Int32) (sf : Value) (t b : Addr) (kb : ClassId) (dv : Value) (v0 v1 v2 v3 : Value) (a1 g nm : Addr) (p1 : Int32) (u_number u_text u_group u_name u_valueStart : Value) (h0 : Heap) (n0 : Nat) (hO : Old Z n0 h0) (hG : own_Gs Z z sf) (Et : own_E Z h0 t) (Fv : own_V Z h0 t b) (Fc : own_C Z h0 t) (Ab : Arv Z h0 b kb .byte 4 [v0, v1, v2, v3] dv) (g1 : n0 ≤ a1) (ne1 : a1 ≠ t) (ne2 : a1 ≠ b) (E1 : Exa Z h0 a1 "com/example/winnow/winnow/contacts/ContentLine") (F_number : Fld Z h0 a1 "com/example/winnow/winnow/contacts/ContentLine" "number" "I" u_number) (F_text : Fld Z h0 a1 "com/example/winnow/winnow/contacts/ContentLine" "text" "Ljava/lang/String;" u_text) (F_group : Fld Z h0 a1 "com/example/winnow/winnow/contacts/ContentLine" "group" "Ljava/lang/String;" u_group) (F_name : Fld Z h0 a1 "com/example/winnow/winnow/contacts/ContentLine" "name" "Ljava/lang/String;" u_name) (F_valueStart : Fld Z h0 a1 "com/example/winnow/winnow/contacts/ContentLine" "valueStart" "I" u_valueStart) :
    own_Met l Z (⟨"com/example/winnow/winnow/contacts/ContentLine", "<init>", "(ILjava/lang/String;Ljava/lang/String;Ljava/lang/String;I)V"⟩ : MethodName) prog_25_method_1_code 6 none own_r_own_cl_1 #[(.ref a1), (.int p1), (.ref t), (.ref g), (.ref nm), (.int 1)] h0 (own_Qc1 Z a1 t h0 n0) := by
  refine own_body (by decide +kernel) ?_
  intro p e s m below meth c T0 X0 hx hZ hby hml hown hnm hret hlk e0
  have N0 := Fr.nil n0
  refine own_cast (own_frame (L := [rv a1, iv p1, rv t, rv g, rv nm, iv 1]) (ls := #[rv a1, iv p1, rv t, rv g, rv nm, iv 1]) rfl rfl) ?_
  obtain ⟨SC, hz, SF, rf⟩ := id hG
  refine og_aloadN X0 hx (hb hby d7_0) rfl rfl ?_
  refine own_callN X0 hx hZ hown (own_hw hw 41 rfl) (own_hw hw 42 rfl) (own_hw hw 45 rfl) (own_hw hw 44 rfl) (by decide) rfl (b := a1) (argsL := []) (rest := []) (own_ri l Z a0 hw a1 h0 n0) e0 (by rw [hml]; rfl) (lenOf own_pd8992 rfl) rfl (hb hby d7_1) (W := 0) (Nat.le_of_eq rfl) (by decide) ?_
  intro v1 T1 L1 X1 q1
  obtain ⟨rfl, N1q, e1⟩ := q1
  have N1 := Fr.app N0 N1q
  show own_Go p e below _ T1 (mkF m 4 #[rv a1, iv p1, rv t, rv g, rv nm, iv 1] [])
  refine og_iload X1 hx (hb hby d7_4) rfl ?_
  refine og_aloadN X1 hx (hb hby d7_6) rfl rfl ?_
  refine own_callV X1 hx hZ hown (own_hw hw 47 rfl) (own_hw hw 48 rfl) (notFace_of_selects (args := #[]) (mvT hZ (own_hw hw 50 rfl))) (own_hw hw 50 rfl) (own_hw hw 49 rfl) (own_hw hw 51 rfl) (own_hw hw 4 rfl) (by decide) (b := t) (argsL := []) (rest := [(.int 1)]) (own_slen l Z a0 hw z sf t b _ _ _ _ h0 n0 hO hG Et Fv Fc Ab) e1 Et (by rw [hml]; rfl) (lenOf own_pd13941 rfl) rfl (hb hby d7_7) (W := 1) (Nat.le_of_eq rfl) (by decide) ?_
  intro v2 T2 L2 X2 q2
  obtain ⟨rfl, N2q, e2⟩ := q2
  have N2 := Fr.app N1 N2q
  show own_Go p e below _ T2 (mkF m 10 #[rv a1, iv p1, rv t, rv g, rv nm, iv 1] [(.int 4), (.int 1)])
  refine og_iconst X2 hx (hb hby d7_10) ?_
  refine og_iadd X2 hx (hb hby d7_11) ?_
  show own_Go p e below _ T2 (mkF m 12 #[rv a1, iv p1, rv t, rv g, rv nm, iv 1] [(.int 5), (.int 1)])
  refine own_callS X2 hx hZ hown (own_hw hw 57 rfl) (own_hw hw 58 rfl) (own_hw hw 59 rfl) (own_hw hw 60 rfl) (by decide) (argsL := [(.int 1), (.int 5)]) (rest := []) (own_oci_1 l Z a0 hw h0 n0) e2 (by rw [hml]; rfl) (lenOf own_pd23903 rfl) rfl (hb hby d7_12) (W := 0) (Nat.le_of_eq rfl) (by decide) ?_
  intro v3 T3 L3 X3 q3
  obtain ⟨rfl, N3q, e3⟩ := q3
  have N3 := Fr.app N2 N3q
  show own_Go p e below _ T3 (mkF m 15 #[rv a1, iv p1, rv t, rv g, rv nm, iv 1] [(.int 1)])
  refine og_pop X3 hx (hb hby d7_15) rfl ?_
  refine og_aloadN X3 hx (hb hby d7_16) rfl rfl ?_
  refine og_iloadN X3 hx (hb hby d7_17) rfl ?_
  obtain ⟨T4, h4, X4, e4, W4, st4⟩ := putF X3 hx hZ hown (host := "") (Or.inl (own_hw hw 65 rfl)) Via.refl e3 F_number E1 (Or.inr ⟨(own_hw hw 66 rfl), rfl, hnm⟩) (own_hw hw 32 rfl) (ty := .int) (by decide) rfl rfl (g := (mkF m 18 #[rv a1, iv p1, rv t, rv g, rv nm, iv 1] [(.int p1), (.ref a1)])) rfl rfl (hb hby d7_18)
  refine own_go st4 ?_
  have E_t_4 := Et.wr W4
  have F_t_value_4 := Fv.other W4 (Or.inl (Ne.symm ne1))
  have F_t_coder_4 := Fc.other W4 (Or.inl (Ne.symm ne1))
  have A_b_4 := Ab.other W4 (Ne.symm ne2)
  have E_a1_4 := E1.wr W4
  have F_a1_text_4 := F_text.other W4 (Or.inr (slot_ne (Or.inr (own_hw hw 68 rfl)) (Or.inr (own_hw hw 66 rfl)) (by decide) (t := (.object "java/lang/String")) (t' := .int) (by decide) (by decide)))
  have F_a1_group_4 := F_group.other W4 (Or.inr (slot_ne (Or.inr (own_hw hw 70 rfl)) (Or.inr (own_hw hw 66 rfl)) (by decide) (t := (.object "java/lang/String")) (t' := .int) (by decide) (by decide)))
  have F_a1_name_4 := F_name.other W4 (Or.inr (slot_ne (Or.inr (own_hw hw 72 rfl)) (Or.inr (own_hw hw 66 rfl)) (by decide) (t := (.object "java/lang/String")) (t' := .int) (by decide) (by decide)))
  have F_a1_valueStart_4 := F_valueStart.other W4 (Or.inr (slot_ne (Or.inr (own_hw hw 74 rfl)) (Or.inr (own_hw hw 66 rfl)) (by decide) (t := .int) (t' := .int) (by decide) (by decide)))
  have O4 := hO.wr W4 g1
  have K4 := (Keep.refl h0 [a1]).wr W4 (Or.inl (by simp))
  have N4 := Fr.snoc X4 N3 g1
  have F_a1_number_4 : Fld Z h4 a1 "com/example/winnow/winnow/contacts/ContentLine" "number" "I" (.int p1) := F_number.same W4
  show own_Go p e below _ T4 (mkF m 21 #[rv a1, iv p1, rv t, rv g, rv nm, iv 1] [])
  refine og_aloadN X4 hx (hb hby d7_21) rfl rfl ?_
  refine og_aloadN X4 hx (hb hby d7_22) rfl rfl ?_
  obtain ⟨T5, h5, X5, e5, W5, st5⟩ := putF X4 hx hZ hown (host := "") (Or.inl (own_hw hw 67 rfl)) Via.refl e4 F_a1_text_4 E_a1_4 (Or.inr ⟨(own_hw hw 68 rfl), rfl, hnm⟩) (own_hw hw 32 rfl) (ty := (.object "java/lang/String")) (by decide) rfl rfl (g := (mkF m 23 #[rv a1, iv p1, rv t, rv g, rv nm, iv 1] [(.ref t), (.ref a1)])) rfl rfl (hb hby d7_23)
  refine own_go st5 ?_
  have E_t_5 := E_t_4.wr W5
  have F_t_value_5 := F_t_value_4.other W5 (Or.inl (Ne.symm ne1))
  have F_t_coder_5 := F_t_coder_4.other W5 (Or.inl (Ne.symm ne1))
  have A_b_5 := A_b_4.other W5 (Ne.symm ne2)
  have E_a1_5 := E_a1_4.wr W5
  have F_a1_group_5 := F_a1_group_4.other W5 (Or.inr (slot_ne (Or.inr (own_hw hw 70 rfl)) (Or.inr (own_hw hw 68 rfl)) (by decide) (t := (.object "java/lang/String")) (t' := (.object "java/lang/String")) (by decide) (by decide)))
  have F_a1_name_5 := F_a1_name_4.other W5 (Or.inr (slot_ne (Or.inr (own_hw hw 72 rfl)) (Or.inr (own_hw hw 68 rfl)) (by decide) (t := (.object "java/lang/String")) (t' := (.object "java/lang/String")) (by decide) (by decide)))
  have F_a1_valueStart_5 := F_a1_valueStart_4.other W5 (Or.inr (slot_ne (Or.inr (own_hw hw 74 rfl)) (Or.inr (own_hw hw 68 rfl)) (by decide) (t := .int) (t' := (.object "java/lang/String")) (by decide) (by decide)))
  have F_a1_number_5 := F_a1_number_4.other W5 (Or.inr (slot_ne (Or.inr (own_hw hw 66 rfl)) (Or.inr (own_hw hw 68 rfl)) (by decide) (t := .int) (t' := (.object "java/lang/String")) (by decide) (by decide)))
  have O5 := O4.wr W5 g1
  have K5 := K4.wr W5 (Or.inl (by simp))
  have N5 := Fr.snoc X5 N4 g1
  have F_a1_text_5 : Fld Z h5 a1 "com/example/winnow/winnow/contacts/ContentLine" "text" "Ljava/lang/String;" (.ref t) := F_a1_text_4.same W5
  show own_Go p e below _ T5 (mkF m 26 #[rv a1, iv p1, rv t, rv g, rv nm, iv 1] [])
  refine og_aloadN X5 hx (hb hby d7_26) rfl rfl ?_
  refine og_aloadN X5 hx (hb hby d7_27) rfl rfl ?_
  obtain ⟨T6, h6, X6, e6, W6, st6⟩ := putF X5 hx hZ hown (host := "") (Or.inl (own_hw hw 69 rfl)) Via.refl e5 F_a1_group_5 E_a1_5 (Or.inr ⟨(own_hw hw 70 rfl), rfl, hnm⟩) (own_hw hw 32 rfl) (ty := (.object "java/lang/String")) (by decide) rfl rfl (g := (mkF m 28 #[rv a1, iv p1, rv t, rv g, rv nm, iv 1] [(.ref g), (.ref a1)])) rfl rfl (hb hby d7_28)
  refine own_go st6 ?_
  have E_t_6 := E_t_5.wr W6
  have F_t_value_6 := F_t_value_5.other W6 (Or.inl (Ne.symm ne1))
  have F_t_coder_6 := F_t_coder_5.other W6 (Or.inl (Ne.symm ne1))
  have A_b_6 := A_b_5.other W6 (Ne.symm ne2)
  have E_a1_6 := E_a1_5.wr W6
  have F_a1_name_6 := F_a1_name_5.other W6 (Or.inr (slot_ne (Or.inr (own_hw hw 72 rfl)) (Or.inr (own_hw hw 70 rfl)) (by decide) (t := (.object "java/lang/String")) (t' := (.object "java/lang/String")) (by decide) (by decide)))
  have F_a1_valueStart_6 := F_a1_valueStart_5.other W6 (Or.inr (slot_ne (Or.inr (own_hw hw 74 rfl)) (Or.inr (own_hw hw 70 rfl)) (by decide) (t := .int) (t' := (.object "java/lang/String")) (by decide) (by decide)))
  have F_a1_number_6 := F_a1_number_5.other W6 (Or.inr (slot_ne (Or.inr (own_hw hw 66 rfl)) (Or.inr (own_hw hw 70 rfl)) (by decide) (t := .int) (t' := (.object "java/lang/String")) (by decide) (by decide)))
  have F_a1_text_6 := F_a1_text_5.other W6 (Or.inr (slot_ne (Or.inr (own_hw hw 68 rfl)) (Or.inr (own_hw hw 70 rfl)) (by decide) (t := (.object "java/lang/String")) (t' := (.object "java/lang/String")) (by decide) (by decide)))
  have O6 := O5.wr W6 g1
  have K6 := K5.wr W6 (Or.inl (by simp))
  have N6 := Fr.snoc X6 N5 g1
  have F_a1_group_6 : Fld Z h6 a1 "com/example/winnow/winnow/contacts/ContentLine" "group" "Ljava/lang/String;" (.ref g) := F_a1_group_5.same W6
  show own_Go p e below _ T6 (mkF m 31 #[rv a1, iv p1, rv t, rv g, rv nm, iv 1] [])
  refine og_aloadN X6 hx (hb hby d7_31) rfl rfl ?_
  refine og_aload X6 hx (hb hby d7_32) rfl rfl ?_
  obtain ⟨T7, h7, X7, e7, W7, st7⟩ := putF X6 hx hZ hown (host := "") (Or.inl (own_hw hw 71 rfl)) Via.refl e6 F_a1_name_6 E_a1_6 (Or.inr ⟨(own_hw hw 72 rfl), rfl, hnm⟩) (own_hw hw 32 rfl) (ty := (.object "java/lang/String")) (by decide) rfl rfl (g := (mkF m 34 #[rv a1, iv p1, rv t, rv g, rv nm, iv 1] [(.ref nm), (.ref a1)])) rfl rfl (hb hby d7_34)
  refine own_go st7 ?_
  have E_t_7 := E_t_6.wr W7
  have F_t_value_7 := F_t_value_6.other W7 (Or.inl (Ne.symm ne1))
  have F_t_coder_7 := F_t_coder_6.other W7 (Or.inl (Ne.symm ne1))
  have A_b_7 := A_b_6.other W7 (Ne.symm ne2)
  have E_a1_7 := E_a1_6.wr W7
  have F_a1_valueStart_7 := F_a1_valueStart_6.other W7 (Or.inr (slot_ne (Or.inr (own_hw hw 74 rfl)) (Or.inr (own_hw hw 72 rfl)) (by decide) (t := .int) (t' := (.object "java/lang/String")) (by decide) (by decide)))
  have F_a1_number_7 := F_a1_number_6.other W7 (Or.inr (slot_ne (Or.inr (own_hw hw 66 rfl)) (Or.inr (own_hw hw 72 rfl)) (by decide) (t := .int) (t' := (.object "java/lang/String")) (by decide) (by decide)))
  have F_a1_text_7 := F_a1_text_6.other W7 (Or.inr (slot_ne (Or.inr (own_hw hw 68 rfl)) (Or.inr (own_hw hw 72 rfl)) (by decide) (t := (.object "java/lang/String")) (t' := (.object "java/lang/String")) (by decide) (by decide)))
  have F_a1_group_7 := F_a1_group_6.other W7 (Or.inr (slot_ne (Or.inr (own_hw hw 70 rfl)) (Or.inr (own_hw hw 72 rfl)) (by decide) (t := (.object "java/lang/String")) (t' := (.object "java/lang/String")) (by decide) (by decide)))
  have O7 := O6.wr W7 g1
  have K7 := K6.wr W7 (Or.inl (by simp))
  have N7 := Fr.snoc X7 N6 g1
  have F_a1_name_7 : Fld Z h7 a1 "com/example/winnow/winnow/contacts/ContentLine" "name" "Ljava/lang/String;" (.ref nm) := F_a1_name_6.same W7
  show own_Go p e below _ T7 (mkF m 37 #[rv a1, iv p1, rv t, rv g, rv nm, iv 1] [])
  refine og_aloadN X7 hx (hb hby d7_37) rfl rfl ?_
  refine og_iload X7 hx (hb hby d7_38) rfl ?_
  obtain ⟨T8, h8, X8, e8, W8, st8⟩ := putF X7 hx hZ hown (host := "") (Or.inl (own_hw hw 73 rfl)) Via.refl e7 F_a1_valueStart_7 E_a1_7 (Or.inr ⟨(own_hw hw 74 rfl), rfl, hnm⟩) (own_hw hw 32 rfl) (ty := .int) (by decide) rfl rfl (g := (mkF m 40 #[rv a1, iv p1, rv t, rv g, rv nm, iv 1] [(.int 1), (.ref a1)])) rfl rfl (hb hby d7_40)
  refine own_go st8 ?_
  have E_t_8 := E_t_7.wr W8
  have F_t_value_8 := F_t_value_7.other W8 (Or.inl (Ne.symm ne1))
  have F_t_coder_8 := F_t_coder_7.other W8 (Or.inl (Ne.symm ne1))
  have A_b_8 := A_b_7.other W8 (Ne.symm ne2)
  have E_a1_8 := E_a1_7.wr W8
  have F_a1_number_8 := F_a1_number_7.other W8 (Or.inr (slot_ne (Or.inr (own_hw hw 66 rfl)) (Or.inr (own_hw hw 74 rfl)) (by decide) (t := .int) (t' := .int) (by decide) (by decide)))
  have F_a1_text_8 := F_a1_text_7.other W8 (Or.inr (slot_ne (Or.inr (own_hw hw 68 rfl)) (Or.inr (own_hw hw 74 rfl)) (by decide) (t := (.object "java/lang/String")) (t' := .int) (by decide) (by decide)))
  have F_a1_group_8 := F_a1_group_7.other W8 (Or.inr (slot_ne (Or.inr (own_hw hw 70 rfl)) (Or.inr (own_hw hw 74 rfl)) (by decide) (t := (.object "java/lang/String")) (t' := .int) (by decide) (by decide)))
  have F_a1_name_8 := F_a1_name_7.other W8 (Or.inr (slot_ne (Or.inr (own_hw hw 72 rfl)) (Or.inr (own_hw hw 74 rfl)) (by decide) (t := (.object "java/lang/String")) (t' := .int) (by decide) (by decide)))
  have O8 := O7.wr W8 g1
  have K8 := K7.wr W8 (Or.inl (by simp))
  have N8 := Fr.snoc X8 N7 g1
  have F_a1_valueStart_8 : Fld Z h8 a1 "com/example/winnow/winnow/contacts/ContentLine" "valueStart" "I" (.int 1) := F_a1_valueStart_7.same W8
  show own_Go p e below _ T8 (mkF m 43 #[rv a1, iv p1, rv t, rv g, rv nm, iv 1] [])
  exact own_retV X8 hx hret hlk (hb hby d7_43) (by decide) (by decide) (by rw [e8]; exact ⟨rfl, N8, K8, F_a1_text_8, F_a1_valueStart_8⟩)
def own_Qs3 (Z : State) (h0 : Heap) (n0 : Nat) (v0 v1 v2 : Value) (v : Option Value) (h : Heap) (L : List Loc) : Prop := ∃ (t b : Addr) (k : ClassId), v = some (.ref t) ∧ Fr n0 L ∧ Keep h0 h [] ∧ h0.size ≤ t ∧ n0 ≤ t ∧ h0.size ≤ b ∧ n0 ≤ b ∧ t ≠ b ∧ own_E Z h t ∧ own_V Z h t b ∧ own_C Z h t ∧ Arv Z h b k .byte 3 [v0, v1, v2] (.int (0 : Int32))
theorem d22_0 : decode jdk_65_method_131_code 0 = .ok (.iload_n 1, 1) := by decide +kernel
theorem d22_1 : decode jdk_65_method_131_code 1 = .ok (.iload_n 0, 1) := by decide +kernel
theorem d22_2 : decode jdk_65_method_131_code 2 = .ok (.if_icmp .ge 35, 3) := by decide +kernel
theorem d22_37 : decode jdk_65_method_131_code 37 = .ok (.return_, 1) := by decide +kernel
def own_r_own_ckl_1_4 : Room := { frames := 0, cells := 0, slots := 0, locals := 0 }
theorem own_ckl_1_4 (l : Launch) (Z : State) (a0 : Array Value) (hw : own_W a0 Z)  (h0 : Heap) (n0 : Nat)  :
    own_Met l Z (⟨"java/util/Arrays", "checkLength", "(II)V"⟩ : MethodName) jdk_65_method_131_code 2 none own_r_own_ckl_1_4 #[(.int 1), (.int 4)] h0 (own_Qv none h0 n0) := by
  refine own_body (by decide +kernel) ?_
  intro p e s m below meth c T0 X0 hx hZ hby hml hown hnm hret hlk e0
  have N0 := Fr.nil n0
  refine own_cast (own_frame (L := [iv 1, iv 4]) (ls := #[iv 1, iv 4]) rfl rfl) ?_
  refine og_iloadN X0 hx (hb hby d22_0) rfl ?_
  refine og_iloadN X0 hx (hb hby d22_1) rfl ?_
  refine og_icY X0 hx 37 (hb hby d22_2) (flt (by decide)).2.1 (by decide) (by decide) ?_
  exact own_retV X0 hx hret hlk (hb hby d22_37) (by decide) (by decide) (⟨rfl, N0, e0⟩)
theorem d23_0 : decode jdk_29_method_69_code 0 = .ok (.iload_n 0, 1) := by decide +kernel
theorem d23_1 : decode jdk_29_method_69_code 1 = .ok (.iload_n 1, 1) := by decide +kernel
theorem d23_2 : decode jdk_29_method_69_code 2 = .ok (.if_icmp .gt 7, 3) := by decide +kernel
theorem d23_5 : decode jdk_29_method_69_code 5 = .ok (.iload_n 0, 1) := by decide +kernel
theorem d23_6 : decode jdk_29_method_69_code 6 = .ok (.goto 4, 3) := by decide +kernel
theorem d23_10 : decode jdk_29_method_69_code 10 = .ok (.ireturn, 1) := by decide +kernel
def own_r_own_min_3_3 : Room := { frames := 0, cells := 0, slots := 0, locals := 0 }
theorem own_min_3_3 (l : Launch) (Z : State) (a0 : Array Value) (hw : own_W a0 Z)  (h0 : Heap) (n0 : Nat)  :
    own_Met l Z (⟨"java/lang/Math", "min", "(II)I"⟩ : MethodName) jdk_29_method_69_code 2 (some .int) own_r_own_min_3_3 #[(.int 3), (.int 3)] h0 (own_Qv (some (.int (3))) h0 n0) := by
  refine own_body (by decide +kernel) ?_
  intro p e s m below meth c T0 X0 hx hZ hby hml hown hnm hret hlk e0
  have N0 := Fr.nil n0
  refine own_cast (own_frame (L := [iv 3, iv 3]) (ls := #[iv 3, iv 3]) rfl rfl) ?_
  refine og_iloadN X0 hx (hb hby d23_0) rfl ?_
  refine og_iloadN X0 hx (hb hby d23_1) rfl ?_
  refine og_icN X0 hx (hb hby d23_2) (flt (by decide)).2.2.1 ?_
  refine og_iloadN X0 hx (hb hby d23_5) rfl ?_
  refine og_goto X0 hx 10 (hb hby d23_6) (by decide) (by decide) ?_
  exact own_retI X0 hx hret hlk (hb hby d23_10) rfl (by simp) (by decide) (by decide) (⟨rfl, N0, e0⟩)
def own_Qr_1_4_4 (Z : State) (h0 : Heap) (n0 : Nat) (v0 v1 v2 v3 : Value) (v : Option Value) (h : Heap) (L : List Loc) : Prop := ∃ (b : Addr) (k : ClassId), v = some (.ref b) ∧ Fr n0 L ∧ Keep h0 h [] ∧ h0.size ≤ b ∧ n0 ≤ b ∧ Arv Z h b k .byte 3 [v1, v2, v3] (.int (0 : Int32))
theorem d21_0 : decode jdk_65_method_133_code 0 = .ok (.iload_n 1, 1) := by decide +kernel
theorem d21_1 : decode jdk_65_method_133_code 1 = .ok (.iload_n 2, 1) := by decide +kernel
theorem d21_2 : decode jdk_65_method_133_code 2 = .ok (.invokestatic 343, 3) := by decide +kernel
theorem d21_5 : decode jdk_65_method_133_code 5 = .ok (.iload_n 2, 1) := by decide +kernel
theorem d21_6 : decode jdk_65_method_133_code 6 = .ok (.iload_n 1, 1) := by decide +kernel
theorem d21_7 : decode jdk_65_method_133_code 7 = .ok (.isub, 1) := by decide +kernel
theorem d21_8 : decode jdk_65_method_133_code 8 = .ok (.istore_n 3, 1) := by decide +kernel
theorem d21_9 : decode jdk_65_method_133_code 9 = .ok (.iload_n 3, 1) := by decide +kernel
theorem d21_10 : decode jdk_65_method_133_code 10 = .ok (.newarray .byte, 2) := by decide +kernel
theorem d21_12 : decode jdk_65_method_133_code 12 = .ok (.astore 4, 2) := by decide +kernel
theorem d21_14 : decode jdk_65_method_133_code 14 = .ok (.aload_n 0, 1) := by decide +kernel
theorem d21_15 : decode jdk_65_method_133_code 15 = .ok (.iload_n 1, 1) := by decide +kernel
theorem d21_16 : decode jdk_65_method_133_code 16 = .ok (.aload 4, 2) := by decide +kernel
theorem d21_18 : decode jdk_65_method_133_code 18 = .ok (.iconst 0, 1) := by decide +kernel
theorem d21_19 : decode jdk_65_method_133_code 19 = .ok (.aload_n 0, 1) := by decide +kernel
theorem d21_20 : decode jdk_65_method_133_code 20 = .ok (.arraylength, 1) := by decide +kernel
theorem d21_21 : decode jdk_65_method_133_code 21 = .ok (.iload_n 1, 1) := by decide +kernel
theorem d21_22 : decode jdk_65_method_133_code 22 = .ok (.isub, 1) := by decide +kernel
theorem d21_23 : decode jdk_65_method_133_code 23 = .ok (.iload_n 3, 1) := by decide +kernel
theorem d21_24 : decode jdk_65_method_133_code 24 = .ok (.invokestatic 304, 3) := by decide +kernel
theorem d21_27 : decode jdk_65_method_133_code 27 = .ok (.invokestatic 150, 3) := by decide +kernel
theorem d21_30 : decode jdk_65_method_133_code 30 = .ok (.aload 4, 2) := by decide +kernel
theorem d21_32 : decode jdk_65_method_133_code 32 = .ok (.areturn, 1) := by decide +kernel
theorem own_pd97226 : parseMethodDescriptor "(II)V" = some ⟨[.int, .int], none⟩ := by decide +kernel
def own_r_own_crb_1_4_4 : Room := { frames := 1, cells := 1, slots := 3, locals := 18 }
theorem own_crb_1_4_4 (l : Launch) (Z : State) (a0 : Array Value) (hw : own_W a0 Z) (b : Addr) (kb : ClassId) (dv : Value) (v0 v1 v2 v3 : Value) (h0 : Heap) (n0 : Nat) (hO : Old Z n0 h0) (Ab : Arv Z h0 b kb .byte 4 [v0, v1, v2, v3] dv) :
    own_Met l Z (⟨"java/util/Arrays", "copyOfRangeByte", "([BII)[B"⟩ : MethodName) jdk_65_method_133_code 5 (some (.array .byte)) own_r_own_crb_1_4_4 #[(.ref b), (.int 1), (.int 4)] h0 (own_Qr_1_4_4 Z h0 n0 v0 v1 v2 v3) := by
  refine own_body (by decide +kernel) ?_
  intro p e s m below meth c T0 X0 hx hZ hby hml hown hnm hret hlk e0
  have N0 := Fr.nil n0
  refine own_cast (own_frame (L := [rv b, iv 1, iv 4]) (ls := #[rv b, iv 1, iv 4, .unset, .unset]) rfl rfl) ?_
  refine og_iloadN X0 hx (hb hby d21_0) rfl ?_
  refine og_iloadN X0 hx (hb hby d21_1) rfl ?_
  refine own_callS X0 hx hZ hown (own_hw hw 115 rfl) (own_hw hw 116 rfl) (own_hw hw 110 rfl) (own_hw hw 117 rfl) (by decide) (argsL := [(.int 1), (.int 4)]) (rest := []) (own_ckl_1_4 l Z a0 hw h0 n0) e0 (by rw [hml]; rfl) (lenOf own_pd97226 rfl) rfl (hb hby d21_2) (W := 0) (Nat.le_of_eq rfl) (by decide) ?_
  intro v1 T1 L1 X1 q1
  obtain ⟨rfl, N1q, e1⟩ := q1
  have N1 := Fr.app N0 N1q
  show own_Go p e below _ T1 (mkF m 5 #[rv b, iv 1, iv 4, .unset, .unset] [])
  refine og_iloadN X1 hx (hb hby d21_5) rfl ?_
  refine og_iloadN X1 hx (hb hby d21_6) rfl ?_
  refine og_isub X1 hx (hb hby d21_7) ?_
  refine og_istoreN X1 hx #[rv b, iv 1, iv 4, iv 3, .unset] (hb hby d21_8) rfl ?_
  refine og_iloadN X1 hx (hb hby d21_9) rfl ?_
  refine own_newP X1 hx hZ (own_hw hw 20 rfl) e1 (hb hby d21_10) (by decide) 3 (by decide) (by decide) (by decide) (by decide) ?_
  intro T2 h2 k2 b2 g2 X2 e2 E2 A2
  have ne_b_b2 : b ≠ b2 := Nat.ne_of_lt (Nat.lt_of_lt_of_eq Ab.lt g2.symm)
  have ge_b2 : n0 ≤ b2 := Nat.le_trans (own_oldle hO) (Nat.le_of_eq g2.symm)
  have sz_b2 : h0.size ≤ b2 := Nat.le_trans (Keep.refl h0 []).1 (Nat.le_of_eq g2.symm)
  have A_b_2 := Ab.ext E2
  have O2 := hO.ext E2
  have K2 := (Keep.refl h0 []).ext E2
  have A_b2_2 : Arv Z h2 b2 k2 .byte 3 [(.int (0 : Int32)), (.int (0 : Int32)), (.int (0 : Int32))] (.int (0 : Int32)) := A2
  show own_Go p e below _ T2 (mkF m 12 #[rv b, iv 1, iv 4, iv 3, .unset] [(.ref b2)])
  refine og_astore X2 hx #[rv b, iv 1, iv 4, iv 3, rv b2] (hb hby d21_12) rfl rfl ?_
  refine og_aloadN X2 hx (hb hby d21_14) rfl rfl ?_
  refine og_iloadN X2 hx (hb hby d21_15) rfl ?_
  refine og_aload X2 hx (hb hby d21_16) rfl rfl ?_
  refine og_iconst X2 hx (hb hby d21_18) ?_
  refine og_aloadN X2 hx (hb hby d21_19) rfl rfl ?_
  refine own_len X2 hx hZ e2 A_b_2 (hb hby d21_20) ?_
  show own_Go p e below _ T2 (mkF m 21 #[rv b, iv 1, iv 4, iv 3, rv b2] [(.int 4), (.int 0), (.ref b2), (.int 1), (.ref b)])
  refine og_iloadN X2 hx (hb hby d21_21) rfl ?_
  refine og_isub X2 hx (hb hby d21_22) ?_
  refine og_iloadN X2 hx (hb hby d21_23) rfl ?_
  refine own_callS X2 hx hZ hown (own_hw hw 118 rfl) (own_hw hw 119 rfl) (own_hw hw 120 rfl) (own_hw hw 121 rfl) (by decide) (argsL := [(.int 3), (.int 3)]) (rest := [(.int 0), (.ref b2), (.int 1), (.ref b)]) (own_min_3_3 l Z a0 hw h2 n0) e2 (by rw [hml]; rfl) (lenOf own_pd23903 rfl) rfl (hb hby d21_24) (W := 4) (Nat.le_of_eq rfl) (by decide) ?_
  intro v3 T3 L3 X3 q3
  obtain ⟨rfl, N3q, e3⟩ := q3
  have N3 := Fr.app N1 N3q
  show own_Go p e below _ T3 (mkF m 27 #[rv b, iv 1, iv 4, iv 3, rv b2] [(.int 3), (.int 0), (.ref b2), (.int 1), (.ref b)])
  obtain ⟨T4, h4, L4, X4, e4, N4, K4q, A4, st4⟩ := cpA X3 hx hZ hown (own_hw hw 122 rfl) (own_hw hw 125 rfl) (own_hw hw 123 rfl) (own_hw hw 124 rfl) e3 A_b_2 A_b2_2 (us := [v1, v2, v3]) (Or.inl ⟨rfl, rfl⟩) (by decide) (by decide) (by decide) (by decide) (by decide) rfl (by decide) N3 ge_b2 (g := (mkF m 27 #[rv b, iv 1, iv 4, iv 3, rv b2] [(.int 3), (.int 0), (.ref b2), (.int 1), (.ref b)])) rfl (by rw [hml]; rfl) rfl (hb hby d21_27) (by decide) (W := 0) (by show 2 * 0 + _ ≤ _; exact Nat.le_of_eq rfl) (by decide)
  refine own_go st4 ?_
  have A_b_4 := A_b_2.keep K4q (ninS ne_b_b2 nin0)
  have O4 := O2.keep K4q (allS ge_b2 all0)
  have K4 := K2.trans K4q (allS (Or.inr sz_b2) all0)
  have A_b2_4 : Arv Z h4 b2 k2 .byte 3 [v1, v2, v3] (.int (0 : Int32)) := A4
  show own_Go p e below _ T4 (mkF m 30 #[rv b, iv 1, iv 4, iv 3, rv b2] [])
  refine og_aload X4 hx (hb hby d21_30) rfl rfl ?_
  exact own_retA X4 hx hret hlk (hb hby d21_32) rfl rfl (by decide) (by decide) (by rw [e4]; exact ⟨b2, _, rfl, N4, K4, sz_b2, ge_b2, A_b2_4⟩)
theorem d20_0 : decode jdk_65_method_132_code 0 = .ok (.iload_n 1, 1) := by decide +kernel
theorem d20_1 : decode jdk_65_method_132_code 1 = .ok (.ifCond .ne 9, 3) := by decide +kernel
theorem d20_10 : decode jdk_65_method_132_code 10 = .ok (.aload_n 0, 1) := by decide +kernel
theorem d20_11 : decode jdk_65_method_132_code 11 = .ok (.iload_n 1, 1) := by decide +kernel
theorem d20_12 : decode jdk_65_method_132_code 12 = .ok (.iload_n 2, 1) := by decide +kernel
theorem d20_13 : decode jdk_65_method_132_code 13 = .ok (.invokestatic 339, 3) := by decide +kernel
theorem d20_16 : decode jdk_65_method_132_code 16 = .ok (.areturn, 1) := by decide +kernel
theorem own_pd77155 : parseMethodDescriptor "([BII)[B" = some ⟨[(.array .byte), .int, .int], some (.array .byte)⟩ := by decide +kernel
def own_r_own_cr_1_4_4 : Room := { frames := 2, cells := 1, slots := 3, locals := 34 }
theorem own_cr_1_4_4 (l : Launch) (Z : State) (a0 : Array Value) (hw : own_W a0 Z) (b : Addr) (kb : ClassId) (dv : Value) (v0 v1 v2 v3 : Value) (h0 : Heap) (n0 : Nat) (hO : Old Z n0 h0) (Ab : Arv Z h0 b kb .byte 4 [v0, v1, v2, v3] dv) :
    own_Met l Z (⟨"java/util/Arrays", "copyOfRange", "([BII)[B"⟩ : MethodName) jdk_65_method_132_code 3 (some (.array .byte)) own_r_own_cr_1_4_4 #[(.ref b), (.int 1), (.int 4)] h0 (own_Qr_1_4_4 Z h0 n0 v0 v1 v2 v3) := by
  refine own_body (by decide +kernel) ?_
  intro p e s m below meth c T0 X0 hx hZ hby hml hown hnm hret hlk e0
  have N0 := Fr.nil n0
  refine own_cast (own_frame (L := [rv b, iv 1, iv 4]) (ls := #[rv b, iv 1, iv 4]) rfl rfl) ?_
  refine og_iloadN X0 hx (hb hby d20_0) rfl ?_
  refine og_ifY X0 hx 10 (hb hby d20_1) (feq (by decide)).2 (by decide) (by decide) ?_
  refine og_aloadN X0 hx (hb hby d20_10) rfl rfl ?_
  refine og_iloadN X0 hx (hb hby d20_11) rfl ?_
  refine og_iloadN X0 hx (hb hby d20_12) rfl ?_
  refine own_callS X0 hx hZ hown (own_hw hw 112 rfl) (own_hw hw 113 rfl) (own_hw hw 110 rfl) (own_hw hw 114 rfl) (by decide) (argsL := [(.ref b), (.int 1), (.int 4)]) (rest := []) (own_crb_1_4_4 l Z a0 hw b _ _ v0 v1 v2 v3 h0 n0 hO Ab) e0 (by rw [hml]; rfl) (lenOf own_pd77155 rfl) rfl (hb hby d20_13) (W := 0) (Nat.le_of_eq rfl) (by decide) ?_
  intro v1 T1 L1 X1 q1
  obtain ⟨b1, k1, rfl, N1q, K1q, z1q, g1q, A1q⟩ := q1
  have N1 := Fr.app N0 N1q
  have ne_b_b1 : b ≠ b1 := Nat.ne_of_lt (Nat.lt_of_lt_of_le Ab.lt z1q)
  have sz_b1 : h0.size ≤ b1 := Nat.le_trans (Keep.refl h0 []).1 z1q
  have A_b_1 := Ab.keep K1q nin0
  have O1 := hO.keep K1q all0
  have K1 := (Keep.refl h0 []).trans K1q all0
  show own_Go p e below _ T1 (mkF m 16 #[rv b, iv 1, iv 4] [(.ref b1)])
  exact own_retA X1 hx hret hlk (hb hby d20_16) rfl rfl (by decide) (by decide) (⟨b1, _, rfl, N1, K1, sz_b1, g1q, A1q⟩)
def own_Qi (Z : State) (a1 a2 : Addr) (h0 : Heap) (n0 : Nat) (v : Option Value) (h : Heap) (L : List Loc) : Prop := v = none ∧ Fr n0 L ∧ Keep h0 h [a1] ∧ Fld Z h a1 "java/lang/String" "value" "[B" (.ref a2) ∧ Fld Z h a1 "java/lang/String" "coder" "B" (.int (0 : Int32))
theorem d24_0 : decode jdk_42_method_151_code 0 = .ok (.aload_n 0, 1) := by decide +kernel
theorem d24_1 : decode jdk_42_method_151_code 1 = .ok (.invokespecial 1, 3) := by decide +kernel
theorem d24_4 : decode jdk_42_method_151_code 4 = .ok (.aload_n 0, 1) := by decide +kernel
theorem d24_5 : decode jdk_42_method_151_code 5 = .ok (.aload_n 1, 1) := by decide +kernel
theorem d24_6 : decode jdk_42_method_151_code 6 = .ok (.putfield 9, 3) := by decide +kernel
theorem d24_9 : decode jdk_42_method_151_code 9 = .ok (.aload_n 0, 1) := by decide +kernel
theorem d24_10 : decode jdk_42_method_151_code 10 = .ok (.iload_n 2, 1) := by decide +kernel
theorem d24_11 : decode jdk_42_method_151_code 11 = .ok (.putfield 15, 3) := by decide +kernel
theorem d24_14 : decode jdk_42_method_151_code 14 = .ok (.return_, 1) := by decide +kernel
def own_r_own_si : Room := { frames := 1, cells := 0, slots := 0, locals := 12 }
theorem own_si (l : Launch) (Z : State) (a0 : Array Value) (hw : own_W a0 Z) (a1 a2 : Addr) (u1 u2 : Value) (h0 : Heap) (n0 : Nat) (hO : Old Z n0 h0) (g1 : n0 ≤ a1) (E1 : Exa Z h0 a1 "java/lang/String") (F1 : Fld Z h0 a1 "java/lang/String" "value" "[B" u1) (F2 : Fld Z h0 a1 "java/lang/String" "coder" "B" u2) :
    own_Met l Z (⟨"java/lang/String", "<init>", "([BB)V"⟩ : MethodName) jdk_42_method_151_code 3 none own_r_own_si #[(.ref a1), (.ref a2), (.int (0 : Int32))] h0 (own_Qi Z a1 a2 h0 n0) := by
  refine own_body (by decide +kernel) ?_
  intro p e s m below meth c T0 X0 hx hZ hby hml hown hnm hret hlk e0
  have N0 := Fr.nil n0
  refine own_cast (own_frame (L := [rv a1, rv a2, iv (0 : Int32)]) (ls := #[rv a1, rv a2, iv (0 : Int32)]) rfl rfl) ?_
  refine og_aloadN X0 hx (hb hby d24_0) rfl rfl ?_
  obtain ⟨T1, X1, e1, st1⟩ := initO X0 hx hZ hown (own_hw hw 12 rfl) (own_hw hw 13 rfl) (own_hw hw 14 rfl) e0 (g := (mkF m 1 #[rv a1, rv a2, iv (0 : Int32)] [(.ref a1)])) rfl (by rw [hml]; rfl) rfl (hb hby d24_1) (by decide) (W := 0) (by show 2 * 0 + _ ≤ _; exact Nat.le_of_eq rfl) (by decide)
  refine own_go st1 ?_
  show own_Go p e below _ T1 (mkF m 4 #[rv a1, rv a2, iv (0 : Int32)] [])
  refine og_aloadN X1 hx (hb hby d24_4) rfl rfl ?_
  refine og_aloadN X1 hx (hb hby d24_5) rfl rfl ?_
  obtain ⟨T2, h2, X2, e2, W2, st2⟩ := putF X1 hx hZ hown (host := "") (Or.inl (own_hw hw 29 rfl)) Via.refl e1 F1 E1 (Or.inr ⟨(own_hw hw 30 rfl), rfl, hnm⟩) (own_hw hw 3 rfl) (ty := (.array .byte)) (by decide) rfl rfl (g := (mkF m 6 #[rv a1, rv a2, iv (0 : Int32)] [(.ref a2), (.ref a1)])) rfl rfl (hb hby d24_6)
  refine own_go st2 ?_
  have E_a1_2 := E1.wr W2
  have F_a1_coder_2 := F2.other W2 (Or.inr (slot_ne (Or.inr (own_hw hw 28 rfl)) (Or.inr (own_hw hw 30 rfl)) (by decide) (t := .byte) (t' := (.array .byte)) (by decide) (by decide)))
  have O2 := hO.wr W2 g1
  have K2 := (Keep.refl h0 [a1]).wr W2 (Or.inl (by simp))
  have N2 := Fr.snoc X2 N0 g1
  have F_a1_value_2 : Fld Z h2 a1 "java/lang/String" "value" "[B" (.ref a2) := F1.same W2
  show own_Go p e below _ T2 (mkF m 9 #[rv a1, rv a2, iv (0 : Int32)] [])
  refine og_aloadN X2 hx (hb hby d24_9) rfl rfl ?_
  refine og_iloadN X2 hx (hb hby d24_10) rfl ?_
  obtain ⟨T3, h3, X3, e3, W3, st3⟩ := putFN X2 hx hZ hown (own_hw hw 27 rfl) Via.refl e2 F_a1_coder_2 E_a1_2 (Or.inr ⟨(own_hw hw 28 rfl), rfl, hnm⟩) (own_hw hw 3 rfl) (ty := .byte) (v' := (.int (0 : Int32))) (by decide) rfl (by decide) (g := (mkF m 11 #[rv a1, rv a2, iv (0 : Int32)] [(.int (0 : Int32)), (.ref a1)])) rfl rfl (hb hby d24_11)
  refine own_go st3 ?_
  have E_a1_3 := E_a1_2.wr W3
  have F_a1_value_3 := F_a1_value_2.other W3 (Or.inr (slot_ne (Or.inr (own_hw hw 30 rfl)) (Or.inr (own_hw hw 28 rfl)) (by decide) (t := (.array .byte)) (t' := .byte) (by decide) (by decide)))
  have O3 := O2.wr W3 g1
  have K3 := K2.wr W3 (Or.inl (by simp))
  have N3 := Fr.snoc X3 N2 g1
  have F_a1_coder_3 : Fld Z h3 a1 "java/lang/String" "coder" "B" (.int (0 : Int32)) := F_a1_coder_2.same W3
  show own_Go p e below _ T3 (mkF m 14 #[rv a1, rv a2, iv (0 : Int32)] [])
  exact own_retV X3 hx hret hlk (hb hby d24_14) (by decide) (by decide) (by rw [e3]; exact ⟨rfl, N3, K3, F_a1_value_3, F_a1_coder_3⟩)
theorem d19_0 : decode jdk_43_method_47_code 0 = .ok (.iload_n 2, 1) := by decide +kernel
theorem d19_1 : decode jdk_43_method_47_code 1 = .ok (.ifCond .ne 6, 3) := by decide +kernel
theorem d19_7 : decode jdk_43_method_47_code 7 = .ok (.new 1, 3) := by decide +kernel
theorem d19_10 : decode jdk_43_method_47_code 10 = .ok (.dup, 1) := by decide +kernel
theorem d19_11 : decode jdk_43_method_47_code 11 = .ok (.aload_n 0, 1) := by decide +kernel
theorem d19_12 : decode jdk_43_method_47_code 12 = .ok (.iload_n 1, 1) := by decide +kernel
theorem d19_13 : decode jdk_43_method_47_code 13 = .ok (.iload_n 1, 1) := by decide +kernel
theorem d19_14 : decode jdk_43_method_47_code 14 = .ok (.iload_n 2, 1) := by decide +kernel
theorem d19_15 : decode jdk_43_method_47_code 15 = .ok (.iadd, 1) := by decide +kernel
theorem d19_16 : decode jdk_43_method_47_code 16 = .ok (.invokestatic 232, 3) := by decide +kernel
theorem d19_19 : decode jdk_43_method_47_code 19 = .ok (.iconst 0, 1) := by decide +kernel
theorem d19_20 : decode jdk_43_method_47_code 20 = .ok (.invokespecial 112, 3) := by decide +kernel
theorem d19_23 : decode jdk_43_method_47_code 23 = .ok (.areturn, 1) := by decide +kernel
theorem own_pd58512 : parseMethodDescriptor "([BB)V" = some ⟨[(.array .byte), .byte], none⟩ := by decide +kernel
def own_r_own_ns_1_3_4 : Room := { frames := 3, cells := 2, slots := 7, locals := 50 }
theorem own_ns_1_3_4 (l : Launch) (Z : State) (a0 : Array Value) (hw : own_W a0 Z) (b : Addr) (kb : ClassId) (dv : Value) (v0 v1 v2 v3 : Value) (h0 : Heap) (n0 : Nat) (hO : Old Z n0 h0) (Ab : Arv Z h0 b kb .byte 4 [v0, v1, v2, v3] dv) :
    own_Met l Z (⟨"java/lang/StringLatin1", "newString", "([BII)Ljava/lang/String;"⟩ : MethodName) jdk_43_method_47_code 3 (some (.object "java/lang/String")) own_r_own_ns_1_3_4 #[(.ref b), (.int 1), (.int 3)] h0 (own_Qs3 Z h0 n0 v1 v2 v3) := by
  refine own_body (by decide +kernel) ?_
  intro p e s m below meth c T0 X0 hx hZ hby hml hown hnm hret hlk e0
  have N0 := Fr.nil n0
  refine own_cast (own_frame (L := [rv b, iv 1, iv 3]) (ls := #[rv b, iv 1, iv 3]) rfl rfl) ?_
  refine og_iloadN X0 hx (hb hby d19_0) rfl ?_
  refine og_ifY X0 hx 7 (hb hby d19_1) (feq (by decide)).2 (by decide) (by decide) ?_
  refine own_newO X0 hx hZ hown (own_hw hw 107 rfl) (own_hw hw 3 rfl) (own_hw hw 4 rfl) e0 (hb hby d19_7) (by decide) (by decide) ?_
  intro T1 h1 b1 g1 X1 e1 E1 A1 D1
  have ne_b_b1 : b ≠ b1 := Nat.ne_of_lt (Nat.lt_of_lt_of_eq Ab.lt g1.symm)
  have ge_b1 : n0 ≤ b1 := Nat.le_trans (own_oldle hO) (Nat.le_of_eq g1.symm)
  have sz_b1 : h0.size ≤ b1 := Nat.le_trans (Keep.refl h0 []).1 (Nat.le_of_eq g1.symm)
  have A_b_1 := Ab.ext E1
  have O1 := hO.ext E1
  have K1 := (Keep.refl h0 []).ext E1
  have F_b1_coder_1 : Fld Z h1 b1 "java/lang/String" "coder" "B" (.int 0) := D1 (Or.inr (own_hw hw 28 rfl)) (ty := .byte) (by decide)
  have F_b1_value_1 : Fld Z h1 b1 "java/lang/String" "value" "[B" .null := D1 (Or.inr (own_hw hw 30 rfl)) (ty := (.array .byte)) (by decide)
  show own_Go p e below _ T1 (mkF m 10 #[rv b, iv 1, iv 3] [(.ref b1)])
  refine og_dup X1 hx (hb hby d19_10) rfl ?_
  refine og_aloadN X1 hx (hb hby d19_11) rfl rfl ?_
  refine og_iloadN X1 hx (hb hby d19_12) rfl ?_
  refine og_iloadN X1 hx (hb hby d19_13) rfl ?_
  refine og_iloadN X1 hx (hb hby d19_14) rfl ?_
  refine og_iadd X1 hx (hb hby d19_15) ?_
  show own_Go p e below _ T1 (mkF m 16 #[rv b, iv 1, iv 3] [(.int 4), (.int 1), (.ref b), (.ref b1), (.ref b1)])
  refine own_callS X1 hx hZ hown (own_hw hw 108 rfl) (own_hw hw 109 rfl) (own_hw hw 110 rfl) (own_hw hw 111 rfl) (by decide) (argsL := [(.ref b), (.int 1), (.int 4)]) (rest := [(.ref b1), (.ref b1)]) (own_cr_1_4_4 l Z a0 hw b _ _ v0 v1 v2 v3 h1 n0 O1 A_b_1) e1 (by rw [hml]; rfl) (lenOf own_pd77155 rfl) rfl (hb hby d19_16) (W := 2) (Nat.le_of_eq rfl) (by decide) ?_
  intro v2 T2 L2 X2 q2
  obtain ⟨b2, k2, rfl, N2q, K2q, z2q, g2q, A2q⟩ := q2
  have N2 := Fr.app N0 N2q
  have ne_b_b2 : b ≠ b2 := Nat.ne_of_lt (Nat.lt_of_lt_of_le A_b_1.lt z2q)
  have ne_b1_b2 : b1 ≠ b2 := Nat.ne_of_lt (Nat.lt_of_lt_of_le A1.lt z2q)
  have sz_b2 : h0.size ≤ b2 := Nat.le_trans K1.1 z2q
  have A_b_2 := A_b_1.keep K2q nin0
  have E_b1_2 := A1.keep K2q
  have F_b1_coder_2 := F_b1_coder_1.keep K2q nin0
  have F_b1_value_2 := F_b1_value_1.keep K2q nin0
  have O2 := O1.keep K2q all0
  have K2 := K1.trans K2q all0
  show own_Go p e below _ T2 (mkF m 19 #[rv b, iv 1, iv 3] [(.ref b2), (.ref b1), (.ref b1)])
  refine og_iconst X2 hx (hb hby d19_19) ?_
  refine own_callN X2 hx hZ hown (own_hw hw 126 rfl) (own_hw hw 127 rfl) (own_hw hw 128 rfl) (own_hw hw 4 rfl) (by decide) rfl (b := b1) (argsL := [(.ref b2), (.int 0)]) (rest := [(.ref b1)]) (own_si l Z a0 hw b1 b2 _ _ T2.heap n0 O2 ge_b1 E_b1_2 F_b1_value_2 F_b1_coder_2) rfl (by rw [hml]; rfl) (lenOf own_pd58512 rfl) rfl (hb hby d19_20) (W := 1) (Nat.le_of_eq rfl) (by decide) ?_
  intro v3 T3 L3 X3 q3
  obtain ⟨rfl, N3q, K3q, Fv3, Fc3⟩ := q3
  have N3 := Fr.app N2 N3q
  have A_b_3 := A_b_2.keep K3q (ninS ne_b_b1 nin0)
  have E_b1_3 := E_b1_2.keep K3q
  have A_b2_3 := A2q.keep K3q (ninS (Ne.symm ne_b1_b2) nin0)
  have O3 := O2.keep K3q (allS ge_b1 all0)
  have K3 := K2.trans K3q (allS (Or.inr sz_b1) all0)
  show own_Go p e below _ T3 (mkF m 23 #[rv b, iv 1, iv 3] [(.ref b1)])
  exact own_retA X3 hx hret hlk (hb hby d19_23) rfl rfl (by decide) (by decide) (⟨b1, b2, _, rfl, N3, K3, sz_b1, ge_b1, sz_b2, g2q, ne_b1_b2, E_b1_3, Fv3, Fc3, A_b2_3⟩)
theorem d15_22 : decode jdk_42_method_92_code 22 = .ok (.iload_n 2, 1) := by decide +kernel
theorem d15_23 : decode jdk_42_method_92_code 23 = .ok (.iload_n 1, 1) := by decide +kernel
theorem d15_24 : decode jdk_42_method_92_code 24 = .ok (.isub, 1) := by decide +kernel
theorem d15_25 : decode jdk_42_method_92_code 25 = .ok (.istore 4, 2) := by decide +kernel
theorem d15_27 : decode jdk_42_method_92_code 27 = .ok (.aload_n 0, 1) := by decide +kernel
theorem d15_28 : decode jdk_42_method_92_code 28 = .ok (.invokevirtual 492, 3) := by decide +kernel
theorem d15_31 : decode jdk_42_method_92_code 31 = .ok (.ifCond .eq 16, 3) := by decide +kernel
theorem d15_34 : decode jdk_42_method_92_code 34 = .ok (.aload_n 0, 1) := by decide +kernel
theorem d15_35 : decode jdk_42_method_92_code 35 = .ok (.getfield 9, 3) := by decide +kernel
theorem d15_38 : decode jdk_42_method_92_code 38 = .ok (.iload_n 1, 1) := by decide +kernel
theorem d15_39 : decode jdk_42_method_92_code 39 = .ok (.iload 4, 2) := by decide +kernel
theorem d15_41 : decode jdk_42_method_92_code 41 = .ok (.invokestatic 685, 3) := by decide +kernel
theorem d15_44 : decode jdk_42_method_92_code 44 = .ok (.goto 13, 3) := by decide +kernel
theorem d15_57 : decode jdk_42_method_92_code 57 = .ok (.areturn, 1) := by decide +kernel
theorem own_pd61835 : parseMethodDescriptor "()Z" = some ⟨[], some .boolean⟩ := by decide +kernel
theorem own_pd78060 : parseMethodDescriptor "([BII)Ljava/lang/String;" = some ⟨[(.array .byte), .int, .int], some (.object "java/lang/String")⟩ := by decide +kernel
def own_r_own_subN3 : Room := { frames := 4, cells := 2, slots := 7, locals := 64 }
theorem own_subN3 (l : Launch) (Z : State) (a0 : Array Value) (hw : own_W a0 Z) (z : Int32) (sf : Value) (t b : Addr) (kb : ClassId) (dv : Value) (n : Int32) (vs : List Value) (lo : Int32) (hi : Int32) (w0 w1 w2 : Value) (h0 : Heap) (n0 : Nat) (hO : Old Z n0 h0) (hG : own_Gs Z z sf) (h1 : ¬ lo < 0) (h2 : ¬ hi < lo) (h3 : ¬ n < hi) (hx0 : ¬ lo = 0) (inn : own_Met l Z (⟨"java/lang/StringLatin1", "newString", "([BII)Ljava/lang/String;"⟩ : MethodName) jdk_43_method_47_code 3 (some (.object "java/lang/String")) own_r_own_ns_1_3_4 #[.ref b, .int lo, .int (hi - lo)] h0 (own_Qs3 Z h0 n0 w0 w1 w2)) (Et : own_E Z h0 t) (Fv : own_V Z h0 t b) (Fc : own_C Z h0 t) (Ab : Arv Z h0 b kb .byte n vs dv) :
    own_Met l Z (⟨"java/lang/String", "substring", "(II)Ljava/lang/String;"⟩ : MethodName) jdk_42_method_92_code 5 (some (.object "java/lang/String")) own_r_own_subN3 #[(.ref t), (.int lo), (.int hi)] h0 (own_Qs3 Z h0 n0 w0 w1 w2) := by
  refine own_body (by decide +kernel) ?_
  intro p e s m below meth c T0 X0 hx hZ hby hml hown hnm hret hlk e0
  have N0 := Fr.nil n0
  refine own_cast (own_frame (L := [rv t, iv lo, iv hi]) (ls := #[rv t, iv lo, iv hi, .unset, .unset]) rfl rfl) ?_
  obtain ⟨SC, hz, SF, rf⟩ := id hG
  refine og_aloadN X0 hx (hb hby d15_0) rfl rfl ?_
  refine own_callV X0 hx hZ hown (own_hw hw 85 rfl) (own_hw hw 48 rfl) (notFace_of_selects (args := #[]) (mvT hZ (own_hw hw 50 rfl))) (own_hw hw 50 rfl) (own_hw hw 49 rfl) (own_hw hw 51 rfl) (own_hw hw 4 rfl) (by decide) (b := t) (argsL := []) (rest := []) (own_slen l Z a0 hw z sf t b _ _ _ _ h0 n0 hO hG Et Fv Fc Ab) e0 Et (by rw [hml]; rfl) (lenOf own_pd13941 rfl) rfl (hb hby d15_1) (W := 0) (Nat.le_of_eq rfl) (by decide) ?_
  intro v1 T1 L1 X1 q1
  obtain ⟨rfl, N1q, e1⟩ := q1
  have N1 := Fr.app N0 N1q
  show own_Go p e below _ T1 (mkF m 4 #[rv t, iv lo, iv hi, .unset, .unset] [(.int n)])
  refine og_istoreN X1 hx #[rv t, iv lo, iv hi, iv n, .unset] (hb hby d15_4) rfl ?_
  refine og_iloadN X1 hx (hb hby d15_5) rfl ?_
  refine og_iloadN X1 hx (hb hby d15_6) rfl ?_
  refine og_iloadN X1 hx (hb hby d15_7) rfl ?_
  refine own_callS X1 hx hZ hown (own_hw hw 91 rfl) (own_hw hw 92 rfl) (own_hw hw 4 rfl) (own_hw hw 93 rfl) (by decide) (argsL := [(.int lo), (.int hi), (.int n)]) (rest := []) (own_cbb l Z a0 hw z sf lo hi n h0 n0 hO hG h1 h2 h3) e1 (by rw [hml]; rfl) (lenOf own_pd73746 rfl) rfl (hb hby d15_8) (W := 0) (Nat.le_of_eq rfl) (by decide) ?_
  intro v2 T2 L2 X2 q2
  obtain ⟨rfl, N2q, e2⟩ := q2
  have N2 := Fr.app N1 N2q
  show own_Go p e below _ T2 (mkF m 11 #[rv t, iv lo, iv hi, iv n, .unset] [])
  refine og_iloadN X2 hx (hb hby d15_11) rfl ?_
  refine og_ifY X2 hx 22 (hb hby d15_12) (feq hx0).2 (by decide) (by decide) ?_
  refine og_iloadN X2 hx (hb hby d15_22) rfl ?_
  refine og_iloadN X2 hx (hb hby d15_23) rfl ?_
  refine og_isub X2 hx (hb hby d15_24) ?_
  refine og_istore X2 hx #[rv t, iv lo, iv hi, iv n, iv (hi - lo)] (hb hby d15_25) rfl ?_
  refine og_aloadN X2 hx (hb hby d15_27) rfl rfl ?_
  refine own_callV X2 hx hZ hown (own_hw hw 98 rfl) (own_hw hw 99 rfl) (notFace_of_selects (args := #[]) (mvT hZ (own_hw hw 101 rfl))) (own_hw hw 101 rfl) (own_hw hw 100 rfl) (own_hw hw 102 rfl) (own_hw hw 4 rfl) (by decide) (b := t) (argsL := []) (rest := []) (own_isl1 l Z a0 hw z sf t h0 n0 hO hG Fc) e2 Et (by rw [hml]; rfl) (lenOf own_pd61835 rfl) rfl (hb hby d15_28) (W := 0) (Nat.le_of_eq rfl) (by decide) ?_
  intro v3 T3 L3 X3 q3
  obtain ⟨rfl, N3q, e3⟩ := q3
  have N3 := Fr.app N2 N3q
  show own_Go p e below _ T3 (mkF m 31 #[rv t, iv lo, iv hi, iv n, iv (hi - lo)] [(.int (1 : Int32))])
  refine og_ifN X3 hx (hb hby d15_31) (feq (by decide)).1 ?_
  refine og_aloadN X3 hx (hb hby d15_34) rfl rfl ?_
  refine og_getF X3 hx hZ hown (own_hw hw 29 rfl) Via.refl e3 Fv (hb hby d15_35) ?_
  intro T4 X4 e4
  refine og_iloadN X4 hx (hb hby d15_38) rfl ?_
  refine og_iload X4 hx (hb hby d15_39) rfl ?_
  refine own_callS X4 hx hZ hown (own_hw hw 103 rfl) (own_hw hw 104 rfl) (own_hw hw 105 rfl) (own_hw hw 106 rfl) (by decide) (argsL := [(.ref b), (.int lo), (.int (hi - lo))]) (rest := []) inn e4 (by rw [hml]; rfl) (lenOf own_pd78060 rfl) rfl (hb hby d15_41) (W := 0) (Nat.le_of_eq rfl) (by decide) ?_
  intro v5 T5 L5 X5 q5
  obtain ⟨t5, vb5, k5, rfl, N5q, K5q, zt5, gt5, zb5, gb5, ne_t5_vb5, Et5, Ft5, Ct5, At5⟩ := q5
  have N5 := Fr.app N3 N5q
  have ne_b_t5 : b ≠ t5 := Nat.ne_of_lt (Nat.lt_of_lt_of_le Ab.lt zt5)
  have ne_t_t5 : t ≠ t5 := Nat.ne_of_lt (Nat.lt_of_lt_of_le Et.lt zt5)
  have sz_t5 : h0.size ≤ t5 := Nat.le_trans (Keep.refl h0 []).1 zt5
  have ne_b_vb5 : b ≠ vb5 := Nat.ne_of_lt (Nat.lt_of_lt_of_le Ab.lt zb5)
  have ne_t_vb5 : t ≠ vb5 := Nat.ne_of_lt (Nat.lt_of_lt_of_le Et.lt zb5)
  have sz_vb5 : h0.size ≤ vb5 := Nat.le_trans (Keep.refl h0 []).1 zb5
  have E_t_5 := Et.keep K5q
  have F_t_value_5 := Fv.keep K5q nin0
  have F_t_coder_5 := Fc.keep K5q nin0
  have A_b_5 := Ab.keep K5q nin0
  have O5 := hO.keep K5q all0
  have K5 := (Keep.refl h0 []).trans K5q all0
  show own_Go p e below _ T5 (mkF m 44 #[rv t, iv lo, iv hi, iv n, iv (hi - lo)] [(.ref t5)])
  refine og_goto X5 hx 57 (hb hby d15_44) (by decide) (by decide) ?_
  exact own_retA X5 hx hret hlk (hb hby d15_57) rfl rfl (by decide) (by decide) (⟨t5, vb5, _, rfl, N5, K5, sz_t5, gt5, sz_vb5, gb5, ne_t5_vb5, Et5, Ft5, Ct5, At5⟩)
def own_r_own_sub1N3 : Room := { frames := 5, cells := 2, slots := 7, locals := 80 }
theorem own_sub1N3 (l : Launch) (Z : State) (a0 : Array Value) (hw : own_W a0 Z) (z : Int32) (sf : Value) (t b : Addr) (kb : ClassId) (dv : Value) (n : Int32) (vs : List Value) (lo : Int32) (w0 w1 w2 : Value) (h0 : Heap) (n0 : Nat) (hO : Old Z n0 h0) (hG : own_Gs Z z sf) (h1 : ¬ lo < 0) (h2 : ¬ n < lo) (hx0 : ¬ lo = 0) (inn : own_Met l Z (⟨"java/lang/StringLatin1", "newString", "([BII)Ljava/lang/String;"⟩ : MethodName) jdk_43_method_47_code 3 (some (.object "java/lang/String")) own_r_own_ns_1_3_4 #[.ref b, .int lo, .int (n - lo)] h0 (own_Qs3 Z h0 n0 w0 w1 w2)) (Et : own_E Z h0 t) (Fv : own_V Z h0 t b) (Fc : own_C Z h0 t) (Ab : Arv Z h0 b kb .byte n vs dv) :
    own_Met l Z (⟨"java/lang/String", "substring", "(I)Ljava/lang/String;"⟩ : MethodName) jdk_42_method_91_code 2 (some (.object "java/lang/String")) own_r_own_sub1N3 #[(.ref t), (.int lo)] h0 (own_Qs3 Z h0 n0 w0 w1 w2) := by
  refine own_body (by decide +kernel) ?_
  intro p e s m below meth c T0 X0 hx hZ hby hml hown hnm hret hlk e0
  have N0 := Fr.nil n0
  refine own_cast (own_frame (L := [rv t, iv lo]) (ls := #[rv t, iv lo]) rfl rfl) ?_
  obtain ⟨SC, hz, SF, rf⟩ := id hG
  refine og_aloadN X0 hx (hb hby d14_0) rfl rfl ?_
  refine og_iloadN X0 hx (hb hby d14_1) rfl ?_
  refine og_aloadN X0 hx (hb hby d14_2) rfl rfl ?_
  refine own_callV X0 hx hZ hown (own_hw hw 85 rfl) (own_hw hw 48 rfl) (notFace_of_selects (args := #[]) (mvT hZ (own_hw hw 50 rfl))) (own_hw hw 50 rfl) (own_hw hw 49 rfl) (own_hw hw 51 rfl) (own_hw hw 4 rfl) (by decide) (b := t) (argsL := []) (rest := [(.int lo), (.ref t)]) (own_slen l Z a0 hw z sf t b _ _ _ _ h0 n0 hO hG Et Fv Fc Ab) e0 Et (by rw [hml]; rfl) (lenOf own_pd13941 rfl) rfl (hb hby d14_3) (W := 2) (Nat.le_of_eq rfl) (by decide) ?_
  intro v1 T1 L1 X1 q1
  obtain ⟨rfl, N1q, e1⟩ := q1
  have N1 := Fr.app N0 N1q
  show own_Go p e below _ T1 (mkF m 6 #[rv t, iv lo] [(.int n), (.int lo), (.ref t)])
  refine own_callV X1 hx hZ hown (own_hw hw 86 rfl) (own_hw hw 87 rfl) (notFace_of_selects (args := #[]) (mvT hZ (own_hw hw 89 rfl))) (own_hw hw 89 rfl) (own_hw hw 88 rfl) (own_hw hw 90 rfl) (own_hw hw 4 rfl) (by decide) (b := t) (argsL := [(.int lo), (.int n)]) (rest := []) (own_subN3 l Z a0 hw z sf t b _ _ _ _ lo n w0 w1 w2 h0 n0 hO hG h1 h2 Int32.lt_irrefl hx0 inn Et Fv Fc Ab) e1 Et (by rw [hml]; rfl) (lenOf own_pd41291 rfl) rfl (hb hby d14_6) (W := 0) (Nat.le_of_eq rfl) (by decide) ?_
  intro v2 T2 L2 X2 q2
  obtain ⟨t2, vb2, k2, rfl, N2q, K2q, zt2, gt2, zb2, gb2, ne_t2_vb2, Et2, Ft2, Ct2, At2⟩ := q2
  have N2 := Fr.app N1 N2q
  have ne_b_t2 : b ≠ t2 := Nat.ne_of_lt (Nat.lt_of_lt_of_le Ab.lt zt2)
  have ne_t_t2 : t ≠ t2 := Nat.ne_of_lt (Nat.lt_of_lt_of_le Et.lt zt2)
  have sz_t2 : h0.size ≤ t2 := Nat.le_trans (Keep.refl h0 []).1 zt2
  have ne_b_vb2 : b ≠ vb2 := Nat.ne_of_lt (Nat.lt_of_lt_of_le Ab.lt zb2)
  have ne_t_vb2 : t ≠ vb2 := Nat.ne_of_lt (Nat.lt_of_lt_of_le Et.lt zb2)
  have sz_vb2 : h0.size ≤ vb2 := Nat.le_trans (Keep.refl h0 []).1 zb2
  have E_t_2 := Et.keep K2q
  have F_t_value_2 := Fv.keep K2q nin0
  have F_t_coder_2 := Fc.keep K2q nin0
  have A_b_2 := Ab.keep K2q nin0
  have O2 := hO.keep K2q all0
  have K2 := (Keep.refl h0 []).trans K2q all0
  show own_Go p e below _ T2 (mkF m 9 #[rv t, iv lo] [(.ref t2)])
  exact own_retA X2 hx hret hlk (hb hby d14_9) rfl rfl (by decide) (by decide) (⟨t2, vb2, _, rfl, N2, K2, sz_t2, gt2, sz_vb2, gb2, ne_t2_vb2, Et2, Ft2, Ct2, At2⟩)
def own_r_own_va_1 : Room := { frames := 6, cells := 2, slots := 7, locals := 93 }
theorem own_va_1 (l : Launch) (Z : State) (a0 : Array Value) (hw : own_W a0 Z) (z : Int32) (sf : Value) (t b : Addr) (kb : ClassId) (dv : Value) (v0 v1 v2 v3 : Value) (a1 : Addr) (h0 : Heap) (n0 : Nat) (hO : Old Z n0 h0) (hG : own_Gs Z z sf) (Et : own_E Z h0 t) (Fv : own_V Z h0 t b) (Fc : own_C Z h0 t) (Ab : Arv Z h0 b kb .byte 4 [v0, v1, v2, v3] dv) (F1 : Fld Z h0 a1 "com/example/winnow/winnow/contacts/ContentLine" "text" "Ljava/lang/String;" (.ref t)) (F2 : Fld Z h0 a1 "com/example/winnow/winnow/contacts/ContentLine" "valueStart" "I" (.int (1 : Int32))) :
    own_Met l Z (⟨"com/example/winnow/winnow/contacts/ContentLine", "value", "()Ljava/lang/String;"⟩ : MethodName) prog_25_method_3_code 1 (some (.object "java/lang/String")) own_r_own_va_1 #[(.ref a1)] h0 (own_Qs3 Z h0 n0 v1 v2 v3) := by
  refine own_body (by decide +kernel) ?_
  intro p e s m below meth c T0 X0 hx hZ hby hml hown hnm hret hlk e0
  have N0 := Fr.nil n0
  refine own_cast (own_frame (L := [rv a1]) (ls := #[rv a1]) rfl rfl) ?_
  obtain ⟨SC, hz, SF, rf⟩ := id hG
  refine og_aloadN X0 hx (hb hby d13_0) rfl rfl ?_
  refine og_getF X0 hx hZ hown (own_hw hw 67 rfl) Via.refl e0 F1 (hb hby d13_1) ?_
  intro T1 X1 e1
  refine og_aloadN X1 hx (hb hby d13_4) rfl rfl ?_
  refine og_getF X1 hx hZ hown (own_hw hw 73 rfl) Via.refl e1 F2 (hb hby d13_5) ?_
  intro T2 X2 e2
  show own_Go p e below _ T2 (mkF m 8 #[rv a1] [(.int 1), (.ref t)])
  refine own_callV X2 hx hZ hown (own_hw hw 80 rfl) (own_hw hw 81 rfl) (notFace_of_selects (args := #[]) (mvT hZ (own_hw hw 83 rfl))) (own_hw hw 83 rfl) (own_hw hw 82 rfl) (own_hw hw 84 rfl) (own_hw hw 4 rfl) (by decide) (b := t) (argsL := [(.int 1)]) (rest := []) (own_sub1N3 l Z a0 hw z sf t b _ _ _ _ 1 v1 v2 v3 h0 n0 hO hG (by decide) (by decide) (by decide) (own_ns_1_3_4 l Z a0 hw b _ _ v0 v1 v2 v3 h0 n0 hO Ab) Et Fv Fc Ab) e2 Et (by rw [hml]; rfl) (lenOf own_pd44404 rfl) rfl (hb hby d13_8) (W := 0) (Nat.le_of_eq rfl) (by decide) ?_
  intro v3 T3 L3 X3 q3
  obtain ⟨t3, vb3, k3, rfl, N3q, K3q, zt3, gt3, zb3, gb3, ne_t3_vb3, Et3, Ft3, Ct3, At3⟩ := q3
  have N3 := Fr.app N0 N3q
  have ne_a1_t3 : a1 ≠ t3 := Nat.ne_of_lt (Nat.lt_of_lt_of_le F1.lt zt3)
  have ne_b_t3 : b ≠ t3 := Nat.ne_of_lt (Nat.lt_of_lt_of_le Ab.lt zt3)
  have ne_t_t3 : t ≠ t3 := Nat.ne_of_lt (Nat.lt_of_lt_of_le Et.lt zt3)
  have sz_t3 : h0.size ≤ t3 := Nat.le_trans (Keep.refl h0 []).1 zt3
  have ne_a1_vb3 : a1 ≠ vb3 := Nat.ne_of_lt (Nat.lt_of_lt_of_le F1.lt zb3)
  have ne_b_vb3 : b ≠ vb3 := Nat.ne_of_lt (Nat.lt_of_lt_of_le Ab.lt zb3)
  have ne_t_vb3 : t ≠ vb3 := Nat.ne_of_lt (Nat.lt_of_lt_of_le Et.lt zb3)
  have sz_vb3 : h0.size ≤ vb3 := Nat.le_trans (Keep.refl h0 []).1 zb3
  have E_t_3 := Et.keep K3q
  have F_t_value_3 := Fv.keep K3q nin0
  have F_t_coder_3 := Fc.keep K3q nin0
  have A_b_3 := Ab.keep K3q nin0
  have F_a1_text_3 := F1.keep K3q nin0
  have F_a1_valueStart_3 := F2.keep K3q nin0
  have O3 := hO.keep K3q all0
  have K3 := (Keep.refl h0 []).trans K3q all0
  show own_Go p e below _ T3 (mkF m 11 #[rv a1] [(.ref t3)])
  exact own_retA X3 hx hret hlk (hb hby d13_11) rfl rfl (by decide) (by decide) (⟨t3, vb3, _, rfl, N3, K3, sz_t3, gt3, sz_vb3, gb3, ne_t3_vb3, Et3, Ft3, Ct3, At3⟩)
def own_r_own_oci_2 : Room := { frames := 1, cells := 0, slots := 0, locals := 14 }
theorem own_oci_2 (l : Launch) (Z : State) (a0 : Array Value) (hw : own_W a0 Z)  (h0 : Heap) (n0 : Nat)  :
    own_Met l Z (⟨"java/util/Objects", "checkIndex", "(II)I"⟩ : MethodName) jdk_31_method_17_code 2 (some .int) own_r_own_oci_2 #[(.int 2), (.int 5)] h0 (own_Qv (some (.int 2)) h0 n0) := by
  refine own_body (by decide +kernel) ?_
  intro p e s m below meth c T0 X0 hx hZ hby hml hown hnm hret hlk e0
  have N0 := Fr.nil n0
  refine own_cast (own_frame (L := [iv 2, iv 5]) (ls := #[iv 2, iv 5]) rfl rfl) ?_
  refine og_iloadN X0 hx (hb hby d11_0) rfl ?_
  refine og_iloadN X0 hx (hb hby d11_1) rfl ?_
  refine og_null X0 hx (hb hby d11_2) ?_
  refine own_callS X0 hx hZ hown (own_hw hw 61 rfl) (own_hw hw 62 rfl) (own_hw hw 63 rfl) (own_hw hw 64 rfl) (by decide) (argsL := [(.int 2), (.int 5), .null]) (rest := []) (own_pckn l Z a0 hw 2 5 h0 n0 (by decide) (by decide)) e0 (by rw [hml]; rfl) (lenOf own_pd6315 rfl) rfl (hb hby d11_3) (W := 0) (Nat.le_of_eq rfl) (by decide) ?_
  intro v1 T1 L1 X1 q1
  obtain ⟨rfl, N1q, e1⟩ := q1
  have N1 := Fr.app N0 N1q
  show own_Go p e below _ T1 (mkF m 6 #[iv 2, iv 5] [(.int 2)])
  exact own_retI X1 hx hret hlk (hb hby d11_6) rfl (by simp) (by decide) (by decide) (⟨rfl, N1, e1⟩)
def own_Qc2 (Z : State) (a1 t : Addr) (h0 : Heap) (n0 : Nat) (v : Option Value) (h : Heap) (L : List Loc) : Prop := v = none ∧ Fr n0 L ∧ Keep h0 h [a1] ∧ Fld Z h a1 "com/example/winnow/winnow/contacts/ContentLine" "text" "Ljava/lang/String;" (.ref t) ∧ Fld Z h a1 "com/example/winnow/winnow/contacts/ContentLine" "valueStart" "I" (.int (2 : Int32))
def own_r_own_cl_2 : Room := { frames := 2, cells := 0, slots := 0, locals := 27 }
theorem own_cl_2 (l : Launch) (Z : State) (a0 : Array Value) (hw : own_W a0 Z) (z : Int32) (sf : Value) (t b : Addr) (kb : ClassId) (dv : Value) (v0 v1 v2 v3 : Value) (a1 g nm : Addr) (p1 : Int32) (u_number u_text u_group u_name u_valueStart : Value) (h0 : Heap) (n0 : Nat) (hO : Old Z n0 h0) (hG : own_Gs Z z sf) (Et : own_E Z h0 t) (Fv : own_V Z h0 t b) (Fc : own_C Z h0 t) (Ab : Arv Z h0 b kb .byte 4 [v0, v1, v2, v3] dv) (g1 : n0 ≤ a1) (ne1 : a1 ≠ t) (ne2 : a1 ≠ b) (E1 : Exa Z h0 a1 "com/example/winnow/winnow/contacts/ContentLine") (F_number : Fld Z h0 a1 "com/example/winnow/winnow/contacts/ContentLine" "number" "I" u_number) (F_text : Fld Z h0 a1 "com/example/winnow/winnow/contacts/ContentLine" "text" "Ljava/lang/String;" u_text) (F_group : Fld Z h0 a1 "com/example/winnow/winnow/contacts/ContentLine" "group" "Ljava/lang/String;" u_group) (F_name : Fld Z h0 a1 "com/example/winnow/winnow/contacts/ContentLine" "name" "Ljava/lang/String;" u_name) (F_valueStart : Fld Z h0 a1 "com/example/winnow/winnow/contacts/ContentLine" "valueStart" "I" u_valueStart) :
    own_Met l Z (⟨"com/example/winnow/winnow/contacts/ContentLine", "<init>", "(ILjava/lang/String;Ljava/lang/String;Ljava/lang/String;I)V"⟩ : MethodName) prog_25_method_1_code 6 none own_r_own_cl_2 #[(.ref a1), (.int p1), (.ref t), (.ref g), (.ref nm), (.int 2)] h0 (own_Qc2 Z a1 t h0 n0) := by
  refine own_body (by decide +kernel) ?_
  intro p e s m below meth c T0 X0 hx hZ hby hml hown hnm hret hlk e0
  have N0 := Fr.nil n0
  refine own_cast (own_frame (L := [rv a1, iv p1, rv t, rv g, rv nm, iv 2]) (ls := #[rv a1, iv p1, rv t, rv g, rv nm, iv 2]) rfl rfl) ?_
  obtain ⟨SC, hz, SF, rf⟩ := id hG
  refine og_aloadN X0 hx (hb hby d7_0) rfl rfl ?_
  refine own_callN X0 hx hZ hown (own_hw hw 41 rfl) (own_hw hw 42 rfl) (own_hw hw 45 rfl) (own_hw hw 44 rfl) (by decide) rfl (b := a1) (argsL := []) (rest := []) (own_ri l Z a0 hw a1 h0 n0) e0 (by rw [hml]; rfl) (lenOf own_pd8992 rfl) rfl (hb hby d7_1) (W := 0) (Nat.le_of_eq rfl) (by decide) ?_
  intro v1 T1 L1 X1 q1
  obtain ⟨rfl, N1q, e1⟩ := q1
  have N1 := Fr.app N0 N1q
  show own_Go p e below _ T1 (mkF m 4 #[rv a1, iv p1, rv t, rv g, rv nm, iv 2] [])
  refine og_iload X1 hx (hb hby d7_4) rfl ?_
  refine og_aloadN X1 hx (hb hby d7_6) rfl rfl ?_
  refine own_callV X1 hx hZ hown (own_hw hw 47 rfl) (own_hw hw 48 rfl) (notFace_of_selects (args := #[]) (mvT hZ (own_hw hw 50 rfl))) (own_hw hw 50 rfl) (own_hw hw 49 rfl) (own_hw hw 51 rfl) (own_hw hw 4 rfl) (by decide) (b := t) (argsL := []) (rest := [(.int 2)]) (own_slen l Z a0 hw z sf t b _ _ _ _ h0 n0 hO hG Et Fv Fc Ab) e1 Et (by rw [hml]; rfl) (lenOf own_pd13941 rfl) rfl (hb hby d7_7) (W := 1) (Nat.le_of_eq rfl) (by decide) ?_
  intro v2 T2 L2 X2 q2
  obtain ⟨rfl, N2q, e2⟩ := q2
  have N2 := Fr.app N1 N2q
  show own_Go p e below _ T2 (mkF m 10 #[rv a1, iv p1, rv t, rv g, rv nm, iv 2] [(.int 4), (.int 2)])
  refine og_iconst X2 hx (hb hby d7_10) ?_
  refine og_iadd X2 hx (hb hby d7_11) ?_
  show own_Go p e below _ T2 (mkF m 12 #[rv a1, iv p1, rv t, rv g, rv nm, iv 2] [(.int 5), (.int 2)])
  refine own_callS X2 hx hZ hown (own_hw hw 57 rfl) (own_hw hw 58 rfl) (own_hw hw 59 rfl) (own_hw hw 60 rfl) (by decide) (argsL := [(.int 2), (.int 5)]) (rest := []) (own_oci_2 l Z a0 hw h0 n0) e2 (by rw [hml]; rfl) (lenOf own_pd23903 rfl) rfl (hb hby d7_12) (W := 0) (Nat.le_of_eq rfl) (by decide) ?_
  intro v3 T3 L3 X3 q3
  obtain ⟨rfl, N3q, e3⟩ := q3
  have N3 := Fr.app N2 N3q
  show own_Go p e below _ T3 (mkF m 15 #[rv a1, iv p1, rv t, rv g, rv nm, iv 2] [(.int 2)])
  refine og_pop X3 hx (hb hby d7_15) rfl ?_
  refine og_aloadN X3 hx (hb hby d7_16) rfl rfl ?_
  refine og_iloadN X3 hx (hb hby d7_17) rfl ?_
  obtain ⟨T4, h4, X4, e4, W4, st4⟩ := putF X3 hx hZ hown (host := "") (Or.inl (own_hw hw 65 rfl)) Via.refl e3 F_number E1 (Or.inr ⟨(own_hw hw 66 rfl), rfl, hnm⟩) (own_hw hw 32 rfl) (ty := .int) (by decide) rfl rfl (g := (mkF m 18 #[rv a1, iv p1, rv t, rv g, rv nm, iv 2] [(.int p1), (.ref a1)])) rfl rfl (hb hby d7_18)
  refine own_go st4 ?_
  have E_t_4 := Et.wr W4
  have F_t_value_4 := Fv.other W4 (Or.inl (Ne.symm ne1))
  have F_t_coder_4 := Fc.other W4 (Or.inl (Ne.symm ne1))
  have A_b_4 := Ab.other W4 (Ne.symm ne2)
  have E_a1_4 := E1.wr W4
  have F_a1_text_4 := F_text.other W4 (Or.inr (slot_ne (Or.inr (own_hw hw 68 rfl)) (Or.inr (own_hw hw 66 rfl)) (by decide) (t := (.object "java/lang/String")) (t' := .int) (by decide) (by decide)))
  have F_a1_group_4 := F_group.other W4 (Or.inr (slot_ne (Or.inr (own_hw hw 70 rfl)) (Or.inr (own_hw hw 66 rfl)) (by decide) (t := (.object "java/lang/String")) (t' := .int) (by decide) (by decide)))
  have F_a1_name_4 := F_name.other W4 (Or.inr (slot_ne (Or.inr (own_hw hw 72 rfl)) (Or.inr (own_hw hw 66 rfl)) (by decide) (t := (.object "java/lang/String")) (t' := .int) (by decide) (by decide)))
  have F_a1_valueStart_4 := F_valueStart.other W4 (Or.inr (slot_ne (Or.inr (own_hw hw 74 rfl)) (Or.inr (own_hw hw 66 rfl)) (by decide) (t := .int) (t' := .int) (by decide) (by decide)))
  have O4 := hO.wr W4 g1
  have K4 := (Keep.refl h0 [a1]).wr W4 (Or.inl (by simp))
  have N4 := Fr.snoc X4 N3 g1
  have F_a1_number_4 : Fld Z h4 a1 "com/example/winnow/winnow/contacts/ContentLine" "number" "I" (.int p1) := F_number.same W4
  show own_Go p e below _ T4 (mkF m 21 #[rv a1, iv p1, rv t, rv g, rv nm, iv 2] [])
  refine og_aloadN X4 hx (hb hby d7_21) rfl rfl ?_
  refine og_aloadN X4 hx (hb hby d7_22) rfl rfl ?_
  obtain ⟨T5, h5, X5, e5, W5, st5⟩ := putF X4 hx hZ hown (host := "") (Or.inl (own_hw hw 67 rfl)) Via.refl e4 F_a1_text_4 E_a1_4 (Or.inr ⟨(own_hw hw 68 rfl), rfl, hnm⟩) (own_hw hw 32 rfl) (ty := (.object "java/lang/String")) (by decide) rfl rfl (g := (mkF m 23 #[rv a1, iv p1, rv t, rv g, rv nm, iv 2] [(.ref t), (.ref a1)])) rfl rfl (hb hby d7_23)
  refine own_go st5 ?_
  have E_t_5 := E_t_4.wr W5
  have F_t_value_5 := F_t_value_4.other W5 (Or.inl (Ne.symm ne1))
  have F_t_coder_5 := F_t_coder_4.other W5 (Or.inl (Ne.symm ne1))
  have A_b_5 := A_b_4.other W5 (Ne.symm ne2)
  have E_a1_5 := E_a1_4.wr W5
  have F_a1_group_5 := F_a1_group_4.other W5 (Or.inr (slot_ne (Or.inr (own_hw hw 70 rfl)) (Or.inr (own_hw hw 68 rfl)) (by decide) (t := (.object "java/lang/String")) (t' := (.object "java/lang/String")) (by decide) (by decide)))
  have F_a1_name_5 := F_a1_name_4.other W5 (Or.inr (slot_ne (Or.inr (own_hw hw 72 rfl)) (Or.inr (own_hw hw 68 rfl)) (by decide) (t := (.object "java/lang/String")) (t' := (.object "java/lang/String")) (by decide) (by decide)))
  have F_a1_valueStart_5 := F_a1_valueStart_4.other W5 (Or.inr (slot_ne (Or.inr (own_hw hw 74 rfl)) (Or.inr (own_hw hw 68 rfl)) (by decide) (t := .int) (t' := (.object "java/lang/String")) (by decide) (by decide)))
  have F_a1_number_5 := F_a1_number_4.other W5 (Or.inr (slot_ne (Or.inr (own_hw hw 66 rfl)) (Or.inr (own_hw hw 68 rfl)) (by decide) (t := .int) (t' := (.object "java/lang/String")) (by decide) (by decide)))
  have O5 := O4.wr W5 g1
  have K5 := K4.wr W5 (Or.inl (by simp))
  have N5 := Fr.snoc X5 N4 g1
  have F_a1_text_5 : Fld Z h5 a1 "com/example/winnow/winnow/contacts/ContentLine" "text" "Ljava/lang/String;" (.ref t) := F_a1_text_4.same W5
  show own_Go p e below _ T5 (mkF m 26 #[rv a1, iv p1, rv t, rv g, rv nm, iv 2] [])
  refine og_aloadN X5 hx (hb hby d7_26) rfl rfl ?_
  refine og_aloadN X5 hx (hb hby d7_27) rfl rfl ?_
  obtain ⟨T6, h6, X6, e6, W6, st6⟩ := putF X5 hx hZ hown (host := "") (Or.inl (own_hw hw 69 rfl)) Via.refl e5 F_a1_group_5 E_a1_5 (Or.inr ⟨(own_hw hw 70 rfl), rfl, hnm⟩) (own_hw hw 32 rfl) (ty := (.object "java/lang/String")) (by decide) rfl rfl (g := (mkF m 28 #[rv a1, iv p1, rv t, rv g, rv nm, iv 2] [(.ref g), (.ref a1)])) rfl rfl (hb hby d7_28)
  refine own_go st6 ?_
  have E_t_6 := E_t_5.wr W6
  have F_t_value_6 := F_t_value_5.other W6 (Or.inl (Ne.symm ne1))
  have F_t_coder_6 := F_t_coder_5.other W6 (Or.inl (Ne.symm ne1))
  have A_b_6 := A_b_5.other W6 (Ne.symm ne2)
  have E_a1_6 := E_a1_5.wr W6
  have F_a1_name_6 := F_a1_name_5.other W6 (Or.inr (slot_ne (Or.inr (own_hw hw 72 rfl)) (Or.inr (own_hw hw 70 rfl)) (by decide) (t := (.object "java/lang/String")) (t' := (.object "java/lang/String")) (by decide) (by decide)))
  have F_a1_valueStart_6 := F_a1_valueStart_5.other W6 (Or.inr (slot_ne (Or.inr (own_hw hw 74 rfl)) (Or.inr (own_hw hw 70 rfl)) (by decide) (t := .int) (t' := (.object "java/lang/String")) (by decide) (by decide)))
  have F_a1_number_6 := F_a1_number_5.other W6 (Or.inr (slot_ne (Or.inr (own_hw hw 66 rfl)) (Or.inr (own_hw hw 70 rfl)) (by decide) (t := .int) (t' := (.object "java/lang/String")) (by decide) (by decide)))
  have F_a1_text_6 := F_a1_text_5.other W6 (Or.inr (slot_ne (Or.inr (own_hw hw 68 rfl)) (Or.inr (own_hw hw 70 rfl)) (by decide) (t := (.object "java/lang/String")) (t' := (.object "java/lang/String")) (by decide) (by decide)))
  have O6 := O5.wr W6 g1
  have K6 := K5.wr W6 (Or.inl (by simp))
  have N6 := Fr.snoc X6 N5 g1
  have F_a1_group_6 : Fld Z h6 a1 "com/example/winnow/winnow/contacts/ContentLine" "group" "Ljava/lang/String;" (.ref g) := F_a1_group_5.same W6
  show own_Go p e below _ T6 (mkF m 31 #[rv a1, iv p1, rv t, rv g, rv nm, iv 2] [])
  refine og_aloadN X6 hx (hb hby d7_31) rfl rfl ?_
  refine og_aload X6 hx (hb hby d7_32) rfl rfl ?_
  obtain ⟨T7, h7, X7, e7, W7, st7⟩ := putF X6 hx hZ hown (host := "") (Or.inl (own_hw hw 71 rfl)) Via.refl e6 F_a1_name_6 E_a1_6 (Or.inr ⟨(own_hw hw 72 rfl), rfl, hnm⟩) (own_hw hw 32 rfl) (ty := (.object "java/lang/String")) (by decide) rfl rfl (g := (mkF m 34 #[rv a1, iv p1, rv t, rv g, rv nm, iv 2] [(.ref nm), (.ref a1)])) rfl rfl (hb hby d7_34)
  refine own_go st7 ?_
  have E_t_7 := E_t_6.wr W7
  have F_t_value_7 := F_t_value_6.other W7 (Or.inl (Ne.symm ne1))
  have F_t_coder_7 := F_t_coder_6.other W7 (Or.inl (Ne.symm ne1))
  have A_b_7 := A_b_6.other W7 (Ne.symm ne2)
  have E_a1_7 := E_a1_6.wr W7
  have F_a1_valueStart_7 := F_a1_valueStart_6.other W7 (Or.inr (slot_ne (Or.inr (own_hw hw 74 rfl)) (Or.inr (own_hw hw 72 rfl)) (by decide) (t := .int) (t' := (.object "java/lang/String")) (by decide) (by decide)))
  have F_a1_number_7 := F_a1_number_6.other W7 (Or.inr (slot_ne (Or.inr (own_hw hw 66 rfl)) (Or.inr (own_hw hw 72 rfl)) (by decide) (t := .int) (t' := (.object "java/lang/String")) (by decide) (by decide)))
  have F_a1_text_7 := F_a1_text_6.other W7 (Or.inr (slot_ne (Or.inr (own_hw hw 68 rfl)) (Or.inr (own_hw hw 72 rfl)) (by decide) (t := (.object "java/lang/String")) (t' := (.object "java/lang/String")) (by decide) (by decide)))
  have F_a1_group_7 := F_a1_group_6.other W7 (Or.inr (slot_ne (Or.inr (own_hw hw 70 rfl)) (Or.inr (own_hw hw 72 rfl)) (by decide) (t := (.object "java/lang/String")) (t' := (.object "java/lang/String")) (by decide) (by decide)))
  have O7 := O6.wr W7 g1
  have K7 := K6.wr W7 (Or.inl (by simp))
  have N7 := Fr.snoc X7 N6 g1
  have F_a1_name_7 : Fld Z h7 a1 "com/example/winnow/winnow/contacts/ContentLine" "name" "Ljava/lang/String;" (.ref nm) := F_a1_name_6.same W7
  show own_Go p e below _ T7 (mkF m 37 #[rv a1, iv p1, rv t, rv g, rv nm, iv 2] [])
  refine og_aloadN X7 hx (hb hby d7_37) rfl rfl ?_
  refine og_iload X7 hx (hb hby d7_38) rfl ?_
  obtain ⟨T8, h8, X8, e8, W8, st8⟩ := putF X7 hx hZ hown (host := "") (Or.inl (own_hw hw 73 rfl)) Via.refl e7 F_a1_valueStart_7 E_a1_7 (Or.inr ⟨(own_hw hw 74 rfl), rfl, hnm⟩) (own_hw hw 32 rfl) (ty := .int) (by decide) rfl rfl (g := (mkF m 40 #[rv a1, iv p1, rv t, rv g, rv nm, iv 2] [(.int 2), (.ref a1)])) rfl rfl (hb hby d7_40)
  refine own_go st8 ?_
  have E_t_8 := E_t_7.wr W8
  have F_t_value_8 := F_t_value_7.other W8 (Or.inl (Ne.symm ne1))
  have F_t_coder_8 := F_t_coder_7.other W8 (Or.inl (Ne.symm ne1))
  have A_b_8 := A_b_7.other W8 (Ne.symm ne2)
  have E_a1_8 := E_a1_7.wr W8
  have F_a1_number_8 := F_a1_number_7.other W8 (Or.inr (slot_ne (Or.inr (own_hw hw 66 rfl)) (Or.inr (own_hw hw 74 rfl)) (by decide) (t := .int) (t' := .int) (by decide) (by decide)))
  have F_a1_text_8 := F_a1_text_7.other W8 (Or.inr (slot_ne (Or.inr (own_hw hw 68 rfl)) (Or.inr (own_hw hw 74 rfl)) (by decide) (t := (.object "java/lang/String")) (t' := .int) (by decide) (by decide)))
  have F_a1_group_8 := F_a1_group_7.other W8 (Or.inr (slot_ne (Or.inr (own_hw hw 70 rfl)) (Or.inr (own_hw hw 74 rfl)) (by decide) (t := (.object "java/lang/String")) (t' := .int) (by decide) (by decide)))
  have F_a1_name_8 := F_a1_name_7.other W8 (Or.inr (slot_ne (Or.inr (own_hw hw 72 rfl)) (Or.inr (own_hw hw 74 rfl)) (by decide) (t := (.object "java/lang/String")) (t' := .int) (by decide) (by decide)))
  have O8 := O7.wr W8 g1
  have K8 := K7.wr W8 (Or.inl (by simp))
  have N8 := Fr.snoc X8 N7 g1
  have F_a1_valueStart_8 : Fld Z h8 a1 "com/example/winnow/winnow/contacts/ContentLine" "valueStart" "I" (.int 2) := F_a1_valueStart_7.same W8
  show own_Go p e below _ T8 (mkF m 43 #[rv a1, iv p1, rv t, rv g, rv nm, iv 2] [])
  exact own_retV X8 hx hret hlk (hb hby d7_43) (by decide) (by decide) (by rw [e8]; exact ⟨rfl, N8, K8, F_a1_text_8, F_a1_valueStart_8⟩)
def own_Qs2 (Z : State) (h0 : Heap) (n0 : Nat) (v0 v1 : Value) (v : Option Value) (h : Heap) (L : List Loc) : Prop := ∃ (t b : Addr) (k : ClassId), v = some (.ref t) ∧ Fr n0 L ∧ Keep h0 h [] ∧ h0.size ≤ t ∧ n0 ≤ t ∧ h0.size ≤ b ∧ n0 ≤ b ∧ t ≠ b ∧ own_E Z h t ∧ own_V Z h t b ∧ own_C Z h t ∧ Arv Z h b k .byte 2 [v0, v1] (.int (0 : Int32))
def own_r_own_ckl_2_4 : Room := { frames := 0, cells := 0, slots := 0, locals := 0 }
theorem own_ckl_2_4 (l : Launch) (Z : State) (a0 : Array Value) (hw : own_W a0 Z)  (h0 : Heap) (n0 : Nat)  :
    own_Met l Z (⟨"java/util/Arrays", "checkLength", "(II)V"⟩ : MethodName) jdk_65_method_131_code 2 none own_r_own_ckl_2_4 #[(.int 2), (.int 4)] h0 (own_Qv none h0 n0) := by
  refine own_body (by decide +kernel) ?_
  intro p e s m below meth c T0 X0 hx hZ hby hml hown hnm hret hlk e0
  have N0 := Fr.nil n0
  refine own_cast (own_frame (L := [iv 2, iv 4]) (ls := #[iv 2, iv 4]) rfl rfl) ?_
  refine og_iloadN X0 hx (hb hby d22_0) rfl ?_
  refine og_iloadN X0 hx (hb hby d22_1) rfl ?_
  refine og_icY X0 hx 37 (hb hby d22_2) (flt (by decide)).2.1 (by decide) (by decide) ?_
  exact own_retV X0 hx hret hlk (hb hby d22_37) (by decide) (by decide) (⟨rfl, N0, e0⟩)
def own_r_own_min_2_2 : Room := { frames := 0, cells := 0, slots := 0, locals := 0 }
theorem own_min_2_2 (l : Launch) (Z : State) (a0 : Array Value) (hw : own_W a0 Z)  (h0 : Heap) (n0 : Nat)  :
    own_Met l Z (⟨"java/lang/Math", "min", "(II)I"⟩ : MethodName) jdk_29_method_69_code 2 (some .int) own_r_own_min_2_2 #[(.int 2), (.int 2)] h0 (own_Qv (some (.int (2))) h0 n0) := by
  refine own_body (by decide +kernel) ?_
  intro p e s m below meth c T0 X0 hx hZ hby hml hown hnm hret hlk e0
  have N0 := Fr.nil n0
  refine own_cast (own_frame (L := [iv 2, iv 2]) (ls := #[iv 2, iv 2]) rfl rfl) ?_
  refine og_iloadN X0 hx (hb hby d23_0) rfl ?_
  refine og_iloadN X0 hx (hb hby d23_1) rfl ?_
  refine og_icN X0 hx (hb hby d23_2) (flt (by decide)).2.2.1 ?_
  refine og_iloadN X0 hx (hb hby d23_5) rfl ?_
  refine og_goto X0 hx 10 (hb hby d23_6) (by decide) (by decide) ?_
  exact own_retI X0 hx hret hlk (hb hby d23_10) rfl (by simp) (by decide) (by decide) (⟨rfl, N0, e0⟩)
def own_Qr_2_4_4 (Z : State) (h0 : Heap) (n0 : Nat) (v0 v1 v2 v3 : Value) (v : Option Value) (h : Heap) (L : List Loc) : Prop := ∃ (b : Addr) (k : ClassId), v = some (.ref b) ∧ Fr n0 L ∧ Keep h0 h [] ∧ h0.size ≤ b ∧ n0 ≤ b ∧ Arv Z h b k .byte 2 [v2, v3] (.int (0 : Int32))
def own_r_own_crb_2_4_4 : Room := { frames := 1, cells := 1, slots := 2, locals := 18 }
theorem own_crb_2_4_4 (l : Launch) (Z : State) (a0 : Array Value) (hw : own_W a0 Z) (b : Addr) (kb : ClassId) (dv : Value) (v0 v1 v2 v3 : Value) (h0 : Heap) (n0 : Nat) (hO : Old Z n0 h0) (Ab : Arv Z h0 b kb .byte 4 [v0, v1, v2, v3] dv) :
    own_Met l Z (⟨"java/util/Arrays", "copyOfRangeByte", "([BII)[B"⟩ : MethodName) jdk_65_method_133_code 5 (some (.array .byte)) own_r_own_crb_2_4_4 #[(.ref b), (.int 2), (.int 4)] h0 (own_Qr_2_4_4 Z h0 n0 v0 v1 v2 v3) := by
  refine own_body (by decide +kernel) ?_
  intro p e s m below meth c T0 X0 hx hZ hby hml hown hnm hret hlk e0
  have N0 := Fr.nil n0
  refine own_cast (own_frame (L := [rv b, iv 2, iv 4]) (ls := #[rv b, iv 2, iv 4, .unset, .unset]) rfl rfl) ?_
  refine og_iloadN X0 hx (hb hby d21_0) rfl ?_
  refine og_iloadN X0 hx (hb hby d21_1) rfl ?_
  refine own_callS X0 hx hZ hown (own_hw hw 115 rfl) (own_hw hw 116 rfl) (own_hw hw 110 rfl) (own_hw hw 117 rfl) (by decide) (argsL := [(.int 2), (.int 4)]) (rest := []) (own_ckl_2_4 l Z a0 hw h0 n0) e0 (by rw [hml]; rfl) (lenOf own_pd97226 rfl) rfl (hb hby d21_2) (W := 0) (Nat.le_of_eq rfl) (by decide) ?_
  intro v1 T1 L1 X1 q1
  obtain ⟨rfl, N1q, e1⟩ := q1
  have N1 := Fr.app N0 N1q
  show own_Go p e below _ T1 (mkF m 5 #[rv b, iv 2, iv 4, .unset, .unset] [])
  refine og_iloadN X1 hx (hb hby d21_5) rfl ?_
  refine og_iloadN X1 hx (hb hby d21_6) rfl ?_
  refine og_isub X1 hx (hb hby d21_7) ?_
  refine og_istoreN X1 hx #[rv b, iv 2, iv 4, iv 2, .unset] (hb hby d21_8) rfl ?_
  refine og_iloadN X1 hx (hb hby d21_9) rfl ?_
  refine own_newP X1 hx hZ (own_hw hw 20 rfl) e1 (hb hby d21_10) (by decide) 2 (by decide) (by decide) (by decide) (by decide) ?_
  intro T2 h2 k2 b2 g2 X2 e2 E2 A2
  have ne_b_b2 : b ≠ b2 := Nat.ne_of_lt (Nat.lt_of_lt_of_eq Ab.lt g2.symm)
  have ge_b2 : n0 ≤ b2 := Nat.le_trans (own_oldle hO) (Nat.le_of_eq g2.symm)
  have sz_b2 : h0.size ≤ b2 := Nat.le_trans (Keep.refl h0 []).1 (Nat.le_of_eq g2.symm)
  have A_b_2 := Ab.ext E2
  have O2 := hO.ext E2
  have K2 := (Keep.refl h0 []).ext E2
  have A_b2_2 : Arv Z h2 b2 k2 .byte 2 [(.int (0 : Int32)), (.int (0 : Int32))] (.int (0 : Int32)) := A2
  show own_Go p e below _ T2 (mkF m 12 #[rv b, iv 2, iv 4, iv 2, .unset] [(.ref b2)])
  refine og_astore X2 hx #[rv b, iv 2, iv 4, iv 2, rv b2] (hb hby d21_12) rfl rfl ?_
  refine og_aloadN X2 hx (hb hby d21_14) rfl rfl ?_
  refine og_iloadN X2 hx (hb hby d21_15) rfl ?_
  refine og_aload X2 hx (hb hby d21_16) rfl rfl ?_
  refine og_iconst X2 hx (hb hby d21_18) ?_
  refine og_aloadN X2 hx (hb hby d21_19) rfl rfl ?_
  refine own_len X2 hx hZ e2 A_b_2 (hb hby d21_20) ?_
  show own_Go p e below _ T2 (mkF m 21 #[rv b, iv 2, iv 4, iv 2, rv b2] [(.int 4), (.int 0), (.ref b2), (.int 2), (.ref b)])
  refine og_iloadN X2 hx (hb hby d21_21) rfl ?_
  refine og_isub X2 hx (hb hby d21_22) ?_
  refine og_iloadN X2 hx (hb hby d21_23) rfl ?_
  refine own_callS X2 hx hZ hown (own_hw hw 118 rfl) (own_hw hw 119 rfl) (own_hw hw 120 rfl) (own_hw hw 121 rfl) (by decide) (argsL := [(.int 2), (.int 2)]) (rest := [(.int 0), (.ref b2), (.int 2), (.ref b)]) (own_min_2_2 l Z a0 hw h2 n0) e2 (by rw [hml]; rfl) (lenOf own_pd23903 rfl) rfl (hb hby d21_24) (W := 4) (Nat.le_of_eq rfl) (by decide) ?_
  intro v3 T3 L3 X3 q3
  obtain ⟨rfl, N3q, e3⟩ := q3
  have N3 := Fr.app N1 N3q
  show own_Go p e below _ T3 (mkF m 27 #[rv b, iv 2, iv 4, iv 2, rv b2] [(.int 2), (.int 0), (.ref b2), (.int 2), (.ref b)])
  obtain ⟨T4, h4, L4, X4, e4, N4, K4q, A4, st4⟩ := cpA X3 hx hZ hown (own_hw hw 122 rfl) (own_hw hw 125 rfl) (own_hw hw 123 rfl) (own_hw hw 124 rfl) e3 A_b_2 A_b2_2 (us := [v2, v3]) (Or.inl ⟨rfl, rfl⟩) (by decide) (by decide) (by decide) (by decide) (by decide) rfl (by decide) N3 ge_b2 (g := (mkF m 27 #[rv b, iv 2, iv 4, iv 2, rv b2] [(.int 2), (.int 0), (.ref b2), (.int 2), (.ref b)])) rfl (by rw [hml]; rfl) rfl (hb hby d21_27) (by decide) (W := 0) (by show 2 * 0 + _ ≤ _; exact Nat.le_of_eq rfl) (by decide)
  refine own_go st4 ?_
  have A_b_4 := A_b_2.keep K4q (ninS ne_b_b2 nin0)
  have O4 := O2.keep K4q (allS ge_b2 all0)
  have K4 := K2.trans K4q (allS (Or.inr sz_b2) all0)
  have A_b2_4 : Arv Z h4 b2 k2 .byte 2 [v2, v3] (.int (0 : Int32)) := A4
  show own_Go p e below _ T4 (mkF m 30 #[rv b, iv 2, iv 4, iv 2, rv b2] [])
  refine og_aload X4 hx (hb hby d21_30) rfl rfl ?_
  exact own_retA X4 hx hret hlk (hb hby d21_32) rfl rfl (by decide) (by decide) (by rw [e4]; exact ⟨b2, _, rfl, N4, K4, sz_b2, ge_b2, A_b2_4⟩)
def own_r_own_cr_2_4_4 : Room := { frames := 2, cells := 1, slots := 2, locals := 34 }
theorem own_cr_2_4_4 (l : Launch) (Z : State) (a0 : Array Value) (hw : own_W a0 Z) (b : Addr) (kb : ClassId) (dv : Value) (v0 v1 v2 v3 : Value) (h0 : Heap) (n0 : Nat) (hO : Old Z n0 h0) (Ab : Arv Z h0 b kb .byte 4 [v0, v1, v2, v3] dv) :
    own_Met l Z (⟨"java/util/Arrays", "copyOfRange", "([BII)[B"⟩ : MethodName) jdk_65_method_132_code 3 (some (.array .byte)) own_r_own_cr_2_4_4 #[(.ref b), (.int 2), (.int 4)] h0 (own_Qr_2_4_4 Z h0 n0 v0 v1 v2 v3) := by
  refine own_body (by decide +kernel) ?_
  intro p e s m below meth c T0 X0 hx hZ hby hml hown hnm hret hlk e0
  have N0 := Fr.nil n0
  refine own_cast (own_frame (L := [rv b, iv 2, iv 4]) (ls := #[rv b, iv 2, iv 4]) rfl rfl) ?_
  refine og_iloadN X0 hx (hb hby d20_0) rfl ?_
  refine og_ifY X0 hx 10 (hb hby d20_1) (feq (by decide)).2 (by decide) (by decide) ?_
  refine og_aloadN X0 hx (hb hby d20_10) rfl rfl ?_
  refine og_iloadN X0 hx (hb hby d20_11) rfl ?_
  refine og_iloadN X0 hx (hb hby d20_12) rfl ?_
  refine own_callS X0 hx hZ hown (own_hw hw 112 rfl) (own_hw hw 113 rfl) (own_hw hw 110 rfl) (own_hw hw 114 rfl) (by decide) (argsL := [(.ref b), (.int 2), (.int 4)]) (rest := []) (own_crb_2_4_4 l Z a0 hw b _ _ v0 v1 v2 v3 h0 n0 hO Ab) e0 (by rw [hml]; rfl) (lenOf own_pd77155 rfl) rfl (hb hby d20_13) (W := 0) (Nat.le_of_eq rfl) (by decide) ?_
  intro v1 T1 L1 X1 q1
  obtain ⟨b1, k1, rfl, N1q, K1q, z1q, g1q, A1q⟩ := q1
  have N1 := Fr.app N0 N1q
  have ne_b_b1 : b ≠ b1 := Nat.ne_of_lt (Nat.lt_of_lt_of_le Ab.lt z1q)
  have sz_b1 : h0.size ≤ b1 := Nat.le_trans (Keep.refl h0 []).1 z1q
  have A_b_1 := Ab.keep K1q nin0
  have O1 := hO.keep K1q all0
  have K1 := (Keep.refl h0 []).trans K1q all0
  show own_Go p e below _ T1 (mkF m 16 #[rv b, iv 2, iv 4] [(.ref b1)])
  exact own_retA X1 hx hret hlk (hb hby d20_16) rfl rfl (by decide) (by decide) (⟨b1, _, rfl, N1, K1, sz_b1, g1q, A1q⟩)
def own_r_own_ns_2_2_4 : Room := { frames := 3, cells := 2, slots := 6, locals := 50 }
theorem own_ns_2_2_4 (l : Launch) (Z : State) (a0 : Array Value) (hw : own_W a0 Z) (b : Addr) (kb : ClassId) (dv : Value) (v0 v1 v2 v3 : Value) (h0 : Heap) (n0 : Nat) (hO : Old Z n0 h0) (Ab : Arv Z h0 b kb .byte 4 [v0, v1, v2, v3] dv) :
    own_Met l Z (⟨"java/lang/StringLatin1", "newString", "([BII)Ljava/lang/String;"⟩ : MethodName) jdk_43_method_47_code 3 (some (.object "java/lang/String")) own_r_own_ns_2_2_4 #[(.ref b), (.int 2), (.int 2)] h0 (own_Qs2 Z h0 n0 v2 v3) := by
  refine own_body (by decide +kernel) ?_
  intro p e s m below meth c T0 X0 hx hZ hby hml hown hnm hret hlk e0
  have N0 := Fr.nil n0
  refine own_cast (own_frame (L := [rv b, iv 2, iv 2]) (ls := #[rv b, iv 2, iv 2]) rfl rfl) ?_
  refine og_iloadN X0 hx (hb hby d19_0) rfl ?_
  refine og_ifY X0 hx 7 (hb hby d19_1) (feq (by decide)).2 (by decide) (by decide) ?_
  refine own_newO X0 hx hZ hown (own_hw hw 107 rfl) (own_hw hw 3 rfl) (own_hw hw 4 rfl) e0 (hb hby d19_7) (by decide) (by decide) ?_
  intro T1 h1 b1 g1 X1 e1 E1 A1 D1
  have ne_b_b1 : b ≠ b1 := Nat.ne_of_lt (Nat.lt_of_lt_of_eq Ab.lt g1.symm)
  have ge_b1 : n0 ≤ b1 := Nat.le_trans (own_oldle hO) (Nat.le_of_eq g1.symm)
  have sz_b1 : h0.size ≤ b1 := Nat.le_trans (Keep.refl h0 []).1 (Nat.le_of_eq g1.symm)
  have A_b_1 := Ab.ext E1
  have O1 := hO.ext E1
  have K1 := (Keep.refl h0 []).ext E1
  have F_b1_coder_1 : Fld Z h1 b1 "java/lang/String" "coder" "B" (.int 0) := D1 (Or.inr (own_hw hw 28 rfl)) (ty := .byte) (by decide)
  have F_b1_value_1 : Fld Z h1 b1 "java/lang/String" "value" "[B" .null := D1 (Or.inr (own_hw hw 30 rfl)) (ty := (.array .byte)) (by decide)
  show own_Go p e below _ T1 (mkF m 10 #[rv b, iv 2, iv 2] [(.ref b1)])
  refine og_dup X1 hx (hb hby d19_10) rfl ?_
  refine og_aloadN X1 hx (hb hby d19_11) rfl rfl ?_
  refine og_iloadN X1 hx (hb hby d19_12) rfl ?_
  refine og_iloadN X1 hx (hb hby d19_13) rfl ?_
  refine og_iloadN X1 hx (hb hby d19_14) rfl ?_
  refine og_iadd X1 hx (hb hby d19_15) ?_
  show own_Go p e below _ T1 (mkF m 16 #[rv b, iv 2, iv 2] [(.int 4), (.int 2), (.ref b), (.ref b1), (.ref b1)])
  refine own_callS X1 hx hZ hown (own_hw hw 108 rfl) (own_hw hw 109 rfl) (own_hw hw 110 rfl) (own_hw hw 111 rfl) (by decide) (argsL := [(.ref b), (.int 2), (.int 4)]) (rest := [(.ref b1), (.ref b1)]) (own_cr_2_4_4 l Z a0 hw b _ _ v0 v1 v2 v3 h1 n0 O1 A_b_1) e1 (by rw [hml]; rfl) (lenOf own_pd77155 rfl) rfl (hb hby d19_16) (W := 2) (Nat.le_of_eq rfl) (by decide) ?_
  intro v2 T2 L2 X2 q2
  obtain ⟨b2, k2, rfl, N2q, K2q, z2q, g2q, A2q⟩ := q2
  have N2 := Fr.app N0 N2q
  have ne_b_b2 : b ≠ b2 := Nat.ne_of_lt (Nat.lt_of_lt_of_le A_b_1.lt z2q)
  have ne_b1_b2 : b1 ≠ b2 := Nat.ne_of_lt (Nat.lt_of_lt_of_le A1.lt z2q)
  have sz_b2 : h0.size ≤ b2 := Nat.le_trans K1.1 z2q
  have A_b_2 := A_b_1.keep K2q nin0
  have E_b1_2 := A1.keep K2q
  have F_b1_coder_2 := F_b1_coder_1.keep K2q nin0
  have F_b1_value_2 := F_b1_value_1.keep K2q nin0
  have O2 := O1.keep K2q all0
  have K2 := K1.trans K2q all0
  show own_Go p e below _ T2 (mkF m 19 #[rv b, iv 2, iv 2] [(.ref b2), (.ref b1), (.ref b1)])
  refine og_iconst X2 hx (hb hby d19_19) ?_
  refine own_callN X2 hx hZ hown (own_hw hw 126 rfl) (own_hw hw 127 rfl) (own_hw hw 128 rfl) (own_hw hw 4 rfl) (by decide) rfl (b := b1) (argsL := [(.ref b2), (.int 0)]) (rest := [(.ref b1)]) (own_si l Z a0 hw b1 b2 _ _ T2.heap n0 O2 ge_b1 E_b1_2 F_b1_value_2 F_b1_coder_2) rfl (by rw [hml]; rfl) (lenOf own_pd58512 rfl) rfl (hb hby d19_20) (W := 1) (Nat.le_of_eq rfl) (by decide) ?_
  intro v3 T3 L3 X3 q3
  obtain ⟨rfl, N3q, K3q, Fv3, Fc3⟩ := q3
  have N3 := Fr.app N2 N3q
  have A_b_3 := A_b_2.keep K3q (ninS ne_b_b1 nin0)
  have E_b1_3 := E_b1_2.keep K3q
  have A_b2_3 := A2q.keep K3q (ninS (Ne.symm ne_b1_b2) nin0)
  have O3 := O2.keep K3q (allS ge_b1 all0)
  have K3 := K2.trans K3q (allS (Or.inr sz_b1) all0)
  show own_Go p e below _ T3 (mkF m 23 #[rv b, iv 2, iv 2] [(.ref b1)])
  exact own_retA X3 hx hret hlk (hb hby d19_23) rfl rfl (by decide) (by decide) (⟨b1, b2, _, rfl, N3, K3, sz_b1, ge_b1, sz_b2, g2q, ne_b1_b2, E_b1_3, Fv3, Fc3, A_b2_3⟩)
def own_r_own_subN2 : Room := { frames := 4, cells := 2, slots := 6, locals := 64 }
theorem own_subN2 (l : Launch) (Z : State) (a0 : Array Value) (hw : own_W a0 Z) (z : Int32) (sf : Value) (t b : Addr) (kb : ClassId) (dv : Value) (n : Int32) (vs : List Value) (lo : Int32) (hi : Int32) (w0 w1 : Value) (h0 : Heap) (n0 : Nat) (hO : Old Z n0 h0) (hG : own_Gs Z z sf) (h1 : ¬ lo < 0) (h2 : ¬ hi < lo) (h3 : ¬ n < hi) (hx0 : ¬ lo = 0) (inn : own_Met l Z (⟨"java/lang/StringLatin1", "newString", "([BII)Ljava/lang/String;"⟩ : MethodName) jdk_43_method_47_code 3 (some (.object "java/lang/String")) own_r_own_ns_2_2_4 #[.ref b, .int lo, .int (hi - lo)] h0 (own_Qs2 Z h0 n0 w0 w1)) (Et : own_E Z h0 t) (Fv : own_V Z h0 t b) (Fc : own_C Z h0 t) (Ab : Arv Z h0 b kb .byte n vs dv) :
    own_Met l Z (⟨"java/lang/String", "substring", "(II)Ljava/lang/String;"⟩ : MethodName) jdk_42_method_92_code 5 (some (.object "java/lang/String")) own_r_own_subN2 #[(.ref t), (.int lo), (.int hi)] h0 (own_Qs2 Z h0 n0 w0 w1) := by
  refine own_body (by decide +kernel) ?_
  intro p e s m below meth c T0 X0 hx hZ hby hml hown hnm hret hlk e0
  have N0 := Fr.nil n0
  refine own_cast (own_frame (L := [rv t, iv lo, iv hi]) (ls := #[rv t, iv lo, iv hi, .unset, .unset]) rfl rfl) ?_
  obtain ⟨SC, hz, SF, rf⟩ := id hG
  refine og_aloadN X0 hx (hb hby d15_0) rfl rfl ?_
  refine own_callV X0 hx hZ hown (own_hw hw 85 rfl) (own_hw hw 48 rfl) (notFace_of_selects (args := #[]) (mvT hZ (own_hw hw 50 rfl))) (own_hw hw 50 rfl) (own_hw hw 49 rfl) (own_hw hw 51 rfl) (own_hw hw 4 rfl) (by decide) (b := t) (argsL := []) (rest := []) (own_slen l Z a0 hw z sf t b _ _ _ _ h0 n0 hO hG Et Fv Fc Ab) e0 Et (by rw [hml]; rfl) (lenOf own_pd13941 rfl) rfl (hb hby d15_1) (W := 0) (Nat.le_of_eq rfl) (by decide) ?_
  intro v1 T1 L1 X1 q1
  obtain ⟨rfl, N1q, e1⟩ := q1
  have N1 := Fr.app N0 N1q
  show own_Go p e below _ T1 (mkF m 4 #[rv t, iv lo, iv hi, .unset, .unset] [(.int n)])
  refine og_istoreN X1 hx #[rv t, iv lo, iv hi, iv n, .unset] (hb hby d15_4) rfl ?_
  refine og_iloadN X1 hx (hb hby d15_5) rfl ?_
  refine og_iloadN X1 hx (hb hby d15_6) rfl ?_
  refine og_iloadN X1 hx (hb hby d15_7) rfl ?_
  refine own_callS X1 hx hZ hown (own_hw hw 91 rfl) (own_hw hw 92 rfl) (own_hw hw 4 rfl) (own_hw hw 93 rfl) (by decide) (argsL := [(.int lo), (.int hi), (.int n)]) (rest := []) (own_cbb l Z a0 hw z sf lo hi n h0 n0 hO hG h1 h2 h3) e1 (by rw [hml]; rfl) (lenOf own_pd73746 rfl) rfl (hb hby d15_8) (W := 0) (Nat.le_of_eq rfl) (by decide) ?_
  intro v2 T2 L2 X2 q2
  obtain ⟨rfl, N2q, e2⟩ := q2
  have N2 := Fr.app N1 N2q
  show own_Go p e below _ T2 (mkF m 11 #[rv t, iv lo, iv hi, iv n, .unset] [])
  refine og_iloadN X2 hx (hb hby d15_11) rfl ?_
  refine og_ifY X2 hx 22 (hb hby d15_12) (feq hx0).2 (by decide) (by decide) ?_
  refine og_iloadN X2 hx (hb hby d15_22) rfl ?_
  refine og_iloadN X2 hx (hb hby d15_23) rfl ?_
  refine og_isub X2 hx (hb hby d15_24) ?_
  refine og_istore X2 hx #[rv t, iv lo, iv hi, iv n, iv (hi - lo)] (hb hby d15_25) rfl ?_
  refine og_aloadN X2 hx (hb hby d15_27) rfl rfl ?_
  refine own_callV X2 hx hZ hown (own_hw hw 98 rfl) (own_hw hw 99 rfl) (notFace_of_selects (args := #[]) (mvT hZ (own_hw hw 101 rfl))) (own_hw hw 101 rfl) (own_hw hw 100 rfl) (own_hw hw 102 rfl) (own_hw hw 4 rfl) (by decide) (b := t) (argsL := []) (rest := []) (own_isl1 l Z a0 hw z sf t h0 n0 hO hG Fc) e2 Et (by rw [hml]; rfl) (lenOf own_pd61835 rfl) rfl (hb hby d15_28) (W := 0) (Nat.le_of_eq rfl) (by decide) ?_
  intro v3 T3 L3 X3 q3
  obtain ⟨rfl, N3q, e3⟩ := q3
  have N3 := Fr.app N2 N3q
  show own_Go p e below _ T3 (mkF m 31 #[rv t, iv lo, iv hi, iv n, iv (hi - lo)] [(.int (1 : Int32))])
  refine og_ifN X3 hx (hb hby d15_31) (feq (by decide)).1 ?_
  refine og_aloadN X3 hx (hb hby d15_34) rfl rfl ?_
  refine og_getF X3 hx hZ hown (own_hw hw 29 rfl) Via.refl e3 Fv (hb hby d15_35) ?_
  intro T4 X4 e4
  refine og_iloadN X4 hx (hb hby d15_38) rfl ?_
  refine og_iload X4 hx (hb hby d15_39) rfl ?_
  refine own_callS X4 hx hZ hown (own_hw hw 103 rfl) (own_hw hw 104 rfl) (own_hw hw 105 rfl) (own_hw hw 106 rfl) (by decide) (argsL := [(.ref b), (.int lo), (.int (hi - lo))]) (rest := []) inn e4 (by rw [hml]; rfl) (lenOf own_pd78060 rfl) rfl (hb hby d15_41) (W := 0) (Nat.le_of_eq rfl) (by decide) ?_
  intro v5 T5 L5 X5 q5
  obtain ⟨t5, vb5, k5, rfl, N5q, K5q, zt5, gt5, zb5, gb5, ne_t5_vb5, Et5, Ft5, Ct5, At5⟩ := q5
  have N5 := Fr.app N3 N5q
  have ne_b_t5 : b ≠ t5 := Nat.ne_of_lt (Nat.lt_of_lt_of_le Ab.lt zt5)
  have ne_t_t5 : t ≠ t5 := Nat.ne_of_lt (Nat.lt_of_lt_of_le Et.lt zt5)
  have sz_t5 : h0.size ≤ t5 := Nat.le_trans (Keep.refl h0 []).1 zt5
  have ne_b_vb5 : b ≠ vb5 := Nat.ne_of_lt (Nat.lt_of_lt_of_le Ab.lt zb5)
  have ne_t_vb5 : t ≠ vb5 := Nat.ne_of_lt (Nat.lt_of_lt_of_le Et.lt zb5)
  have sz_vb5 : h0.size ≤ vb5 := Nat.le_trans (Keep.refl h0 []).1 zb5
  have E_t_5 := Et.keep K5q
  have F_t_value_5 := Fv.keep K5q nin0
  have F_t_coder_5 := Fc.keep K5q nin0
  have A_b_5 := Ab.keep K5q nin0
  have O5 := hO.keep K5q all0
  have K5 := (Keep.refl h0 []).trans K5q all0
  show own_Go p e below _ T5 (mkF m 44 #[rv t, iv lo, iv hi, iv n, iv (hi - lo)] [(.ref t5)])
  refine og_goto X5 hx 57 (hb hby d15_44) (by decide) (by decide) ?_
  exact own_retA X5 hx hret hlk (hb hby d15_57) rfl rfl (by decide) (by decide) (⟨t5, vb5, _, rfl, N5, K5, sz_t5, gt5, sz_vb5, gb5, ne_t5_vb5, Et5, Ft5, Ct5, At5⟩)
def own_r_own_sub1N2 : Room := { frames := 5, cells := 2, slots := 6, locals := 80 }
theorem own_sub1N2 (l : Launch) (Z : State) (a0 : Array Value) (hw : own_W a0 Z) (z : Int32) (sf : Value) (t b : Addr) (kb : ClassId) (dv : Value) (n : Int32) (vs : List Value) (lo : Int32) (w0 w1 : Value) (h0 : Heap) (n0 : Nat) (hO : Old Z n0 h0) (hG : own_Gs Z z sf) (h1 : ¬ lo < 0) (h2 : ¬ n < lo) (hx0 : ¬ lo = 0) (inn : own_Met l Z (⟨"java/lang/StringLatin1", "newString", "([BII)Ljava/lang/String;"⟩ : MethodName) jdk_43_method_47_code 3 (some (.object "java/lang/String")) own_r_own_ns_2_2_4 #[.ref b, .int lo, .int (n - lo)] h0 (own_Qs2 Z h0 n0 w0 w1)) (Et : own_E Z h0 t) (Fv : own_V Z h0 t b) (Fc : own_C Z h0 t) (Ab : Arv Z h0 b kb .byte n vs dv) :
    own_Met l Z (⟨"java/lang/String", "substring", "(I)Ljava/lang/String;"⟩ : MethodName) jdk_42_method_91_code 2 (some (.object "java/lang/String")) own_r_own_sub1N2 #[(.ref t), (.int lo)] h0 (own_Qs2 Z h0 n0 w0 w1) := by
  refine own_body (by decide +kernel) ?_
  intro p e s m below meth c T0 X0 hx hZ hby hml hown hnm hret hlk e0
  have N0 := Fr.nil n0
  refine own_cast (own_frame (L := [rv t, iv lo]) (ls := #[rv t, iv lo]) rfl rfl) ?_
  obtain ⟨SC, hz, SF, rf⟩ := id hG
  refine og_aloadN X0 hx (hb hby d14_0) rfl rfl ?_
  refine og_iloadN X0 hx (hb hby d14_1) rfl ?_
  refine og_aloadN X0 hx (hb hby d14_2) rfl rfl ?_
  refine own_callV X0 hx hZ hown (own_hw hw 85 rfl) (own_hw hw 48 rfl) (notFace_of_selects (args := #[]) (mvT hZ (own_hw hw 50 rfl))) (own_hw hw 50 rfl) (own_hw hw 49 rfl) (own_hw hw 51 rfl) (own_hw hw 4 rfl) (by decide) (b := t) (argsL := []) (rest := [(.int lo), (.ref t)]) (own_slen l Z a0 hw z sf t b _ _ _ _ h0 n0 hO hG Et Fv Fc Ab) e0 Et (by rw [hml]; rfl) (lenOf own_pd13941 rfl) rfl (hb hby d14_3) (W := 2) (Nat.le_of_eq rfl) (by decide) ?_
  intro v1 T1 L1 X1 q1
  obtain ⟨rfl, N1q, e1⟩ := q1
  have N1 := Fr.app N0 N1q
  show own_Go p e below _ T1 (mkF m 6 #[rv t, iv lo] [(.int n), (.int lo), (.ref t)])
  refine own_callV X1 hx hZ hown (own_hw hw 86 rfl) (own_hw hw 87 rfl) (notFace_of_selects (args := #[]) (mvT hZ (own_hw hw 89 rfl))) (own_hw hw 89 rfl) (own_hw hw 88 rfl) (own_hw hw 90 rfl) (own_hw hw 4 rfl) (by decide) (b := t) (argsL := [(.int lo), (.int n)]) (rest := []) (own_subN2 l Z a0 hw z sf t b _ _ _ _ lo n w0 w1 h0 n0 hO hG h1 h2 Int32.lt_irrefl hx0 inn Et Fv Fc Ab) e1 Et (by rw [hml]; rfl) (lenOf own_pd41291 rfl) rfl (hb hby d14_6) (W := 0) (Nat.le_of_eq rfl) (by decide) ?_
  intro v2 T2 L2 X2 q2
  obtain ⟨t2, vb2, k2, rfl, N2q, K2q, zt2, gt2, zb2, gb2, ne_t2_vb2, Et2, Ft2, Ct2, At2⟩ := q2
  have N2 := Fr.app N1 N2q
  have ne_b_t2 : b ≠ t2 := Nat.ne_of_lt (Nat.lt_of_lt_of_le Ab.lt zt2)
  have ne_t_t2 : t ≠ t2 := Nat.ne_of_lt (Nat.lt_of_lt_of_le Et.lt zt2)
  have sz_t2 : h0.size ≤ t2 := Nat.le_trans (Keep.refl h0 []).1 zt2
  have ne_b_vb2 : b ≠ vb2 := Nat.ne_of_lt (Nat.lt_of_lt_of_le Ab.lt zb2)
  have ne_t_vb2 : t ≠ vb2 := Nat.ne_of_lt (Nat.lt_of_lt_of_le Et.lt zb2)
  have sz_vb2 : h0.size ≤ vb2 := Nat.le_trans (Keep.refl h0 []).1 zb2
  have E_t_2 := Et.keep K2q
  have F_t_value_2 := Fv.keep K2q nin0
  have F_t_coder_2 := Fc.keep K2q nin0
  have A_b_2 := Ab.keep K2q nin0
  have O2 := hO.keep K2q all0
  have K2 := (Keep.refl h0 []).trans K2q all0
  show own_Go p e below _ T2 (mkF m 9 #[rv t, iv lo] [(.ref t2)])
  exact own_retA X2 hx hret hlk (hb hby d14_9) rfl rfl (by decide) (by decide) (⟨t2, vb2, _, rfl, N2, K2, sz_t2, gt2, sz_vb2, gb2, ne_t2_vb2, Et2, Ft2, Ct2, At2⟩)
def own_r_own_va_2 : Room := { frames := 6, cells := 2, slots := 6, locals := 93 }
theorem own_va_2 (l : Launch) (Z : State) (a0 : Array Value) (hw : own_W a0 Z) (z : Int32) (sf : Value) (t b : Addr) (kb : ClassId) (dv : Value) (v0 v1 v2 v3 : Value) (a1 : Addr) (h0 : Heap) (n0 : Nat) (hO : Old Z n0 h0) (hG : own_Gs Z z sf) (Et : own_E Z h0 t) (Fv : own_V Z h0 t b) (Fc : own_C Z h0 t) (Ab : Arv Z h0 b kb .byte 4 [v0, v1, v2, v3] dv) (F1 : Fld Z h0 a1 "com/example/winnow/winnow/contacts/ContentLine" "text" "Ljava/lang/String;" (.ref t)) (F2 : Fld Z h0 a1 "com/example/winnow/winnow/contacts/ContentLine" "valueStart" "I" (.int (2 : Int32))) :
    own_Met l Z (⟨"com/example/winnow/winnow/contacts/ContentLine", "value", "()Ljava/lang/String;"⟩ : MethodName) prog_25_method_3_code 1 (some (.object "java/lang/String")) own_r_own_va_2 #[(.ref a1)] h0 (own_Qs2 Z h0 n0 v2 v3) := by
  refine own_body (by decide +kernel) ?_
  intro p e s m below meth c T0 X0 hx hZ hby hml hown hnm hret hlk e0
  have N0 := Fr.nil n0
  refine own_cast (own_frame (L := [rv a1]) (ls := #[rv a1]) rfl rfl) ?_
  obtain ⟨SC, hz, SF, rf⟩ := id hG
  refine og_aloadN X0 hx (hb hby d13_0) rfl rfl ?_
  refine og_getF X0 hx hZ hown (own_hw hw 67 rfl) Via.refl e0 F1 (hb hby d13_1) ?_
  intro T1 X1 e1
  refine og_aloadN X1 hx (hb hby d13_4) rfl rfl ?_
  refine og_getF X1 hx hZ hown (own_hw hw 73 rfl) Via.refl e1 F2 (hb hby d13_5) ?_
  intro T2 X2 e2
  show own_Go p e below _ T2 (mkF m 8 #[rv a1] [(.int 2), (.ref t)])
  refine own_callV X2 hx hZ hown (own_hw hw 80 rfl) (own_hw hw 81 rfl) (notFace_of_selects (args := #[]) (mvT hZ (own_hw hw 83 rfl))) (own_hw hw 83 rfl) (own_hw hw 82 rfl) (own_hw hw 84 rfl) (own_hw hw 4 rfl) (by decide) (b := t) (argsL := [(.int 2)]) (rest := []) (own_sub1N2 l Z a0 hw z sf t b _ _ _ _ 2 v2 v3 h0 n0 hO hG (by decide) (by decide) (by decide) (own_ns_2_2_4 l Z a0 hw b _ _ v0 v1 v2 v3 h0 n0 hO Ab) Et Fv Fc Ab) e2 Et (by rw [hml]; rfl) (lenOf own_pd44404 rfl) rfl (hb hby d13_8) (W := 0) (Nat.le_of_eq rfl) (by decide) ?_
  intro v3 T3 L3 X3 q3
  obtain ⟨t3, vb3, k3, rfl, N3q, K3q, zt3, gt3, zb3, gb3, ne_t3_vb3, Et3, Ft3, Ct3, At3⟩ := q3
  have N3 := Fr.app N0 N3q
  have ne_a1_t3 : a1 ≠ t3 := Nat.ne_of_lt (Nat.lt_of_lt_of_le F1.lt zt3)
  have ne_b_t3 : b ≠ t3 := Nat.ne_of_lt (Nat.lt_of_lt_of_le Ab.lt zt3)
  have ne_t_t3 : t ≠ t3 := Nat.ne_of_lt (Nat.lt_of_lt_of_le Et.lt zt3)
  have sz_t3 : h0.size ≤ t3 := Nat.le_trans (Keep.refl h0 []).1 zt3
  have ne_a1_vb3 : a1 ≠ vb3 := Nat.ne_of_lt (Nat.lt_of_lt_of_le F1.lt zb3)
  have ne_b_vb3 : b ≠ vb3 := Nat.ne_of_lt (Nat.lt_of_lt_of_le Ab.lt zb3)
  have ne_t_vb3 : t ≠ vb3 := Nat.ne_of_lt (Nat.lt_of_lt_of_le Et.lt zb3)
  have sz_vb3 : h0.size ≤ vb3 := Nat.le_trans (Keep.refl h0 []).1 zb3
  have E_t_3 := Et.keep K3q
  have F_t_value_3 := Fv.keep K3q nin0
  have F_t_coder_3 := Fc.keep K3q nin0
  have A_b_3 := Ab.keep K3q nin0
  have F_a1_text_3 := F1.keep K3q nin0
  have F_a1_valueStart_3 := F2.keep K3q nin0
  have O3 := hO.keep K3q all0
  have K3 := (Keep.refl h0 []).trans K3q all0
  show own_Go p e below _ T3 (mkF m 11 #[rv a1] [(.ref t3)])
  exact own_retA X3 hx hret hlk (hb hby d13_11) rfl rfl (by decide) (by decide) (⟨t3, vb3, _, rfl, N3, K3, sz_t3, gt3, sz_vb3, gb3, ne_t3_vb3, Et3, Ft3, Ct3, At3⟩)
def own_r_own_oci_3 : Room := { frames := 1, cells := 0, slots := 0, locals := 14 }
theorem own_oci_3 (l : Launch) (Z : State) (a0 : Array Value) (hw : own_W a0 Z)  (h0 : Heap) (n0 : Nat)  :
    own_Met l Z (⟨"java/util/Objects", "checkIndex", "(II)I"⟩ : MethodName) jdk_31_method_17_code 2 (some .int) own_r_own_oci_3 #[(.int 3), (.int 5)] h0 (own_Qv (some (.int 3)) h0 n0) := by
  refine own_body (by decide +kernel) ?_
  intro p e s m below meth c T0 X0 hx hZ hby hml hown hnm hret hlk e0
  have N0 := Fr.nil n0
  refine own_cast (own_frame (L := [iv 3, iv 5]) (ls := #[iv 3, iv 5]) rfl rfl) ?_
  refine og_iloadN X0 hx (hb hby d11_0) rfl ?_
  refine og_iloadN X0 hx (hb hby d11_1) rfl ?_
  refine og_null X0 hx (hb hby d11_2) ?_
  refine own_callS X0 hx hZ hown (own_hw hw 61 rfl) (own_hw hw 62 rfl) (own_hw hw 63 rfl) (own_hw hw 64 rfl) (by decide) (argsL := [(.int 3), (.int 5), .null]) (rest := []) (own_pckn l Z a0 hw 3 5 h0 n0 (by decide) (by decide)) e0 (by rw [hml]; rfl) (lenOf own_pd6315 rfl) rfl (hb hby d11_3) (W := 0) (Nat.le_of_eq rfl) (by decide) ?_
  intro v1 T1 L1 X1 q1
  obtain ⟨rfl, N1q, e1⟩ := q1
  have N1 := Fr.app N0 N1q
  show own_Go p e below _ T1 (mkF m 6 #[iv 3, iv 5] [(.int 3)])
  exact own_retI X1 hx hret hlk (hb hby d11_6) rfl (by simp) (by decide) (by decide) (⟨rfl, N1, e1⟩)
def own_Qc3 (Z : State) (a1 t : Addr) (h0 : Heap) (n0 : Nat) (v : Option Value) (h : Heap) (L : List Loc) : Prop := v = none ∧ Fr n0 L ∧ Keep h0 h [a1] ∧ Fld Z h a1 "com/example/winnow/winnow/contacts/ContentLine" "text" "Ljava/lang/String;" (.ref t) ∧ Fld Z h a1 "com/example/winnow/winnow/contacts/ContentLine" "valueStart" "I" (.int (3 : Int32))
def own_r_own_cl_3 : Room := { frames := 2, cells := 0, slots := 0, locals := 27 }
theorem own_cl_3 (l : Launch) (Z : State) (a0 : Array Value) (hw : own_W a0 Z) (z : Int32) (sf : Value) (t b : Addr) (kb : ClassId) (dv : Value) (v0 v1 v2 v3 : Value) (a1 g nm : Addr) (p1 : Int32) (u_number u_text u_group u_name u_valueStart : Value) (h0 : Heap) (n0 : Nat) (hO : Old Z n0 h0) (hG : own_Gs Z z sf) (Et : own_E Z h0 t) (Fv : own_V Z h0 t b) (Fc : own_C Z h0 t) (Ab : Arv Z h0 b kb .byte 4 [v0, v1, v2, v3] dv) (g1 : n0 ≤ a1) (ne1 : a1 ≠ t) (ne2 : a1 ≠ b) (E1 : Exa Z h0 a1 "com/example/winnow/winnow/contacts/ContentLine") (F_number : Fld Z h0 a1 "com/example/winnow/winnow/contacts/ContentLine" "number" "I" u_number) (F_text : Fld Z h0 a1 "com/example/winnow/winnow/contacts/ContentLine" "text" "Ljava/lang/String;" u_text) (F_group : Fld Z h0 a1 "com/example/winnow/winnow/contacts/ContentLine" "group" "Ljava/lang/String;" u_group) (F_name : Fld Z h0 a1 "com/example/winnow/winnow/contacts/ContentLine" "name" "Ljava/lang/String;" u_name) (F_valueStart : Fld Z h0 a1 "com/example/winnow/winnow/contacts/ContentLine" "valueStart" "I" u_valueStart) :
    own_Met l Z (⟨"com/example/winnow/winnow/contacts/ContentLine", "<init>", "(ILjava/lang/String;Ljava/lang/String;Ljava/lang/String;I)V"⟩ : MethodName) prog_25_method_1_code 6 none own_r_own_cl_3 #[(.ref a1), (.int p1), (.ref t), (.ref g), (.ref nm), (.int 3)] h0 (own_Qc3 Z a1 t h0 n0) := by
  refine own_body (by decide +kernel) ?_
  intro p e s m below meth c T0 X0 hx hZ hby hml hown hnm hret hlk e0
  have N0 := Fr.nil n0
  refine own_cast (own_frame (L := [rv a1, iv p1, rv t, rv g, rv nm, iv 3]) (ls := #[rv a1, iv p1, rv t, rv g, rv nm, iv 3]) rfl rfl) ?_
  obtain ⟨SC, hz, SF, rf⟩ := id hG
  refine og_aloadN X0 hx (hb hby d7_0) rfl rfl ?_
  refine own_callN X0 hx hZ hown (own_hw hw 41 rfl) (own_hw hw 42 rfl) (own_hw hw 45 rfl) (own_hw hw 44 rfl) (by decide) rfl (b := a1) (argsL := []) (rest := []) (own_ri l Z a0 hw a1 h0 n0) e0 (by rw [hml]; rfl) (lenOf own_pd8992 rfl) rfl (hb hby d7_1) (W := 0) (Nat.le_of_eq rfl) (by decide) ?_
  intro v1 T1 L1 X1 q1
  obtain ⟨rfl, N1q, e1⟩ := q1
  have N1 := Fr.app N0 N1q
  show own_Go p e below _ T1 (mkF m 4 #[rv a1, iv p1, rv t, rv g, rv nm, iv 3] [])
  refine og_iload X1 hx (hb hby d7_4) rfl ?_
  refine og_aloadN X1 hx (hb hby d7_6) rfl rfl ?_
  refine own_callV X1 hx hZ hown (own_hw hw 47 rfl) (own_hw hw 48 rfl) (notFace_of_selects (args := #[]) (mvT hZ (own_hw hw 50 rfl))) (own_hw hw 50 rfl) (own_hw hw 49 rfl) (own_hw hw 51 rfl) (own_hw hw 4 rfl) (by decide) (b := t) (argsL := []) (rest := [(.int 3)]) (own_slen l Z a0 hw z sf t b _ _ _ _ h0 n0 hO hG Et Fv Fc Ab) e1 Et (by rw [hml]; rfl) (lenOf own_pd13941 rfl) rfl (hb hby d7_7) (W := 1) (Nat.le_of_eq rfl) (by decide) ?_
  intro v2 T2 L2 X2 q2
  obtain ⟨rfl, N2q, e2⟩ := q2
  have N2 := Fr.app N1 N2q
  show own_Go p e below _ T2 (mkF m 10 #[rv a1, iv p1, rv t, rv g, rv nm, iv 3] [(.int 4), (.int 3)])
  refine og_iconst X2 hx (hb hby d7_10) ?_
  refine og_iadd X2 hx (hb hby d7_11) ?_
  show own_Go p e below _ T2 (mkF m 12 #[rv a1, iv p1, rv t, rv g, rv nm, iv 3] [(.int 5), (.int 3)])
  refine own_callS X2 hx hZ hown (own_hw hw 57 rfl) (own_hw hw 58 rfl) (own_hw hw 59 rfl) (own_hw hw 60 rfl) (by decide) (argsL := [(.int 3), (.int 5)]) (rest := []) (own_oci_3 l Z a0 hw h0 n0) e2 (by rw [hml]; rfl) (lenOf own_pd23903 rfl) rfl (hb hby d7_12) (W := 0) (Nat.le_of_eq rfl) (by decide) ?_
  intro v3 T3 L3 X3 q3
  obtain ⟨rfl, N3q, e3⟩ := q3
  have N3 := Fr.app N2 N3q
  show own_Go p e below _ T3 (mkF m 15 #[rv a1, iv p1, rv t, rv g, rv nm, iv 3] [(.int 3)])
  refine og_pop X3 hx (hb hby d7_15) rfl ?_
  refine og_aloadN X3 hx (hb hby d7_16) rfl rfl ?_
  refine og_iloadN X3 hx (hb hby d7_17) rfl ?_
  obtain ⟨T4, h4, X4, e4, W4, st4⟩ := putF X3 hx hZ hown (host := "") (Or.inl (own_hw hw 65 rfl)) Via.refl e3 F_number E1 (Or.inr ⟨(own_hw hw 66 rfl), rfl, hnm⟩) (own_hw hw 32 rfl) (ty := .int) (by decide) rfl rfl (g := (mkF m 18 #[rv a1, iv p1, rv t, rv g, rv nm, iv 3] [(.int p1), (.ref a1)])) rfl rfl (hb hby d7_18)
  refine own_go st4 ?_
  have E_t_4 := Et.wr W4
  have F_t_value_4 := Fv.other W4 (Or.inl (Ne.symm ne1))
  have F_t_coder_4 := Fc.other W4 (Or.inl (Ne.symm ne1))
  have A_b_4 := Ab.other W4 (Ne.symm ne2)
  have E_a1_4 := E1.wr W4
  have F_a1_text_4 := F_text.other W4 (Or.inr (slot_ne (Or.inr (own_hw hw 68 rfl)) (Or.inr (own_hw hw 66 rfl)) (by decide) (t := (.object "java/lang/String")) (t' := .int) (by decide) (by decide)))
  have F_a1_group_4 := F_group.other W4 (Or.inr (slot_ne (Or.inr (own_hw hw 70 rfl)) (Or.inr (own_hw hw 66 rfl)) (by decide) (t := (.object "java/lang/String")) (t' := .int) (by decide) (by decide)))
  have F_a1_name_4 := F_name.other W4 (Or.inr (slot_ne (Or.inr (own_hw hw 72 rfl)) (Or.inr (own_hw hw 66 rfl)) (by decide) (t := (.object "java/lang/String")) (t' := .int) (by decide) (by decide)))
  have F_a1_valueStart_4 := F_valueStart.other W4 (Or.inr (slot_ne (Or.inr (own_hw hw 74 rfl)) (Or.inr (own_hw hw 66 rfl)) (by decide) (t := .int) (t' := .int) (by decide) (by decide)))
  have O4 := hO.wr W4 g1
  have K4 := (Keep.refl h0 [a1]).wr W4 (Or.inl (by simp))
  have N4 := Fr.snoc X4 N3 g1
  have F_a1_number_4 : Fld Z h4 a1 "com/example/winnow/winnow/contacts/ContentLine" "number" "I" (.int p1) := F_number.same W4
  show own_Go p e below _ T4 (mkF m 21 #[rv a1, iv p1, rv t, rv g, rv nm, iv 3] [])
  refine og_aloadN X4 hx (hb hby d7_21) rfl rfl ?_
  refine og_aloadN X4 hx (hb hby d7_22) rfl rfl ?_
  obtain ⟨T5, h5, X5, e5, W5, st5⟩ := putF X4 hx hZ hown (host := "") (Or.inl (own_hw hw 67 rfl)) Via.refl e4 F_a1_text_4 E_a1_4 (Or.inr ⟨(own_hw hw 68 rfl), rfl, hnm⟩) (own_hw hw 32 rfl) (ty := (.object "java/lang/String")) (by decide) rfl rfl (g := (mkF m 23 #[rv a1, iv p1, rv t, rv g, rv nm, iv 3] [(.ref t), (.ref a1)])) rfl rfl (hb hby d7_23)
  refine own_go st5 ?_
  have E_t_5 := E_t_4.wr W5
  have F_t_value_5 := F_t_value_4.other W5 (Or.inl (Ne.symm ne1))
  have F_t_coder_5 := F_t_coder_4.other W5 (Or.inl (Ne.symm ne1))
  have A_b_5 := A_b_4.other W5 (Ne.symm ne2)
  have E_a1_5 := E_a1_4.wr W5
  have F_a1_group_5 := F_a1_group_4.other W5 (Or.inr (slot_ne (Or.inr (own_hw hw 70 rfl)) (Or.inr (own_hw hw 68 rfl)) (by decide) (t := (.object "java/lang/String")) (t' := (.object "java/lang/String")) (by decide) (by decide)))
  have F_a1_name_5 := F_a1_name_4.other W5 (Or.inr (slot_ne (Or.inr (own_hw hw 72 rfl)) (Or.inr (own_hw hw 68 rfl)) (by decide) (t := (.object "java/lang/String")) (t' := (.object "java/lang/String")) (by decide) (by decide)))
  have F_a1_valueStart_5 := F_a1_valueStart_4.other W5 (Or.inr (slot_ne (Or.inr (own_hw hw 74 rfl)) (Or.inr (own_hw hw 68 rfl)) (by decide) (t := .int) (t' := (.object "java/lang/String")) (by decide) (by decide)))
  have F_a1_number_5 := F_a1_number_4.other W5 (Or.inr (slot_ne (Or.inr (own_hw hw 66 rfl)) (Or.inr (own_hw hw 68 rfl)) (by decide) (t := .int) (t' := (.object "java/lang/String")) (by decide) (by decide)))
  have O5 := O4.wr W5 g1
  have K5 := K4.wr W5 (Or.inl (by simp))
  have N5 := Fr.snoc X5 N4 g1
  have F_a1_text_5 : Fld Z h5 a1 "com/example/winnow/winnow/contacts/ContentLine" "text" "Ljava/lang/String;" (.ref t) := F_a1_text_4.same W5
  show own_Go p e below _ T5 (mkF m 26 #[rv a1, iv p1, rv t, rv g, rv nm, iv 3] [])
  refine og_aloadN X5 hx (hb hby d7_26) rfl rfl ?_
  refine og_aloadN X5 hx (hb hby d7_27) rfl rfl ?_
  obtain ⟨T6, h6, X6, e6, W6, st6⟩ := putF X5 hx hZ hown (host := "") (Or.inl (own_hw hw 69 rfl)) Via.refl e5 F_a1_group_5 E_a1_5 (Or.inr ⟨(own_hw hw 70 rfl), rfl, hnm⟩) (own_hw hw 32 rfl) (ty := (.object "java/lang/String")) (by decide) rfl rfl (g := (mkF m 28 #[rv a1, iv p1, rv t, rv g, rv nm, iv 3] [(.ref g), (.ref a1)])) rfl rfl (hb hby d7_28)
  refine own_go st6 ?_
  have E_t_6 := E_t_5.wr W6
  have F_t_value_6 := F_t_value_5.other W6 (Or.inl (Ne.symm ne1))
  have F_t_coder_6 := F_t_coder_5.other W6 (Or.inl (Ne.symm ne1))
  have A_b_6 := A_b_5.other W6 (Ne.symm ne2)
  have E_a1_6 := E_a1_5.wr W6
  have F_a1_name_6 := F_a1_name_5.other W6 (Or.inr (slot_ne (Or.inr (own_hw hw 72 rfl)) (Or.inr (own_hw hw 70 rfl)) (by decide) (t := (.object "java/lang/String")) (t' := (.object "java/lang/String")) (by decide) (by decide)))
  have F_a1_valueStart_6 := F_a1_valueStart_5.other W6 (Or.inr (slot_ne (Or.inr (own_hw hw 74 rfl)) (Or.inr (own_hw hw 70 rfl)) (by decide) (t := .int) (t' := (.object "java/lang/String")) (by decide) (by decide)))
  have F_a1_number_6 := F_a1_number_5.other W6 (Or.inr (slot_ne (Or.inr (own_hw hw 66 rfl)) (Or.inr (own_hw hw 70 rfl)) (by decide) (t := .int) (t' := (.object "java/lang/String")) (by decide) (by decide)))
  have F_a1_text_6 := F_a1_text_5.other W6 (Or.inr (slot_ne (Or.inr (own_hw hw 68 rfl)) (Or.inr (own_hw hw 70 rfl)) (by decide) (t := (.object "java/lang/String")) (t' := (.object "java/lang/String")) (by decide) (by decide)))
  have O6 := O5.wr W6 g1
  have K6 := K5.wr W6 (Or.inl (by simp))
  have N6 := Fr.snoc X6 N5 g1
  have F_a1_group_6 : Fld Z h6 a1 "com/example/winnow/winnow/contacts/ContentLine" "group" "Ljava/lang/String;" (.ref g) := F_a1_group_5.same W6
  show own_Go p e below _ T6 (mkF m 31 #[rv a1, iv p1, rv t, rv g, rv nm, iv 3] [])
  refine og_aloadN X6 hx (hb hby d7_31) rfl rfl ?_
  refine og_aload X6 hx (hb hby d7_32) rfl rfl ?_
  obtain ⟨T7, h7, X7, e7, W7, st7⟩ := putF X6 hx hZ hown (host := "") (Or.inl (own_hw hw 71 rfl)) Via.refl e6 F_a1_name_6 E_a1_6 (Or.inr ⟨(own_hw hw 72 rfl), rfl, hnm⟩) (own_hw hw 32 rfl) (ty := (.object "java/lang/String")) (by decide) rfl rfl (g := (mkF m 34 #[rv a1, iv p1, rv t, rv g, rv nm, iv 3] [(.ref nm), (.ref a1)])) rfl rfl (hb hby d7_34)
  refine own_go st7 ?_
  have E_t_7 := E_t_6.wr W7
  have F_t_value_7 := F_t_value_6.other W7 (Or.inl (Ne.symm ne1))
  have F_t_coder_7 := F_t_coder_6.other W7 (Or.inl (Ne.symm ne1))
  have A_b_7 := A_b_6.other W7 (Ne.symm ne2)
  have E_a1_7 := E_a1_6.wr W7
  have F_a1_valueStart_7 := F_a1_valueStart_6.other W7 (Or.inr (slot_ne (Or.inr (own_hw hw 74 rfl)) (Or.inr (own_hw hw 72 rfl)) (by decide) (t := .int) (t' := (.object "java/lang/String")) (by decide) (by decide)))
  have F_a1_number_7 := F_a1_number_6.other W7 (Or.inr (slot_ne (Or.inr (own_hw hw 66 rfl)) (Or.inr (own_hw hw 72 rfl)) (by decide) (t := .int) (t' := (.object "java/lang/String")) (by decide) (by decide)))
  have F_a1_text_7 := F_a1_text_6.other W7 (Or.inr (slot_ne (Or.inr (own_hw hw 68 rfl)) (Or.inr (own_hw hw 72 rfl)) (by decide) (t := (.object "java/lang/String")) (t' := (.object "java/lang/String")) (by decide) (by decide)))
  have F_a1_group_7 := F_a1_group_6.other W7 (Or.inr (slot_ne (Or.inr (own_hw hw 70 rfl)) (Or.inr (own_hw hw 72 rfl)) (by decide) (t := (.object "java/lang/String")) (t' := (.object "java/lang/String")) (by decide) (by decide)))
  have O7 := O6.wr W7 g1
  have K7 := K6.wr W7 (Or.inl (by simp))
  have N7 := Fr.snoc X7 N6 g1
  have F_a1_name_7 : Fld Z h7 a1 "com/example/winnow/winnow/contacts/ContentLine" "name" "Ljava/lang/String;" (.ref nm) := F_a1_name_6.same W7
  show own_Go p e below _ T7 (mkF m 37 #[rv a1, iv p1, rv t, rv g, rv nm, iv 3] [])
  refine og_aloadN X7 hx (hb hby d7_37) rfl rfl ?_
  refine og_iload X7 hx (hb hby d7_38) rfl ?_
  obtain ⟨T8, h8, X8, e8, W8, st8⟩ := putF X7 hx hZ hown (host := "") (Or.inl (own_hw hw 73 rfl)) Via.refl e7 F_a1_valueStart_7 E_a1_7 (Or.inr ⟨(own_hw hw 74 rfl), rfl, hnm⟩) (own_hw hw 32 rfl) (ty := .int) (by decide) rfl rfl (g := (mkF m 40 #[rv a1, iv p1, rv t, rv g, rv nm, iv 3] [(.int 3), (.ref a1)])) rfl rfl (hb hby d7_40)
  refine own_go st8 ?_
  have E_t_8 := E_t_7.wr W8
  have F_t_value_8 := F_t_value_7.other W8 (Or.inl (Ne.symm ne1))
  have F_t_coder_8 := F_t_coder_7.other W8 (Or.inl (Ne.symm ne1))
  have A_b_8 := A_b_7.other W8 (Ne.symm ne2)
  have E_a1_8 := E_a1_7.wr W8
  have F_a1_number_8 := F_a1_number_7.other W8 (Or.inr (slot_ne (Or.inr (own_hw hw 66 rfl)) (Or.inr (own_hw hw 74 rfl)) (by decide) (t := .int) (t' := .int) (by decide) (by decide)))
  have F_a1_text_8 := F_a1_text_7.other W8 (Or.inr (slot_ne (Or.inr (own_hw hw 68 rfl)) (Or.inr (own_hw hw 74 rfl)) (by decide) (t := (.object "java/lang/String")) (t' := .int) (by decide) (by decide)))
  have F_a1_group_8 := F_a1_group_7.other W8 (Or.inr (slot_ne (Or.inr (own_hw hw 70 rfl)) (Or.inr (own_hw hw 74 rfl)) (by decide) (t := (.object "java/lang/String")) (t' := .int) (by decide) (by decide)))
  have F_a1_name_8 := F_a1_name_7.other W8 (Or.inr (slot_ne (Or.inr (own_hw hw 72 rfl)) (Or.inr (own_hw hw 74 rfl)) (by decide) (t := (.object "java/lang/String")) (t' := .int) (by decide) (by decide)))
  have O8 := O7.wr W8 g1
  have K8 := K7.wr W8 (Or.inl (by simp))
  have N8 := Fr.snoc X8 N7 g1
  have F_a1_valueStart_8 : Fld Z h8 a1 "com/example/winnow/winnow/contacts/ContentLine" "valueStart" "I" (.int 3) := F_a1_valueStart_7.same W8
  show own_Go p e below _ T8 (mkF m 43 #[rv a1, iv p1, rv t, rv g, rv nm, iv 3] [])
  exact own_retV X8 hx hret hlk (hb hby d7_43) (by decide) (by decide) (by rw [e8]; exact ⟨rfl, N8, K8, F_a1_text_8, F_a1_valueStart_8⟩)
def own_Qs1 (Z : State) (h0 : Heap) (n0 : Nat) (v0 : Value) (v : Option Value) (h : Heap) (L : List Loc) : Prop := ∃ (t b : Addr) (k : ClassId), v = some (.ref t) ∧ Fr n0 L ∧ Keep h0 h [] ∧ h0.size ≤ t ∧ n0 ≤ t ∧ h0.size ≤ b ∧ n0 ≤ b ∧ t ≠ b ∧ own_E Z h t ∧ own_V Z h t b ∧ own_C Z h t ∧ Arv Z h b k .byte 1 [v0] (.int (0 : Int32))
def own_r_own_ckl_3_4 : Room := { frames := 0, cells := 0, slots := 0, locals := 0 }
theorem own_ckl_3_4 (l : Launch) (Z : State) (a0 : Array Value) (hw : own_W a0 Z)  (h0 : Heap) (n0 : Nat)  :
    own_Met l Z (⟨"java/util/Arrays", "checkLength", "(II)V"⟩ : MethodName) jdk_65_method_131_code 2 none own_r_own_ckl_3_4 #[(.int 3), (.int 4)] h0 (own_Qv none h0 n0) := by
  refine own_body (by decide +kernel) ?_
  intro p e s m below meth c T0 X0 hx hZ hby hml hown hnm hret hlk e0
  have N0 := Fr.nil n0
  refine own_cast (own_frame (L := [iv 3, iv 4]) (ls := #[iv 3, iv 4]) rfl rfl) ?_
  refine og_iloadN X0 hx (hb hby d22_0) rfl ?_
  refine og_iloadN X0 hx (hb hby d22_1) rfl ?_
  refine og_icY X0 hx 37 (hb hby d22_2) (flt (by decide)).2.1 (by decide) (by decide) ?_
  exact own_retV X0 hx hret hlk (hb hby d22_37) (by decide) (by decide) (⟨rfl, N0, e0⟩)
def own_r_own_min_1_1 : Room := { frames := 0, cells := 0, slots := 0, locals := 0 }
theorem own_min_1_1 (l : Launch) (Z : State) (a0 : Array Value) (hw : own_W a0 Z)  (h0 : Heap) (n0 : Nat)  :
    own_Met l Z (⟨"java/lang/Math", "min", "(II)I"⟩ : MethodName) jdk_29_method_69_code 2 (some .int) own_r_own_min_1_1 #[(.int 1), (.int 1)] h0 (own_Qv (some (.int (1))) h0 n0) := by
  refine own_body (by decide +kernel) ?_
  intro p e s m below meth c T0 X0 hx hZ hby hml hown hnm hret hlk e0
  have N0 := Fr.nil n0
  refine own_cast (own_frame (L := [iv 1, iv 1]) (ls := #[iv 1, iv 1]) rfl rfl) ?_
  refine og_iloadN X0 hx (hb hby d23_0) rfl ?_
  refine og_iloadN X0 hx (hb hby d23_1) rfl ?_
  refine og_icN X0 hx (hb hby d23_2) (flt (by decide)).2.2.1 ?_
  refine og_iloadN X0 hx (hb hby d23_5) rfl ?_
  refine og_goto X0 hx 10 (hb hby d23_6) (by decide) (by decide) ?_
  exact own_retI X0 hx hret hlk (hb hby d23_10) rfl (by simp) (by decide) (by decide) (⟨rfl, N0, e0⟩)
def own_Qr_3_4_4 (Z : State) (h0 : Heap) (n0 : Nat) (v0 v1 v2 v3 : Value) (v : Option Value) (h : Heap) (L : List Loc) : Prop := ∃ (b : Addr) (k : ClassId), v = some (.ref b) ∧ Fr n0 L ∧ Keep h0 h [] ∧ h0.size ≤ b ∧ n0 ≤ b ∧ Arv Z h b k .byte 1 [v3] (.int (0 : Int32))
def own_r_own_crb_3_4_4 : Room := { frames := 1, cells := 1, slots := 1, locals := 18 }
theorem own_crb_3_4_4 (l : Launch) (Z : State) (a0 : Array Value) (hw : own_W a0 Z) (b : Addr) (kb : ClassId) (dv : Value) (v0 v1 v2 v3 : Value) (h0 : Heap) (n0 : Nat) (hO : Old Z n0 h0) (Ab : Arv Z h0 b kb .byte 4 [v0, v1, v2, v3] dv) :
    own_Met l Z (⟨"java/util/Arrays", "copyOfRangeByte", "([BII)[B"⟩ : MethodName) jdk_65_method_133_code 5 (some (.array .byte)) own_r_own_crb_3_4_4 #[(.ref b), (.int 3), (.int 4)] h0 (own_Qr_3_4_4 Z h0 n0 v0 v1 v2 v3) := by
  refine own_body (by decide +kernel) ?_
  intro p e s m below meth c T0 X0 hx hZ hby hml hown hnm hret hlk e0
  have N0 := Fr.nil n0
  refine own_cast (own_frame (L := [rv b, iv 3, iv 4]) (ls := #[rv b, iv 3, iv 4, .unset, .unset]) rfl rfl) ?_
  refine og_iloadN X0 hx (hb hby d21_0) rfl ?_
  refine og_iloadN X0 hx (hb hby d21_1) rfl ?_
  refine own_callS X0 hx hZ hown (own_hw hw 115 rfl) (own_hw hw 116 rfl) (own_hw hw 110 rfl) (own_hw hw 117 rfl) (by decide) (argsL := [(.int 3), (.int 4)]) (rest := []) (own_ckl_3_4 l Z a0 hw h0 n0) e0 (by rw [hml]; rfl) (lenOf own_pd97226 rfl) rfl (hb hby d21_2) (W := 0) (Nat.le_of_eq rfl) (by decide) ?_
  intro v1 T1 L1 X1 q1
  obtain ⟨rfl, N1q, e1⟩ := q1
  have N1 := Fr.app N0 N1q
  show own_Go p e below _ T1 (mkF m 5 #[rv b, iv 3, iv 4, .unset, .unset] [])
  refine og_iloadN X1 hx (hb hby d21_5) rfl ?_
  refine og_iloadN X1 hx (hb hby d21_6) rfl ?_
  refine og_isub X1 hx (hb hby d21_7) ?_
  refine og_istoreN X1 hx #[rv b, iv 3, iv 4, iv 1, .unset] (hb hby d21_8) rfl ?_
  refine og_iloadN X1 hx (hb hby d21_9) rfl ?_
  refine own_newP X1 hx hZ (own_hw hw 20 rfl) e1 (hb hby d21_10) (by decide) 1 (by decide) (by decide) (by decide) (by decide) ?_
  intro T2 h2 k2 b2 g2 X2 e2 E2 A2
  have ne_b_b2 : b ≠ b2 := Nat.ne_of_lt (Nat.lt_of_lt_of_eq Ab.lt g2.symm)
  have ge_b2 : n0 ≤ b2 := Nat.le_trans (own_oldle hO) (Nat.le_of_eq g2.symm)
  have sz_b2 : h0.size ≤ b2 := Nat.le_trans (Keep.refl h0 []).1 (Nat.le_of_eq g2.symm)
  have A_b_2 := Ab.ext E2
  have O2 := hO.ext E2
  have K2 := (Keep.refl h0 []).ext E2
  have A_b2_2 : Arv Z h2 b2 k2 .byte 1 [(.int (0 : Int32))] (.int (0 : Int32)) := A2
  show own_Go p e below _ T2 (mkF m 12 #[rv b, iv 3, iv 4, iv 1, .unset] [(.ref b2)])
  refine og_astore X2 hx #[rv b, iv 3, iv 4, iv 1, rv b2] (hb hby d21_12) rfl rfl ?_
  refine og_aloadN X2 hx (hb hby d21_14) rfl rfl ?_
  refine og_iloadN X2 hx (hb hby d21_15) rfl ?_
  refine og_aload X2 hx (hb hby d21_16) rfl rfl ?_
  refine og_iconst X2 hx (hb hby d21_18) ?_
  refine og_aloadN X2 hx (hb hby d21_19) rfl rfl ?_
  refine own_len X2 hx hZ e2 A_b_2 (hb hby d21_20) ?_
  show own_Go p e below _ T2 (mkF m 21 #[rv b, iv 3, iv 4, iv 1, rv b2] [(.int 4), (.int 0), (.ref b2), (.int 3), (.ref b)])
  refine og_iloadN X2 hx (hb hby d21_21) rfl ?_
  refine og_isub X2 hx (hb hby d21_22) ?_
  refine og_iloadN X2 hx (hb hby d21_23) rfl ?_
  refine own_callS X2 hx hZ hown (own_hw hw 118 rfl) (own_hw hw 119 rfl) (own_hw hw 120 rfl) (own_hw hw 121 rfl) (by decide) (argsL := [(.int 1), (.int 1)]) (rest := [(.int 0), (.ref b2), (.int 3), (.ref b)]) (own_min_1_1 l Z a0 hw h2 n0) e2 (by rw [hml]; rfl) (lenOf own_pd23903 rfl) rfl (hb hby d21_24) (W := 4) (Nat.le_of_eq rfl) (by decide) ?_
  intro v3 T3 L3 X3 q3
  obtain ⟨rfl, N3q, e3⟩ := q3
  have N3 := Fr.app N1 N3q
  show own_Go p e below _ T3 (mkF m 27 #[rv b, iv 3, iv 4, iv 1, rv b2] [(.int 1), (.int 0), (.ref b2), (.int 3), (.ref b)])
  obtain ⟨T4, h4, L4, X4, e4, N4, K4q, A4, st4⟩ := cpA X3 hx hZ hown (own_hw hw 122 rfl) (own_hw hw 125 rfl) (own_hw hw 123 rfl) (own_hw hw 124 rfl) e3 A_b_2 A_b2_2 (us := [v3]) (Or.inl ⟨rfl, rfl⟩) (by decide) (by decide) (by decide) (by decide) (by decide) rfl (by decide) N3 ge_b2 (g := (mkF m 27 #[rv b, iv 3, iv 4, iv 1, rv b2] [(.int 1), (.int 0), (.ref b2), (.int 3), (.ref b)])) rfl (by rw [hml]; rfl) rfl (hb hby d21_27) (by decide) (W := 0) (by show 2 * 0 + _ ≤ _; exact Nat.le_of_eq rfl) (by decide)
  refine own_go st4 ?_
  have A_b_4 := A_b_2.keep K4q (ninS ne_b_b2 nin0)
  have O4 := O2.keep K4q (allS ge_b2 all0)
  have K4 := K2.trans K4q (allS (Or.inr sz_b2) all0)
  have A_b2_4 : Arv Z h4 b2 k2 .byte 1 [v3] (.int (0 : Int32)) := A4
  show own_Go p e below _ T4 (mkF m 30 #[rv b, iv 3, iv 4, iv 1, rv b2] [])
  refine og_aload X4 hx (hb hby d21_30) rfl rfl ?_
  exact own_retA X4 hx hret hlk (hb hby d21_32) rfl rfl (by decide) (by decide) (by rw [e4]; exact ⟨b2, _, rfl, N4, K4, sz_b2, ge_b2, A_b2_4⟩)
def own_r_own_cr_3_4_4 : Room := { frames := 2, cells := 1, slots := 1, locals := 34 }
theorem own_cr_3_4_4 (l : Launch) (Z : State) (a0 : Array Value) (hw : own_W a0 Z) (b : Addr) (kb : ClassId) (dv : Value) (v0 v1 v2 v3 : Value) (h0 : Heap) (n0 : Nat) (hO : Old Z n0 h0) (Ab : Arv Z h0 b kb .byte 4 [v0, v1, v2, v3] dv) :
    own_Met l Z (⟨"java/util/Arrays", "copyOfRange", "([BII)[B"⟩ : MethodName) jdk_65_method_132_code 3 (some (.array .byte)) own_r_own_cr_3_4_4 #[(.ref b), (.int 3), (.int 4)] h0 (own_Qr_3_4_4 Z h0 n0 v0 v1 v2 v3) := by
  refine own_body (by decide +kernel) ?_
  intro p e s m below meth c T0 X0 hx hZ hby hml hown hnm hret hlk e0
  have N0 := Fr.nil n0
  refine own_cast (own_frame (L := [rv b, iv 3, iv 4]) (ls := #[rv b, iv 3, iv 4]) rfl rfl) ?_
  refine og_iloadN X0 hx (hb hby d20_0) rfl ?_
  refine og_ifY X0 hx 10 (hb hby d20_1) (feq (by decide)).2 (by decide) (by decide) ?_
  refine og_aloadN X0 hx (hb hby d20_10) rfl rfl ?_
  refine og_iloadN X0 hx (hb hby d20_11) rfl ?_
  refine og_iloadN X0 hx (hb hby d20_12) rfl ?_
  refine own_callS X0 hx hZ hown (own_hw hw 112 rfl) (own_hw hw 113 rfl) (own_hw hw 110 rfl) (own_hw hw 114 rfl) (by decide) (argsL := [(.ref b), (.int 3), (.int 4)]) (rest := []) (own_crb_3_4_4 l Z a0 hw b _ _ v0 v1 v2 v3 h0 n0 hO Ab) e0 (by rw [hml]; rfl) (lenOf own_pd77155 rfl) rfl (hb hby d20_13) (W := 0) (Nat.le_of_eq rfl) (by decide) ?_
  intro v1 T1 L1 X1 q1
  obtain ⟨b1, k1, rfl, N1q, K1q, z1q, g1q, A1q⟩ := q1
  have N1 := Fr.app N0 N1q
  have ne_b_b1 : b ≠ b1 := Nat.ne_of_lt (Nat.lt_of_lt_of_le Ab.lt z1q)
  have sz_b1 : h0.size ≤ b1 := Nat.le_trans (Keep.refl h0 []).1 z1q
  have A_b_1 := Ab.keep K1q nin0
  have O1 := hO.keep K1q all0
  have K1 := (Keep.refl h0 []).trans K1q all0
  show own_Go p e below _ T1 (mkF m 16 #[rv b, iv 3, iv 4] [(.ref b1)])
  exact own_retA X1 hx hret hlk (hb hby d20_16) rfl rfl (by decide) (by decide) (⟨b1, _, rfl, N1, K1, sz_b1, g1q, A1q⟩)
def own_r_own_ns_3_1_4 : Room := { frames := 3, cells := 2, slots := 5, locals := 50 }
theorem own_ns_3_1_4 (l : Launch) (Z : State) (a0 : Array Value) (hw : own_W a0 Z) (b : Addr) (kb : ClassId) (dv : Value) (v0 v1 v2 v3 : Value) (h0 : Heap) (n0 : Nat) (hO : Old Z n0 h0) (Ab : Arv Z h0 b kb .byte 4 [v0, v1, v2, v3] dv) :
    own_Met l Z (⟨"java/lang/StringLatin1", "newString", "([BII)Ljava/lang/String;"⟩ : MethodName) jdk_43_method_47_code 3 (some (.object "java/lang/String")) own_r_own_ns_3_1_4 #[(.ref b), (.int 3), (.int 1)] h0 (own_Qs1 Z h0 n0 v3) := by
  refine own_body (by decide +kernel) ?_
  intro p e s m below meth c T0 X0 hx hZ hby hml hown hnm hret hlk e0
  have N0 := Fr.nil n0
  refine own_cast (own_frame (L := [rv b, iv 3, iv 1]) (ls := #[rv b, iv 3, iv 1]) rfl rfl) ?_
  refine og_iloadN X0 hx (hb hby d19_0) rfl ?_
  refine og_ifY X0 hx 7 (hb hby d19_1) (feq (by decide)).2 (by decide) (by decide) ?_
  refine own_newO X0 hx hZ hown (own_hw hw 107 rfl) (own_hw hw 3 rfl) (own_hw hw 4 rfl) e0 (hb hby d19_7) (by decide) (by decide) ?_
  intro T1 h1 b1 g1 X1 e1 E1 A1 D1
  have ne_b_b1 : b ≠ b1 := Nat.ne_of_lt (Nat.lt_of_lt_of_eq Ab.lt g1.symm)
  have ge_b1 : n0 ≤ b1 := Nat.le_trans (own_oldle hO) (Nat.le_of_eq g1.symm)
  have sz_b1 : h0.size ≤ b1 := Nat.le_trans (Keep.refl h0 []).1 (Nat.le_of_eq g1.symm)
  have A_b_1 := Ab.ext E1
  have O1 := hO.ext E1
  have K1 := (Keep.refl h0 []).ext E1
  have F_b1_coder_1 : Fld Z h1 b1 "java/lang/String" "coder" "B" (.int 0) := D1 (Or.inr (own_hw hw 28 rfl)) (ty := .byte) (by decide)
  have F_b1_value_1 : Fld Z h1 b1 "java/lang/String" "value" "[B" .null := D1 (Or.inr (own_hw hw 30 rfl)) (ty := (.array .byte)) (by decide)
  show own_Go p e below _ T1 (mkF m 10 #[rv b, iv 3, iv 1] [(.ref b1)])
  refine og_dup X1 hx (hb hby d19_10) rfl ?_
  refine og_aloadN X1 hx (hb hby d19_11) rfl rfl ?_
  refine og_iloadN X1 hx (hb hby d19_12) rfl ?_
  refine og_iloadN X1 hx (hb hby d19_13) rfl ?_
  refine og_iloadN X1 hx (hb hby d19_14) rfl ?_
  refine og_iadd X1 hx (hb hby d19_15) ?_
  show own_Go p e below _ T1 (mkF m 16 #[rv b, iv 3, iv 1] [(.int 4), (.int 3), (.ref b), (.ref b1), (.ref b1)])
  refine own_callS X1 hx hZ hown (own_hw hw 108 rfl) (own_hw hw 109 rfl) (own_hw hw 110 rfl) (own_hw hw 111 rfl) (by decide) (argsL := [(.ref b), (.int 3), (.int 4)]) (rest := [(.ref b1), (.ref b1)]) (own_cr_3_4_4 l Z a0 hw b _ _ v0 v1 v2 v3 h1 n0 O1 A_b_1) e1 (by rw [hml]; rfl) (lenOf own_pd77155 rfl) rfl (hb hby d19_16) (W := 2) (Nat.le_of_eq rfl) (by decide) ?_
  intro v2 T2 L2 X2 q2
  obtain ⟨b2, k2, rfl, N2q, K2q, z2q, g2q, A2q⟩ := q2
  have N2 := Fr.app N0 N2q
  have ne_b_b2 : b ≠ b2 := Nat.ne_of_lt (Nat.lt_of_lt_of_le A_b_1.lt z2q)
  have ne_b1_b2 : b1 ≠ b2 := Nat.ne_of_lt (Nat.lt_of_lt_of_le A1.lt z2q)
  have sz_b2 : h0.size ≤ b2 := Nat.le_trans K1.1 z2q
  have A_b_2 := A_b_1.keep K2q nin0
  have E_b1_2 := A1.keep K2q
  have F_b1_coder_2 := F_b1_coder_1.keep K2q nin0
  have F_b1_value_2 := F_b1_value_1.keep K2q nin0
  have O2 := O1.keep K2q all0
  have K2 := K1.trans K2q all0
  show own_Go p e below _ T2 (mkF m 19 #[rv b, iv 3, iv 1] [(.ref b2), (.ref b1), (.ref b1)])
  refine og_iconst X2 hx (hb hby d19_19) ?_
  refine own_callN X2 hx hZ hown (own_hw hw 126 rfl) (own_hw hw 127 rfl) (own_hw hw 128 rfl) (own_hw hw 4 rfl) (by decide) rfl (b := b1) (argsL := [(.ref b2), (.int 0)]) (rest := [(.ref b1)]) (own_si l Z a0 hw b1 b2 _ _ T2.heap n0 O2 ge_b1 E_b1_2 F_b1_value_2 F_b1_coder_2) rfl (by rw [hml]; rfl) (lenOf own_pd58512 rfl) rfl (hb hby d19_20) (W := 1) (Nat.le_of_eq rfl) (by decide) ?_
  intro v3 T3 L3 X3 q3
  obtain ⟨rfl, N3q, K3q, Fv3, Fc3⟩ := q3
  have N3 := Fr.app N2 N3q
  have A_b_3 := A_b_2.keep K3q (ninS ne_b_b1 nin0)
  have E_b1_3 := E_b1_2.keep K3q
  have A_b2_3 := A2q.keep K3q (ninS (Ne.symm ne_b1_b2) nin0)
  have O3 := O2.keep K3q (allS ge_b1 all0)
  have K3 := K2.trans K3q (allS (Or.inr sz_b1) all0)
  show own_Go p e below _ T3 (mkF m 23 #[rv b, iv 3, iv 1] [(.ref b1)])
  exact own_retA X3 hx hret hlk (hb hby d19_23) rfl rfl (by decide) (by decide) (⟨b1, b2, _, rfl, N3, K3, sz_b1, ge_b1, sz_b2, g2q, ne_b1_b2, E_b1_3, Fv3, Fc3, A_b2_3⟩)
def own_r_own_subN1 : Room := { frames := 4, cells := 2, slots := 5, locals := 64 }
theorem own_subN1 (l : Launch) (Z : State) (a0 : Array Value) (hw : own_W a0 Z) (z : Int32) (sf : Value) (t b : Addr) (kb : ClassId) (dv : Value) (n : Int32) (vs : List Value) (lo : Int32) (hi : Int32) (w0 : Value) (h0 : Heap) (n0 : Nat) (hO : Old Z n0 h0) (hG : own_Gs Z z sf) (h1 : ¬ lo < 0) (h2 : ¬ hi < lo) (h3 : ¬ n < hi) (hx0 : ¬ lo = 0) (inn : own_Met l Z (⟨"java/lang/StringLatin1", "newString", "([BII)Ljava/lang/String;"⟩ : MethodName) jdk_43_method_47_code 3 (some (.object "java/lang/String")) own_r_own_ns_3_1_4 #[.ref b, .int lo, .int (hi - lo)] h0 (own_Qs1 Z h0 n0 w0)) (Et : own_E Z h0 t) (Fv : own_V Z h0 t b) (Fc : own_C Z h0 t) (Ab : Arv Z h0 b kb .byte n vs dv) :
    own_Met l Z (⟨"java/lang/String", "substring", "(II)Ljava/lang/String;"⟩ : MethodName) jdk_42_method_92_code 5 (some (.object "java/lang/String")) own_r_own_subN1 #[(.ref t), (.int lo), (.int hi)] h0 (own_Qs1 Z h0 n0 w0) := by
  refine own_body (by decide +kernel) ?_
  intro p e s m below meth c T0 X0 hx hZ hby hml hown hnm hret hlk e0
  have N0 := Fr.nil n0
  refine own_cast (own_frame (L := [rv t, iv lo, iv hi]) (ls := #[rv t, iv lo, iv hi, .unset, .unset]) rfl rfl) ?_
  obtain ⟨SC, hz, SF, rf⟩ := id hG
  refine og_aloadN X0 hx (hb hby d15_0) rfl rfl ?_
  refine own_callV X0 hx hZ hown (own_hw hw 85 rfl) (own_hw hw 48 rfl) (notFace_of_selects (args := #[]) (mvT hZ (own_hw hw 50 rfl))) (own_hw hw 50 rfl) (own_hw hw 49 rfl) (own_hw hw 51 rfl) (own_hw hw 4 rfl) (by decide) (b := t) (argsL := []) (rest := []) (own_slen l Z a0 hw z sf t b _ _ _ _ h0 n0 hO hG Et Fv Fc Ab) e0 Et (by rw [hml]; rfl) (lenOf own_pd13941 rfl) rfl (hb hby d15_1) (W := 0) (Nat.le_of_eq rfl) (by decide) ?_
  intro v1 T1 L1 X1 q1
  obtain ⟨rfl, N1q, e1⟩ := q1
  have N1 := Fr.app N0 N1q
  show own_Go p e below _ T1 (mkF m 4 #[rv t, iv lo, iv hi, .unset, .unset] [(.int n)])
  refine og_istoreN X1 hx #[rv t, iv lo, iv hi, iv n, .unset] (hb hby d15_4) rfl ?_
  refine og_iloadN X1 hx (hb hby d15_5) rfl ?_
  refine og_iloadN X1 hx (hb hby d15_6) rfl ?_
  refine og_iloadN X1 hx (hb hby d15_7) rfl ?_
  refine own_callS X1 hx hZ hown (own_hw hw 91 rfl) (own_hw hw 92 rfl) (own_hw hw 4 rfl) (own_hw hw 93 rfl) (by decide) (argsL := [(.int lo), (.int hi), (.int n)]) (rest := []) (own_cbb l Z a0 hw z sf lo hi n h0 n0 hO hG h1 h2 h3) e1 (by rw [hml]; rfl) (lenOf own_pd73746 rfl) rfl (hb hby d15_8) (W := 0) (Nat.le_of_eq rfl) (by decide) ?_
  intro v2 T2 L2 X2 q2
  obtain ⟨rfl, N2q, e2⟩ := q2
  have N2 := Fr.app N1 N2q
  show own_Go p e below _ T2 (mkF m 11 #[rv t, iv lo, iv hi, iv n, .unset] [])
  refine og_iloadN X2 hx (hb hby d15_11) rfl ?_
  refine og_ifY X2 hx 22 (hb hby d15_12) (feq hx0).2 (by decide) (by decide) ?_
  refine og_iloadN X2 hx (hb hby d15_22) rfl ?_
  refine og_iloadN X2 hx (hb hby d15_23) rfl ?_
  refine og_isub X2 hx (hb hby d15_24) ?_
  refine og_istore X2 hx #[rv t, iv lo, iv hi, iv n, iv (hi - lo)] (hb hby d15_25) rfl ?_
  refine og_aloadN X2 hx (hb hby d15_27) rfl rfl ?_
  refine own_callV X2 hx hZ hown (own_hw hw 98 rfl) (own_hw hw 99 rfl) (notFace_of_selects (args := #[]) (mvT hZ (own_hw hw 101 rfl))) (own_hw hw 101 rfl) (own_hw hw 100 rfl) (own_hw hw 102 rfl) (own_hw hw 4 rfl) (by decide) (b := t) (argsL := []) (rest := []) (own_isl1 l Z a0 hw z sf t h0 n0 hO hG Fc) e2 Et (by rw [hml]; rfl) (lenOf own_pd61835 rfl) rfl (hb hby d15_28) (W := 0) (Nat.le_of_eq rfl) (by decide) ?_
  intro v3 T3 L3 X3 q3
  obtain ⟨rfl, N3q, e3⟩ := q3
  have N3 := Fr.app N2 N3q
  show own_Go p e below _ T3 (mkF m 31 #[rv t, iv lo, iv hi, iv n, iv (hi - lo)] [(.int (1 : Int32))])
  refine og_ifN X3 hx (hb hby d15_31) (feq (by decide)).1 ?_
  refine og_aloadN X3 hx (hb hby d15_34) rfl rfl ?_
  refine og_getF X3 hx hZ hown (own_hw hw 29 rfl) Via.refl e3 Fv (hb hby d15_35) ?_
  intro T4 X4 e4
  refine og_iloadN X4 hx (hb hby d15_38) rfl ?_
  refine og_iload X4 hx (hb hby d15_39) rfl ?_
  refine own_callS X4 hx hZ hown (own_hw hw 103 rfl) (own_hw hw 104 rfl) (own_hw hw 105 rfl) (own_hw hw 106 rfl) (by decide) (argsL := [(.ref b), (.int lo), (.int (hi - lo))]) (rest := []) inn e4 (by rw [hml]; rfl) (lenOf own_pd78060 rfl) rfl (hb hby d15_41) (W := 0) (Nat.le_of_eq rfl) (by decide) ?_
  intro v5 T5 L5 X5 q5
  obtain ⟨t5, vb5, k5, rfl, N5q, K5q, zt5, gt5, zb5, gb5, ne_t5_vb5, Et5, Ft5, Ct5, At5⟩ := q5
  have N5 := Fr.app N3 N5q
  have ne_b_t5 : b ≠ t5 := Nat.ne_of_lt (Nat.lt_of_lt_of_le Ab.lt zt5)
  have ne_t_t5 : t ≠ t5 := Nat.ne_of_lt (Nat.lt_of_lt_of_le Et.lt zt5)
  have sz_t5 : h0.size ≤ t5 := Nat.le_trans (Keep.refl h0 []).1 zt5
  have ne_b_vb5 : b ≠ vb5 := Nat.ne_of_lt (Nat.lt_of_lt_of_le Ab.lt zb5)
  have ne_t_vb5 : t ≠ vb5 := Nat.ne_of_lt (Nat.lt_of_lt_of_le Et.lt zb5)
  have sz_vb5 : h0.size ≤ vb5 := Nat.le_trans (Keep.refl h0 []).1 zb5
  have E_t_5 := Et.keep K5q
  have F_t_value_5 := Fv.keep K5q nin0
  have F_t_coder_5 := Fc.keep K5q nin0
  have A_b_5 := Ab.keep K5q nin0
  have O5 := hO.keep K5q all0
  have K5 := (Keep.refl h0 []).trans K5q all0
  show own_Go p e below _ T5 (mkF m 44 #[rv t, iv lo, iv hi, iv n, iv (hi - lo)] [(.ref t5)])
  refine og_goto X5 hx 57 (hb hby d15_44) (by decide) (by decide) ?_
  exact own_retA X5 hx hret hlk (hb hby d15_57) rfl rfl (by decide) (by decide) (⟨t5, vb5, _, rfl, N5, K5, sz_t5, gt5, sz_vb5, gb5, ne_t5_vb5, Et5, Ft5, Ct5, At5⟩)
def own_r_own_sub1N1 : Room := { frames := 5, cells := 2, slots := 5, locals := 80 }
theorem own_sub1N1 (l : Launch) (Z : State) (a0 : Array Value) (hw : own_W a0 Z) (z : Int32) (sf : Value) (t b : Addr) (kb : ClassId) (dv : Value) (n : Int32) (vs : List Value) (lo : Int32) (w0 : Value) (h0 : Heap) (n0 : Nat) (hO : Old Z n0 h0) (hG : own_Gs Z z sf) (h1 : ¬ lo < 0) (h2 : ¬ n < lo) (hx0 : ¬ lo = 0) (inn : own_Met l Z (⟨"java/lang/StringLatin1", "newString", "([BII)Ljava/lang/String;"⟩ : MethodName) jdk_43_method_47_code 3 (some (.object "java/lang/String")) own_r_own_ns_3_1_4 #[.ref b, .int lo, .int (n - lo)] h0 (own_Qs1 Z h0 n0 w0)) (Et : own_E Z h0 t) (Fv : own_V Z h0 t b) (Fc : own_C Z h0 t) (Ab : Arv Z h0 b kb .byte n vs dv) :
    own_Met l Z (⟨"java/lang/String", "substring", "(I)Ljava/lang/String;"⟩ : MethodName) jdk_42_method_91_code 2 (some (.object "java/lang/String")) own_r_own_sub1N1 #[(.ref t), (.int lo)] h0 (own_Qs1 Z h0 n0 w0) := by
  refine own_body (by decide +kernel) ?_
  intro p e s m below meth c T0 X0 hx hZ hby hml hown hnm hret hlk e0
  have N0 := Fr.nil n0
  refine own_cast (own_frame (L := [rv t, iv lo]) (ls := #[rv t, iv lo]) rfl rfl) ?_
  obtain ⟨SC, hz, SF, rf⟩ := id hG
  refine og_aloadN X0 hx (hb hby d14_0) rfl rfl ?_
  refine og_iloadN X0 hx (hb hby d14_1) rfl ?_
  refine og_aloadN X0 hx (hb hby d14_2) rfl rfl ?_
  refine own_callV X0 hx hZ hown (own_hw hw 85 rfl) (own_hw hw 48 rfl) (notFace_of_selects (args := #[]) (mvT hZ (own_hw hw 50 rfl))) (own_hw hw 50 rfl) (own_hw hw 49 rfl) (own_hw hw 51 rfl) (own_hw hw 4 rfl) (by decide) (b := t) (argsL := []) (rest := [(.int lo), (.ref t)]) (own_slen l Z a0 hw z sf t b _ _ _ _ h0 n0 hO hG Et Fv Fc Ab) e0 Et (by rw [hml]; rfl) (lenOf own_pd13941 rfl) rfl (hb hby d14_3) (W := 2) (Nat.le_of_eq rfl) (by decide) ?_
  intro v1 T1 L1 X1 q1
  obtain ⟨rfl, N1q, e1⟩ := q1
  have N1 := Fr.app N0 N1q
  show own_Go p e below _ T1 (mkF m 6 #[rv t, iv lo] [(.int n), (.int lo), (.ref t)])
  refine own_callV X1 hx hZ hown (own_hw hw 86 rfl) (own_hw hw 87 rfl) (notFace_of_selects (args := #[]) (mvT hZ (own_hw hw 89 rfl))) (own_hw hw 89 rfl) (own_hw hw 88 rfl) (own_hw hw 90 rfl) (own_hw hw 4 rfl) (by decide) (b := t) (argsL := [(.int lo), (.int n)]) (rest := []) (own_subN1 l Z a0 hw z sf t b _ _ _ _ lo n w0 h0 n0 hO hG h1 h2 Int32.lt_irrefl hx0 inn Et Fv Fc Ab) e1 Et (by rw [hml]; rfl) (lenOf own_pd41291 rfl) rfl (hb hby d14_6) (W := 0) (Nat.le_of_eq rfl) (by decide) ?_
  intro v2 T2 L2 X2 q2
  obtain ⟨t2, vb2, k2, rfl, N2q, K2q, zt2, gt2, zb2, gb2, ne_t2_vb2, Et2, Ft2, Ct2, At2⟩ := q2
  have N2 := Fr.app N1 N2q
  have ne_b_t2 : b ≠ t2 := Nat.ne_of_lt (Nat.lt_of_lt_of_le Ab.lt zt2)
  have ne_t_t2 : t ≠ t2 := Nat.ne_of_lt (Nat.lt_of_lt_of_le Et.lt zt2)
  have sz_t2 : h0.size ≤ t2 := Nat.le_trans (Keep.refl h0 []).1 zt2
  have ne_b_vb2 : b ≠ vb2 := Nat.ne_of_lt (Nat.lt_of_lt_of_le Ab.lt zb2)
  have ne_t_vb2 : t ≠ vb2 := Nat.ne_of_lt (Nat.lt_of_lt_of_le Et.lt zb2)
  have sz_vb2 : h0.size ≤ vb2 := Nat.le_trans (Keep.refl h0 []).1 zb2
  have E_t_2 := Et.keep K2q
  have F_t_value_2 := Fv.keep K2q nin0
  have F_t_coder_2 := Fc.keep K2q nin0
  have A_b_2 := Ab.keep K2q nin0
  have O2 := hO.keep K2q all0
  have K2 := (Keep.refl h0 []).trans K2q all0
  show own_Go p e below _ T2 (mkF m 9 #[rv t, iv lo] [(.ref t2)])
  exact own_retA X2 hx hret hlk (hb hby d14_9) rfl rfl (by decide) (by decide) (⟨t2, vb2, _, rfl, N2, K2, sz_t2, gt2, sz_vb2, gb2, ne_t2_vb2, Et2, Ft2, Ct2, At2⟩)
def own_r_own_va_3 : Room := { frames := 6, cells := 2, slots := 5, locals := 93 }
theorem own_va_3 (l : Launch) (Z : State) (a0 : Array Value) (hw : own_W a0 Z) (z : Int32) (sf : Value) (t b : Addr) (kb : ClassId) (dv : Value) (v0 v1 v2 v3 : Value) (a1 : Addr) (h0 : Heap) (n0 : Nat) (hO : Old Z n0 h0) (hG : own_Gs Z z sf) (Et : own_E Z h0 t) (Fv : own_V Z h0 t b) (Fc : own_C Z h0 t) (Ab : Arv Z h0 b kb .byte 4 [v0, v1, v2, v3] dv) (F1 : Fld Z h0 a1 "com/example/winnow/winnow/contacts/ContentLine" "text" "Ljava/lang/String;" (.ref t)) (F2 : Fld Z h0 a1 "com/example/winnow/winnow/contacts/ContentLine" "valueStart" "I" (.int (3 : Int32))) :
    own_Met l Z (⟨"com/example/winnow/winnow/contacts/ContentLine", "value", "()Ljava/lang/String;"⟩ : MethodName) prog_25_method_3_code 1 (some (.object "java/lang/String")) own_r_own_va_3 #[(.ref a1)] h0 (own_Qs1 Z h0 n0 v3) := by
  refine own_body (by decide +kernel) ?_
  intro p e s m below meth c T0 X0 hx hZ hby hml hown hnm hret hlk e0
  have N0 := Fr.nil n0
  refine own_cast (own_frame (L := [rv a1]) (ls := #[rv a1]) rfl rfl) ?_
  obtain ⟨SC, hz, SF, rf⟩ := id hG
  refine og_aloadN X0 hx (hb hby d13_0) rfl rfl ?_
  refine og_getF X0 hx hZ hown (own_hw hw 67 rfl) Via.refl e0 F1 (hb hby d13_1) ?_
  intro T1 X1 e1
  refine og_aloadN X1 hx (hb hby d13_4) rfl rfl ?_
  refine og_getF X1 hx hZ hown (own_hw hw 73 rfl) Via.refl e1 F2 (hb hby d13_5) ?_
  intro T2 X2 e2
  show own_Go p e below _ T2 (mkF m 8 #[rv a1] [(.int 3), (.ref t)])
  refine own_callV X2 hx hZ hown (own_hw hw 80 rfl) (own_hw hw 81 rfl) (notFace_of_selects (args := #[]) (mvT hZ (own_hw hw 83 rfl))) (own_hw hw 83 rfl) (own_hw hw 82 rfl) (own_hw hw 84 rfl) (own_hw hw 4 rfl) (by decide) (b := t) (argsL := [(.int 3)]) (rest := []) (own_sub1N1 l Z a0 hw z sf t b _ _ _ _ 3 v3 h0 n0 hO hG (by decide) (by decide) (by decide) (own_ns_3_1_4 l Z a0 hw b _ _ v0 v1 v2 v3 h0 n0 hO Ab) Et Fv Fc Ab) e2 Et (by rw [hml]; rfl) (lenOf own_pd44404 rfl) rfl (hb hby d13_8) (W := 0) (Nat.le_of_eq rfl) (by decide) ?_
  intro v3 T3 L3 X3 q3
  obtain ⟨t3, vb3, k3, rfl, N3q, K3q, zt3, gt3, zb3, gb3, ne_t3_vb3, Et3, Ft3, Ct3, At3⟩ := q3
  have N3 := Fr.app N0 N3q
  have ne_a1_t3 : a1 ≠ t3 := Nat.ne_of_lt (Nat.lt_of_lt_of_le F1.lt zt3)
  have ne_b_t3 : b ≠ t3 := Nat.ne_of_lt (Nat.lt_of_lt_of_le Ab.lt zt3)
  have ne_t_t3 : t ≠ t3 := Nat.ne_of_lt (Nat.lt_of_lt_of_le Et.lt zt3)
  have sz_t3 : h0.size ≤ t3 := Nat.le_trans (Keep.refl h0 []).1 zt3
  have ne_a1_vb3 : a1 ≠ vb3 := Nat.ne_of_lt (Nat.lt_of_lt_of_le F1.lt zb3)
  have ne_b_vb3 : b ≠ vb3 := Nat.ne_of_lt (Nat.lt_of_lt_of_le Ab.lt zb3)
  have ne_t_vb3 : t ≠ vb3 := Nat.ne_of_lt (Nat.lt_of_lt_of_le Et.lt zb3)
  have sz_vb3 : h0.size ≤ vb3 := Nat.le_trans (Keep.refl h0 []).1 zb3
  have E_t_3 := Et.keep K3q
  have F_t_value_3 := Fv.keep K3q nin0
  have F_t_coder_3 := Fc.keep K3q nin0
  have A_b_3 := Ab.keep K3q nin0
  have F_a1_text_3 := F1.keep K3q nin0
  have F_a1_valueStart_3 := F2.keep K3q nin0
  have O3 := hO.keep K3q all0
  have K3 := (Keep.refl h0 []).trans K3q all0
  show own_Go p e below _ T3 (mkF m 11 #[rv a1] [(.ref t3)])
  exact own_retA X3 hx hret hlk (hb hby d13_11) rfl rfl (by decide) (by decide) (⟨t3, vb3, _, rfl, N3, K3, sz_t3, gt3, sz_vb3, gb3, ne_t3_vb3, Et3, Ft3, Ct3, At3⟩)
def own_r_own_oci_4 : Room := { frames := 1, cells := 0, slots := 0, locals := 14 }
theorem own_oci_4 (l : Launch) (Z : State) (a0 : Array Value) (hw : own_W a0 Z)  (h0 : Heap) (n0 : Nat)  :
    own_Met l Z (⟨"java/util/Objects", "checkIndex", "(II)I"⟩ : MethodName) jdk_31_method_17_code 2 (some .int) own_r_own_oci_4 #[(.int 4), (.int 5)] h0 (own_Qv (some (.int 4)) h0 n0) := by
  refine own_body (by decide +kernel) ?_
  intro p e s m below meth c T0 X0 hx hZ hby hml hown hnm hret hlk e0
  have N0 := Fr.nil n0
  refine own_cast (own_frame (L := [iv 4, iv 5]) (ls := #[iv 4, iv 5]) rfl rfl) ?_
  refine og_iloadN X0 hx (hb hby d11_0) rfl ?_
  refine og_iloadN X0 hx (hb hby d11_1) rfl ?_
  refine og_null X0 hx (hb hby d11_2) ?_
  refine own_callS X0 hx hZ hown (own_hw hw 61 rfl) (own_hw hw 62 rfl) (own_hw hw 63 rfl) (own_hw hw 64 rfl) (by decide) (argsL := [(.int 4), (.int 5), .null]) (rest := []) (own_pckn l Z a0 hw 4 5 h0 n0 (by decide) (by decide)) e0 (by rw [hml]; rfl) (lenOf own_pd6315 rfl) rfl (hb hby d11_3) (W := 0) (Nat.le_of_eq rfl) (by decide) ?_
  intro v1 T1 L1 X1 q1
  obtain ⟨rfl, N1q, e1⟩ := q1
  have N1 := Fr.app N0 N1q
  show own_Go p e below _ T1 (mkF m 6 #[iv 4, iv 5] [(.int 4)])
  exact own_retI X1 hx hret hlk (hb hby d11_6) rfl (by simp) (by decide) (by decide) (⟨rfl, N1, e1⟩)
def own_Qc4 (Z : State) (a1 t : Addr) (h0 : Heap) (n0 : Nat) (v : Option Value) (h : Heap) (L : List Loc) : Prop := v = none ∧ Fr n0 L ∧ Keep h0 h [a1] ∧ Fld Z h a1 "com/example/winnow/winnow/contacts/ContentLine" "text" "Ljava/lang/String;" (.ref t) ∧ Fld Z h a1 "com/example/winnow/winnow/contacts/ContentLine" "valueStart" "I" (.int (4 : Int32))
def own_r_own_cl_4 : Room := { frames := 2, cells := 0, slots := 0, locals := 27 }
theorem own_cl_4 (l : Launch) (Z : State) (a0 : Array Value) (hw : own_W a0 Z) (z : Int32) (sf : Value) (t b : Addr) (kb : ClassId) (dv : Value) (v0 v1 v2 v3 : Value) (a1 g nm : Addr) (p1 : Int32) (u_number u_text u_group u_name u_valueStart : Value) (h0 : Heap) (n0 : Nat) (hO : Old Z n0 h0) (hG : own_Gs Z z sf) (Et : own_E Z h0 t) (Fv : own_V Z h0 t b) (Fc : own_C Z h0 t) (Ab : Arv Z h0 b kb .byte 4 [v0, v1, v2, v3] dv) (g1 : n0 ≤ a1) (ne1 : a1 ≠ t) (ne2 : a1 ≠ b) (E1 : Exa Z h0 a1 "com/example/winnow/winnow/contacts/ContentLine") (F_number : Fld Z h0 a1 "com/example/winnow/winnow/contacts/ContentLine" "number" "I" u_number) (F_text : Fld Z h0 a1 "com/example/winnow/winnow/contacts/ContentLine" "text" "Ljava/lang/String;" u_text) (F_group : Fld Z h0 a1 "com/example/winnow/winnow/contacts/ContentLine" "group" "Ljava/lang/String;" u_group) (F_name : Fld Z h0 a1 "com/example/winnow/winnow/contacts/ContentLine" "name" "Ljava/lang/String;" u_name) (F_valueStart : Fld Z h0 a1 "com/example/winnow/winnow/contacts/ContentLine" "valueStart" "I" u_valueStart) :
    own_Met l Z (⟨"com/example/winnow/winnow/contacts/ContentLine", "<init>", "(ILjava/lang/String;Ljava/lang/String;Ljava/lang/String;I)V"⟩ : MethodName) prog_25_method_1_code 6 none own_r_own_cl_4 #[(.ref a1), (.int p1), (.ref t), (.ref g), (.ref nm), (.int 4)] h0 (own_Qc4 Z a1 t h0 n0) := by
  refine own_body (by decide +kernel) ?_
  intro p e s m below meth c T0 X0 hx hZ hby hml hown hnm hret hlk e0
  have N0 := Fr.nil n0
  refine own_cast (own_frame (L := [rv a1, iv p1, rv t, rv g, rv nm, iv 4]) (ls := #[rv a1, iv p1, rv t, rv g, rv nm, iv 4]) rfl rfl) ?_
  obtain ⟨SC, hz, SF, rf⟩ := id hG
  refine og_aloadN X0 hx (hb hby d7_0) rfl rfl ?_
  refine own_callN X0 hx hZ hown (own_hw hw 41 rfl) (own_hw hw 42 rfl) (own_hw hw 45 rfl) (own_hw hw 44 rfl) (by decide) rfl (b := a1) (argsL := []) (rest := []) (own_ri l Z a0 hw a1 h0 n0) e0 (by rw [hml]; rfl) (lenOf own_pd8992 rfl) rfl (hb hby d7_1) (W := 0) (Nat.le_of_eq rfl) (by decide) ?_
  intro v1 T1 L1 X1 q1
  obtain ⟨rfl, N1q, e1⟩ := q1
  have N1 := Fr.app N0 N1q
  show own_Go p e below _ T1 (mkF m 4 #[rv a1, iv p1, rv t, rv g, rv nm, iv 4] [])
  refine og_iload X1 hx (hb hby d7_4) rfl ?_
  refine og_aloadN X1 hx (hb hby d7_6) rfl rfl ?_
  refine own_callV X1 hx hZ hown (own_hw hw 47 rfl) (own_hw hw 48 rfl) (notFace_of_selects (args := #[]) (mvT hZ (own_hw hw 50 rfl))) (own_hw hw 50 rfl) (own_hw hw 49 rfl) (own_hw hw 51 rfl) (own_hw hw 4 rfl) (by decide) (b := t) (argsL := []) (rest := [(.int 4)]) (own_slen l Z a0 hw z sf t b _ _ _ _ h0 n0 hO hG Et Fv Fc Ab) e1 Et (by rw [hml]; rfl) (lenOf own_pd13941 rfl) rfl (hb hby d7_7) (W := 1) (Nat.le_of_eq rfl) (by decide) ?_
  intro v2 T2 L2 X2 q2
  obtain ⟨rfl, N2q, e2⟩ := q2
  have N2 := Fr.app N1 N2q
  show own_Go p e below _ T2 (mkF m 10 #[rv a1, iv p1, rv t, rv g, rv nm, iv 4] [(.int 4), (.int 4)])
  refine og_iconst X2 hx (hb hby d7_10) ?_
  refine og_iadd X2 hx (hb hby d7_11) ?_
  show own_Go p e below _ T2 (mkF m 12 #[rv a1, iv p1, rv t, rv g, rv nm, iv 4] [(.int 5), (.int 4)])
  refine own_callS X2 hx hZ hown (own_hw hw 57 rfl) (own_hw hw 58 rfl) (own_hw hw 59 rfl) (own_hw hw 60 rfl) (by decide) (argsL := [(.int 4), (.int 5)]) (rest := []) (own_oci_4 l Z a0 hw h0 n0) e2 (by rw [hml]; rfl) (lenOf own_pd23903 rfl) rfl (hb hby d7_12) (W := 0) (Nat.le_of_eq rfl) (by decide) ?_
  intro v3 T3 L3 X3 q3
  obtain ⟨rfl, N3q, e3⟩ := q3
  have N3 := Fr.app N2 N3q
  show own_Go p e below _ T3 (mkF m 15 #[rv a1, iv p1, rv t, rv g, rv nm, iv 4] [(.int 4)])
  refine og_pop X3 hx (hb hby d7_15) rfl ?_
  refine og_aloadN X3 hx (hb hby d7_16) rfl rfl ?_
  refine og_iloadN X3 hx (hb hby d7_17) rfl ?_
  obtain ⟨T4, h4, X4, e4, W4, st4⟩ := putF X3 hx hZ hown (host := "") (Or.inl (own_hw hw 65 rfl)) Via.refl e3 F_number E1 (Or.inr ⟨(own_hw hw 66 rfl), rfl, hnm⟩) (own_hw hw 32 rfl) (ty := .int) (by decide) rfl rfl (g := (mkF m 18 #[rv a1, iv p1, rv t, rv g, rv nm, iv 4] [(.int p1), (.ref a1)])) rfl rfl (hb hby d7_18)
  refine own_go st4 ?_
  have E_t_4 := Et.wr W4
  have F_t_value_4 := Fv.other W4 (Or.inl (Ne.symm ne1))
  have F_t_coder_4 := Fc.other W4 (Or.inl (Ne.symm ne1))
  have A_b_4 := Ab.other W4 (Ne.symm ne2)
  have E_a1_4 := E1.wr W4
  have F_a1_text_4 := F_text.other W4 (Or.inr (slot_ne (Or.inr (own_hw hw 68 rfl)) (Or.inr (own_hw hw 66 rfl)) (by decide) (t := (.object "java/lang/String")) (t' := .int) (by decide) (by decide)))
  have F_a1_group_4 := F_group.other W4 (Or.inr (slot_ne (Or.inr (own_hw hw 70 rfl)) (Or.inr (own_hw hw 66 rfl)) (by decide) (t := (.object "java/lang/String")) (t' := .int) (by decide) (by decide)))
  have F_a1_name_4 := F_name.other W4 (Or.inr (slot_ne (Or.inr (own_hw hw 72 rfl)) (Or.inr (own_hw hw 66 rfl)) (by decide) (t := (.object "java/lang/String")) (t' := .int) (by decide) (by decide)))
  have F_a1_valueStart_4 := F_valueStart.other W4 (Or.inr (slot_ne (Or.inr (own_hw hw 74 rfl)) (Or.inr (own_hw hw 66 rfl)) (by decide) (t := .int) (t' := .int) (by decide) (by decide)))
  have O4 := hO.wr W4 g1
  have K4 := (Keep.refl h0 [a1]).wr W4 (Or.inl (by simp))
  have N4 := Fr.snoc X4 N3 g1
  have F_a1_number_4 : Fld Z h4 a1 "com/example/winnow/winnow/contacts/ContentLine" "number" "I" (.int p1) := F_number.same W4
  show own_Go p e below _ T4 (mkF m 21 #[rv a1, iv p1, rv t, rv g, rv nm, iv 4] [])
  refine og_aloadN X4 hx (hb hby d7_21) rfl rfl ?_
  refine og_aloadN X4 hx (hb hby d7_22) rfl rfl ?_
  obtain ⟨T5, h5, X5, e5, W5, st5⟩ := putF X4 hx hZ hown (host := "") (Or.inl (own_hw hw 67 rfl)) Via.refl e4 F_a1_text_4 E_a1_4 (Or.inr ⟨(own_hw hw 68 rfl), rfl, hnm⟩) (own_hw hw 32 rfl) (ty := (.object "java/lang/String")) (by decide) rfl rfl (g := (mkF m 23 #[rv a1, iv p1, rv t, rv g, rv nm, iv 4] [(.ref t), (.ref a1)])) rfl rfl (hb hby d7_23)
  refine own_go st5 ?_
  have E_t_5 := E_t_4.wr W5
  have F_t_value_5 := F_t_value_4.other W5 (Or.inl (Ne.symm ne1))
  have F_t_coder_5 := F_t_coder_4.other W5 (Or.inl (Ne.symm ne1))
  have A_b_5 := A_b_4.other W5 (Ne.symm ne2)
  have E_a1_5 := E_a1_4.wr W5
  have F_a1_group_5 := F_a1_group_4.other W5 (Or.inr (slot_ne (Or.inr (own_hw hw 70 rfl)) (Or.inr (own_hw hw 68 rfl)) (by decide) (t := (.object "java/lang/String")) (t' := (.object "java/lang/String")) (by decide) (by decide)))
  have F_a1_name_5 := F_a1_name_4.other W5 (Or.inr (slot_ne (Or.inr (own_hw hw 72 rfl)) (Or.inr (own_hw hw 68 rfl)) (by decide) (t := (.object "java/lang/String")) (t' := (.object "java/lang/String")) (by decide) (by decide)))
  have F_a1_valueStart_5 := F_a1_valueStart_4.other W5 (Or.inr (slot_ne (Or.inr (own_hw hw 74 rfl)) (Or.inr (own_hw hw 68 rfl)) (by decide) (t := .int) (t' := (.object "java/lang/String")) (by decide) (by decide)))
  have F_a1_number_5 := F_a1_number_4.other W5 (Or.inr (slot_ne (Or.inr (own_hw hw 66 rfl)) (Or.inr (own_hw hw 68 rfl)) (by decide) (t := .int) (t' := (.object "java/lang/String")) (by decide) (by decide)))
  have O5 := O4.wr W5 g1
  have K5 := K4.wr W5 (Or.inl (by simp))
  have N5 := Fr.snoc X5 N4 g1
  have F_a1_text_5 : Fld Z h5 a1 "com/example/winnow/winnow/contacts/ContentLine" "text" "Ljava/lang/String;" (.ref t) := F_a1_text_4.same W5
  show own_Go p e below _ T5 (mkF m 26 #[rv a1, iv p1, rv t, rv g, rv nm, iv 4] [])
  refine og_aloadN X5 hx (hb hby d7_26) rfl rfl ?_
  refine og_aloadN X5 hx (hb hby d7_27) rfl rfl ?_
  obtain ⟨T6, h6, X6, e6, W6, st6⟩ := putF X5 hx hZ hown (host := "") (Or.inl (own_hw hw 69 rfl)) Via.refl e5 F_a1_group_5 E_a1_5 (Or.inr ⟨(own_hw hw 70 rfl), rfl, hnm⟩) (own_hw hw 32 rfl) (ty := (.object "java/lang/String")) (by decide) rfl rfl (g := (mkF m 28 #[rv a1, iv p1, rv t, rv g, rv nm, iv 4] [(.ref g), (.ref a1)])) rfl rfl (hb hby d7_28)
  refine own_go st6 ?_
  have E_t_6 := E_t_5.wr W6
  have F_t_value_6 := F_t_value_5.other W6 (Or.inl (Ne.symm ne1))
  have F_t_coder_6 := F_t_coder_5.other W6 (Or.inl (Ne.symm ne1))
  have A_b_6 := A_b_5.other W6 (Ne.symm ne2)
  have E_a1_6 := E_a1_5.wr W6
  have F_a1_name_6 := F_a1_name_5.other W6 (Or.inr (slot_ne (Or.inr (own_hw hw 72 rfl)) (Or.inr (own_hw hw 70 rfl)) (by decide) (t := (.object "java/lang/String")) (t' := (.object "java/lang/String")) (by decide) (by decide)))
  have F_a1_valueStart_6 := F_a1_valueStart_5.other W6 (Or.inr (slot_ne (Or.inr (own_hw hw 74 rfl)) (Or.inr (own_hw hw 70 rfl)) (by decide) (t := .int) (t' := (.object "java/lang/String")) (by decide) (by decide)))
  have F_a1_number_6 := F_a1_number_5.other W6 (Or.inr (slot_ne (Or.inr (own_hw hw 66 rfl)) (Or.inr (own_hw hw 70 rfl)) (by decide) (t := .int) (t' := (.object "java/lang/String")) (by decide) (by decide)))
  have F_a1_text_6 := F_a1_text_5.other W6 (Or.inr (slot_ne (Or.inr (own_hw hw 68 rfl)) (Or.inr (own_hw hw 70 rfl)) (by decide) (t := (.object "java/lang/String")) (t' := (.object "java/lang/String")) (by decide) (by decide)))
  have O6 := O5.wr W6 g1
  have K6 := K5.wr W6 (Or.inl (by simp))
  have N6 := Fr.snoc X6 N5 g1
  have F_a1_group_6 : Fld Z h6 a1 "com/example/winnow/winnow/contacts/ContentLine" "group" "Ljava/lang/String;" (.ref g) := F_a1_group_5.same W6
  show own_Go p e below _ T6 (mkF m 31 #[rv a1, iv p1, rv t, rv g, rv nm, iv 4] [])
  refine og_aloadN X6 hx (hb hby d7_31) rfl rfl ?_
  refine og_aload X6 hx (hb hby d7_32) rfl rfl ?_
  obtain ⟨T7, h7, X7, e7, W7, st7⟩ := putF X6 hx hZ hown (host := "") (Or.inl (own_hw hw 71 rfl)) Via.refl e6 F_a1_name_6 E_a1_6 (Or.inr ⟨(own_hw hw 72 rfl), rfl, hnm⟩) (own_hw hw 32 rfl) (ty := (.object "java/lang/String")) (by decide) rfl rfl (g := (mkF m 34 #[rv a1, iv p1, rv t, rv g, rv nm, iv 4] [(.ref nm), (.ref a1)])) rfl rfl (hb hby d7_34)
  refine own_go st7 ?_
  have E_t_7 := E_t_6.wr W7
  have F_t_value_7 := F_t_value_6.other W7 (Or.inl (Ne.symm ne1))
  have F_t_coder_7 := F_t_coder_6.other W7 (Or.inl (Ne.symm ne1))
  have A_b_7 := A_b_6.other W7 (Ne.symm ne2)
  have E_a1_7 := E_a1_6.wr W7
  have F_a1_valueStart_7 := F_a1_valueStart_6.other W7 (Or.inr (slot_ne (Or.inr (own_hw hw 74 rfl)) (Or.inr (own_hw hw 72 rfl)) (by decide) (t := .int) (t' := (.object "java/lang/String")) (by decide) (by decide)))
  have F_a1_number_7 := F_a1_number_6.other W7 (Or.inr (slot_ne (Or.inr (own_hw hw 66 rfl)) (Or.inr (own_hw hw 72 rfl)) (by decide) (t := .int) (t' := (.object "java/lang/String")) (by decide) (by decide)))
  have F_a1_text_7 := F_a1_text_6.other W7 (Or.inr (slot_ne (Or.inr (own_hw hw 68 rfl)) (Or.inr (own_hw hw 72 rfl)) (by decide) (t := (.object "java/lang/String")) (t' := (.object "java/lang/String")) (by decide) (by decide)))
  have F_a1_group_7 := F_a1_group_6.other W7 (Or.inr (slot_ne (Or.inr (own_hw hw 70 rfl)) (Or.inr (own_hw hw 72 rfl)) (by decide) (t := (.object "java/lang/String")) (t' := (.object "java/lang/String")) (by decide) (by decide)))
  have O7 := O6.wr W7 g1
  have K7 := K6.wr W7 (Or.inl (by simp))
  have N7 := Fr.snoc X7 N6 g1
  have F_a1_name_7 : Fld Z h7 a1 "com/example/winnow/winnow/contacts/ContentLine" "name" "Ljava/lang/String;" (.ref nm) := F_a1_name_6.same W7
  show own_Go p e below _ T7 (mkF m 37 #[rv a1, iv p1, rv t, rv g, rv nm, iv 4] [])
  refine og_aloadN X7 hx (hb hby d7_37) rfl rfl ?_
  refine og_iload X7 hx (hb hby d7_38) rfl ?_
  obtain ⟨T8, h8, X8, e8, W8, st8⟩ := putF X7 hx hZ hown (host := "") (Or.inl (own_hw hw 73 rfl)) Via.refl e7 F_a1_valueStart_7 E_a1_7 (Or.inr ⟨(own_hw hw 74 rfl), rfl, hnm⟩) (own_hw hw 32 rfl) (ty := .int) (by decide) rfl rfl (g := (mkF m 40 #[rv a1, iv p1, rv t, rv g, rv nm, iv 4] [(.int 4), (.ref a1)])) rfl rfl (hb hby d7_40)
  refine own_go st8 ?_
  have E_t_8 := E_t_7.wr W8
  have F_t_value_8 := F_t_value_7.other W8 (Or.inl (Ne.symm ne1))
  have F_t_coder_8 := F_t_coder_7.other W8 (Or.inl (Ne.symm ne1))
  have A_b_8 := A_b_7.other W8 (Ne.symm ne2)
  have E_a1_8 := E_a1_7.wr W8
  have F_a1_number_8 := F_a1_number_7.other W8 (Or.inr (slot_ne (Or.inr (own_hw hw 66 rfl)) (Or.inr (own_hw hw 74 rfl)) (by decide) (t := .int) (t' := .int) (by decide) (by decide)))
  have F_a1_text_8 := F_a1_text_7.other W8 (Or.inr (slot_ne (Or.inr (own_hw hw 68 rfl)) (Or.inr (own_hw hw 74 rfl)) (by decide) (t := (.object "java/lang/String")) (t' := .int) (by decide) (by decide)))
  have F_a1_group_8 := F_a1_group_7.other W8 (Or.inr (slot_ne (Or.inr (own_hw hw 70 rfl)) (Or.inr (own_hw hw 74 rfl)) (by decide) (t := (.object "java/lang/String")) (t' := .int) (by decide) (by decide)))
  have F_a1_name_8 := F_a1_name_7.other W8 (Or.inr (slot_ne (Or.inr (own_hw hw 72 rfl)) (Or.inr (own_hw hw 74 rfl)) (by decide) (t := (.object "java/lang/String")) (t' := .int) (by decide) (by decide)))
  have O8 := O7.wr W8 g1
  have K8 := K7.wr W8 (Or.inl (by simp))
  have N8 := Fr.snoc X8 N7 g1
  have F_a1_valueStart_8 : Fld Z h8 a1 "com/example/winnow/winnow/contacts/ContentLine" "valueStart" "I" (.int 4) := F_a1_valueStart_7.same W8
  show own_Go p e below _ T8 (mkF m 43 #[rv a1, iv p1, rv t, rv g, rv nm, iv 4] [])
  exact own_retV X8 hx hret hlk (hb hby d7_43) (by decide) (by decide) (by rw [e8]; exact ⟨rfl, N8, K8, F_a1_text_8, F_a1_valueStart_8⟩)
def own_Qe (Z : State) (h0 : Heap) (n0 : Nat) (v : Option Value) (h : Heap) (L : List Loc) : Prop := ∃ (t b : Addr) (k : ClassId), v = some (.ref t) ∧ Fr n0 L ∧ Keep h0 h [] ∧ own_E Z h t ∧ own_V Z h t b ∧ own_C Z h t ∧ Arv Z h b k .byte (0 : Int32) [] (.int (0 : Int32))
theorem d19_4 : decode jdk_43_method_47_code 4 = .ok (.ldc 151, 2) := by decide +kernel
theorem d19_6 : decode jdk_43_method_47_code 6 = .ok (.areturn, 1) := by decide +kernel
def own_r_own_nse : Room := { frames := 0, cells := 2, slots := 4, locals := 0 }
theorem own_nse (l : Launch) (Z : State) (a0 : Array Value) (hw : own_W a0 Z) (b : Addr) (p1 : Int32) (h0 : Heap) (n0 : Nat) (hO : Old Z n0 h0) :
    own_MetH l Z own_EL (⟨"java/lang/StringLatin1", "newString", "([BII)Ljava/lang/String;"⟩ : MethodName) jdk_43_method_47_code 3 (some (.object "java/lang/String")) own_r_own_nse #[(.ref b), (.int p1), (.int (0 : Int32))] h0 (own_Qe Z h0 n0) := by
  refine own_bodyH (by decide +kernel) ?_
  intro p e s m below meth c T0 X0 hx hZ hby hml hown hnm hret hlk e0 hS hk C0
  have hwS : ∀ a ∈ Bundle.stringAtoms, a.before a0 Z = true := fun d hd => hw d ((by decide +kernel : ∀ d ∈ Bundle.stringAtoms, d ∈ tables_1) d hd)
  have N0 := Fr.nil n0
  refine own_cast (own_frame (L := [rv b, iv p1, iv (0 : Int32)]) (ls := #[rv b, iv p1, iv (0 : Int32)]) rfl rfl) ?_
  refine og_iloadN X0 hx (hb hby d19_0) rfl ?_
  refine og_ifN X0 hx (hb hby d19_1) (teq (by decide)).2 ?_
  show own_Go p e below _ T0 (mkF m 4 #[rv b, iv p1, iv (0 : Int32)] [])
  refine own_ldcH X0 hx hZ hown (own_hw hw 146 rfl) hwS e0 hS hk (own_EW hw) (List.mem_of_getElem? (i := 0) rfl) C0.1 (z := 0) ⟨by decide, rfl⟩ (by decide) rfl (hb hby d19_4) 0 (by decide) (by decide) (by decide) (by decide) ?_
  intro s1 T1 h1 k1 d1 kb1 X1 e1 E1 hS1 hk1 hZ1 hown1 Es1 Fc1 Fv1 As1 C1q Lt1 ns1
  have C1 := C0.trans C1q
  have O1 := hO.ext E1
  have K1 := (Keep.refl h0 []).ext E1
  have E_s1_1 : Exa Z h1 s1 "java/lang/String" := Es1
  have F_s1_coder_1 : Fld Z h1 s1 "java/lang/String" "coder" "B" (.int (0 : Int32)) := Fc1
  have F_s1_value_1 : Fld Z h1 s1 "java/lang/String" "value" "[B" (.ref d1) := Fv1
  have A_d1_1 : Arv Z h1 d1 kb1 .byte 0 [] (.int 0) := As1
  show own_Go p e below _ T1 (mkF m 6 #[rv b, iv p1, iv (0 : Int32)] [(.ref s1)])
  exact own_retAH X1 hx hret hlk (hb hby d19_6) rfl rfl hZ1 (own_EW hw) C1 e1 hS1 hk1 (by decide) (by decide) (by rw [e1]; exact ⟨s1, d1, _, rfl, N0, K1, E_s1_1, F_s1_value_1, F_s1_coder_1, A_d1_1⟩)
theorem own_subself (x : Int32) : x - x = 0 := Int32.sub_self x
def own_r_own_subE : Room := { frames := 2, cells := 2, slots := 4, locals := 29 }
theorem own_subE (l : Launch) (Z : State) (a0 : Array Value) (hw : own_W a0 Z) (z : Int32) (sf : Value) (t b : Addr) (kb : ClassId) (dv : Value) (n : Int32) (vs : List Value) (lo : Int32) (h0 : Heap) (n0 : Nat) (hO : Old Z n0 h0) (hG : own_Gs Z z sf) (h1 : ¬ lo < 0) (h3 : ¬ n < lo) (hx0 : ¬ lo = 0) (Et : own_E Z h0 t) (Fv : own_V Z h0 t b) (Fc : own_C Z h0 t) (Ab : Arv Z h0 b kb .byte n vs dv) :
    own_MetH l Z own_EL (⟨"java/lang/String", "substring", "(II)Ljava/lang/String;"⟩ : MethodName) jdk_42_method_92_code 5 (some (.object "java/lang/String")) own_r_own_subE #[(.ref t), (.int lo), (.int lo)] h0 (own_Qe Z h0 n0) := by
  refine own_bodyH (by decide +kernel) ?_
  intro p e s m below meth c T0 X0 hx hZ hby hml hown hnm hret hlk e0 hS hk C0
  have hwS : ∀ a ∈ Bundle.stringAtoms, a.before a0 Z = true := fun d hd => hw d ((by decide +kernel : ∀ d ∈ Bundle.stringAtoms, d ∈ tables_1) d hd)
  have N0 := Fr.nil n0
  refine own_cast (own_frame (L := [rv t, iv lo, iv lo]) (ls := #[rv t, iv lo, iv lo, .unset, .unset]) rfl rfl) ?_
  obtain ⟨SC, hz, SF, rf⟩ := id hG
  refine og_aloadN X0 hx (hb hby d15_0) rfl rfl ?_
  refine own_callV X0 hx hZ hown (own_hw hw 85 rfl) (own_hw hw 48 rfl) (notFace_of_selects (args := #[]) (mvT hZ (own_hw hw 50 rfl))) (own_hw hw 50 rfl) (own_hw hw 49 rfl) (own_hw hw 51 rfl) (own_hw hw 4 rfl) (by decide) (b := t) (argsL := []) (rest := []) (own_slen l Z a0 hw z sf t b _ _ _ _ h0 n0 hO hG Et Fv Fc Ab) e0 Et (by rw [hml]; rfl) (lenOf own_pd13941 rfl) rfl (hb hby d15_1) (W := 0) (Nat.le_of_eq rfl) (by decide) ?_
  intro v1 T1 L1 X1 q1
  obtain ⟨rfl, N1q, e1⟩ := q1
  have N1 := Fr.app N0 N1q
  show own_Go p e below _ T1 (mkF m 4 #[rv t, iv lo, iv lo, .unset, .unset] [(.int n)])
  refine og_istoreN X1 hx #[rv t, iv lo, iv lo, iv n, .unset] (hb hby d15_4) rfl ?_
  refine og_iloadN X1 hx (hb hby d15_5) rfl ?_
  refine og_iloadN X1 hx (hb hby d15_6) rfl ?_
  refine og_iloadN X1 hx (hb hby d15_7) rfl ?_
  refine own_callS X1 hx hZ hown (own_hw hw 91 rfl) (own_hw hw 92 rfl) (own_hw hw 4 rfl) (own_hw hw 93 rfl) (by decide) (argsL := [(.int lo), (.int lo), (.int n)]) (rest := []) (own_cbb l Z a0 hw z sf lo lo n h0 n0 hO hG h1 Int32.lt_irrefl h3) e1 (by rw [hml]; rfl) (lenOf own_pd73746 rfl) rfl (hb hby d15_8) (W := 0) (Nat.le_of_eq rfl) (by decide) ?_
  intro v2 T2 L2 X2 q2
  obtain ⟨rfl, N2q, e2⟩ := q2
  have N2 := Fr.app N1 N2q
  show own_Go p e below _ T2 (mkF m 11 #[rv t, iv lo, iv lo, iv n, .unset] [])
  refine og_iloadN X2 hx (hb hby d15_11) rfl ?_
  refine og_ifY X2 hx 22 (hb hby d15_12) (feq hx0).2 (by decide) (by decide) ?_
  refine og_iloadN X2 hx (hb hby d15_22) rfl ?_
  refine og_iloadN X2 hx (hb hby d15_23) rfl ?_
  refine og_isub X2 hx (hb hby d15_24) ?_
  show own_Go p e below _ T2 (mkF m 25 #[rv t, iv lo, iv lo, iv n, .unset] [(.int (lo - lo))])
  rw [own_subself lo]
  show own_Go p e below _ T2 (mkF m 25 #[rv t, iv lo, iv lo, iv n, .unset] [(.int (0 : Int32))])
  refine og_istore X2 hx #[rv t, iv lo, iv lo, iv n, iv (0 : Int32)] (hb hby d15_25) rfl ?_
  refine og_aloadN X2 hx (hb hby d15_27) rfl rfl ?_
  refine own_callV X2 hx hZ hown (own_hw hw 98 rfl) (own_hw hw 99 rfl) (notFace_of_selects (args := #[]) (mvT hZ (own_hw hw 101 rfl))) (own_hw hw 101 rfl) (own_hw hw 100 rfl) (own_hw hw 102 rfl) (own_hw hw 4 rfl) (by decide) (b := t) (argsL := []) (rest := []) (own_isl1 l Z a0 hw z sf t h0 n0 hO hG Fc) e2 Et (by rw [hml]; rfl) (lenOf own_pd61835 rfl) rfl (hb hby d15_28) (W := 0) (Nat.le_of_eq rfl) (by decide) ?_
  intro v3 T3 L3 X3 q3
  obtain ⟨rfl, N3q, e3⟩ := q3
  have N3 := Fr.app N2 N3q
  show own_Go p e below _ T3 (mkF m 31 #[rv t, iv lo, iv lo, iv n, iv (0 : Int32)] [(.int (1 : Int32))])
  refine og_ifN X3 hx (hb hby d15_31) (feq (by decide)).1 ?_
  refine og_aloadN X3 hx (hb hby d15_34) rfl rfl ?_
  refine og_getF X3 hx hZ hown (own_hw hw 29 rfl) Via.refl e3 Fv (hb hby d15_35) ?_
  intro T4 X4 e4
  refine og_iloadN X4 hx (hb hby d15_38) rfl ?_
  refine og_iload X4 hx (hb hby d15_39) rfl ?_
  refine own_callSH X4 hx hZ hown (own_hw hw 103 rfl) (own_hw hw 104 rfl) (own_hw hw 105 rfl) (own_hw hw 106 rfl) (by decide) (argsL := [(.ref b), (.int lo), (.int (0 : Int32))]) (rest := []) (own_nse l Z a0 hw b lo h0 n0 hO) (own_EW hw) C0.1 hS hk e4 (by rw [hml]; rfl) (lenOf own_pd78060 rfl) rfl (hb hby d15_41) (W := 0) (Nat.le_of_eq rfl) (by decide) ?_
  intro v5 T5 L5 X5 hS5 hZ5 hown5 C5q q5
  obtain ⟨t5, vb5, k5, rfl, N5q, K5q, Et5, Ft5, Ct5, At5⟩ := q5
  have N5 := Fr.app N3 N5q
  have C5 := C0.trans C5q
  have E_t_5 := Et.keep K5q
  have F_t_value_5 := Fv.keep K5q nin0
  have F_t_coder_5 := Fc.keep K5q nin0
  have A_b_5 := Ab.keep K5q nin0
  have O5 := hO.keep K5q all0
  have K5 := (Keep.refl h0 []).trans K5q all0
  show own_Go p e below _ T5 (mkF m 44 #[rv t, iv lo, iv lo, iv n, iv (0 : Int32)] [(.ref t5)])
  refine og_goto X5 hx 57 (hb hby d15_44) (by decide) (by decide) ?_
  exact own_retAH X5 hx hret hlk (hb hby d15_57) rfl rfl hZ5 (own_EW hw) C5 rfl hS5 (Nat.le_refl _) (by decide) (by decide) (⟨t5, vb5, _, rfl, N5, K5, Et5, Ft5, Ct5, At5⟩)
def own_r_own_sub1E : Room := { frames := 3, cells := 2, slots := 4, locals := 45 }
theorem own_sub1E (l : Launch) (Z : State) (a0 : Array Value) (hw : own_W a0 Z) (z : Int32) (sf : Value) (t b : Addr) (kb : ClassId) (dv : Value) (n : Int32) (vs : List Value) (h0 : Heap) (n0 : Nat) (hO : Old Z n0 h0) (hG : own_Gs Z z sf) (h1 : ¬ n < 0) (hx0 : ¬ n = 0) (Et : own_E Z h0 t) (Fv : own_V Z h0 t b) (Fc : own_C Z h0 t) (Ab : Arv Z h0 b kb .byte n vs dv) :
    own_MetH l Z own_EL (⟨"java/lang/String", "substring", "(I)Ljava/lang/String;"⟩ : MethodName) jdk_42_method_91_code 2 (some (.object "java/lang/String")) own_r_own_sub1E #[(.ref t), (.int n)] h0 (own_Qe Z h0 n0) := by
  refine own_bodyH (by decide +kernel) ?_
  intro p e s m below meth c T0 X0 hx hZ hby hml hown hnm hret hlk e0 hS hk C0
  have hwS : ∀ a ∈ Bundle.stringAtoms, a.before a0 Z = true := fun d hd => hw d ((by decide +kernel : ∀ d ∈ Bundle.stringAtoms, d ∈ tables_1) d hd)
  have N0 := Fr.nil n0
  refine own_cast (own_frame (L := [rv t, iv n]) (ls := #[rv t, iv n]) rfl rfl) ?_
  obtain ⟨SC, hz, SF, rf⟩ := id hG
  refine og_aloadN X0 hx (hb hby d14_0) rfl rfl ?_
  refine og_iloadN X0 hx (hb hby d14_1) rfl ?_
  refine og_aloadN X0 hx (hb hby d14_2) rfl rfl ?_
  refine own_callV X0 hx hZ hown (own_hw hw 85 rfl) (own_hw hw 48 rfl) (notFace_of_selects (args := #[]) (mvT hZ (own_hw hw 50 rfl))) (own_hw hw 50 rfl) (own_hw hw 49 rfl) (own_hw hw 51 rfl) (own_hw hw 4 rfl) (by decide) (b := t) (argsL := []) (rest := [(.int n), (.ref t)]) (own_slen l Z a0 hw z sf t b _ _ _ _ h0 n0 hO hG Et Fv Fc Ab) e0 Et (by rw [hml]; rfl) (lenOf own_pd13941 rfl) rfl (hb hby d14_3) (W := 2) (Nat.le_of_eq rfl) (by decide) ?_
  intro v1 T1 L1 X1 q1
  obtain ⟨rfl, N1q, e1⟩ := q1
  have N1 := Fr.app N0 N1q
  show own_Go p e below _ T1 (mkF m 6 #[rv t, iv n] [(.int n), (.int n), (.ref t)])
  refine own_callVH X1 hx hZ hown (own_hw hw 86 rfl) (own_hw hw 87 rfl) (notFace_of_selects (args := #[]) (mvT hZ (own_hw hw 89 rfl))) (own_hw hw 89 rfl) (own_hw hw 88 rfl) (own_hw hw 90 rfl) (own_hw hw 4 rfl) (by decide) (b := t) (argsL := [(.int n), (.int n)]) (rest := []) (own_subE l Z a0 hw z sf t b _ _ _ _ n h0 n0 hO hG h1 Int32.lt_irrefl hx0 Et Fv Fc Ab) (own_EW hw) C0.1 hS hk e1 Et (by rw [hml]; rfl) (lenOf own_pd41291 rfl) rfl (hb hby d14_6) (W := 0) (Nat.le_of_eq rfl) (by decide) ?_
  intro v2 T2 L2 X2 hS2 hZ2 hown2 C2q q2
  obtain ⟨t2, vb2, k2, rfl, N2q, K2q, Et2, Ft2, Ct2, At2⟩ := q2
  have N2 := Fr.app N1 N2q
  have C2 := C0.trans C2q
  have E_t_2 := Et.keep K2q
  have F_t_value_2 := Fv.keep K2q nin0
  have F_t_coder_2 := Fc.keep K2q nin0
  have A_b_2 := Ab.keep K2q nin0
  have O2 := hO.keep K2q all0
  have K2 := (Keep.refl h0 []).trans K2q all0
  show own_Go p e below _ T2 (mkF m 9 #[rv t, iv n] [(.ref t2)])
  exact own_retAH X2 hx hret hlk (hb hby d14_9) rfl rfl hZ2 (own_EW hw) C2 rfl hS2 (Nat.le_refl _) (by decide) (by decide) (⟨t2, vb2, _, rfl, N2, K2, Et2, Ft2, Ct2, At2⟩)
def own_r_own_va_4 : Room := { frames := 4, cells := 2, slots := 4, locals := 58 }
theorem own_va_4 (l : Launch) (Z : State) (a0 : Array Value) (hw : own_W a0 Z) (z : Int32) (sf : Value) (t b : Addr) (kb : ClassId) (dv : Value) (v0 v1 v2 v3 : Value) (a1 : Addr) (h0 : Heap) (n0 : Nat) (hO : Old Z n0 h0) (hG : own_Gs Z z sf) (Et : own_E Z h0 t) (Fv : own_V Z h0 t b) (Fc : own_C Z h0 t) (Ab : Arv Z h0 b kb .byte 4 [v0, v1, v2, v3] dv) (F1 : Fld Z h0 a1 "com/example/winnow/winnow/contacts/ContentLine" "text" "Ljava/lang/String;" (.ref t)) (F2 : Fld Z h0 a1 "com/example/winnow/winnow/contacts/ContentLine" "valueStart" "I" (.int (4 : Int32))) :
    own_MetH l Z own_EL (⟨"com/example/winnow/winnow/contacts/ContentLine", "value", "()Ljava/lang/String;"⟩ : MethodName) prog_25_method_3_code 1 (some (.object "java/lang/String")) own_r_own_va_4 #[(.ref a1)] h0 (own_Qe Z h0 n0) := by
  refine own_bodyH (by decide +kernel) ?_
  intro p e s m below meth c T0 X0 hx hZ hby hml hown hnm hret hlk e0 hS hk C0
  have hwS : ∀ a ∈ Bundle.stringAtoms, a.before a0 Z = true := fun d hd => hw d ((by decide +kernel : ∀ d ∈ Bundle.stringAtoms, d ∈ tables_1) d hd)
  have N0 := Fr.nil n0
  refine own_cast (own_frame (L := [rv a1]) (ls := #[rv a1]) rfl rfl) ?_
  obtain ⟨SC, hz, SF, rf⟩ := id hG
  refine og_aloadN X0 hx (hb hby d13_0) rfl rfl ?_
  refine og_getF X0 hx hZ hown (own_hw hw 67 rfl) Via.refl e0 F1 (hb hby d13_1) ?_
  intro T1 X1 e1
  refine og_aloadN X1 hx (hb hby d13_4) rfl rfl ?_
  refine og_getF X1 hx hZ hown (own_hw hw 73 rfl) Via.refl e1 F2 (hb hby d13_5) ?_
  intro T2 X2 e2
  show own_Go p e below _ T2 (mkF m 8 #[rv a1] [(.int 4), (.ref t)])
  refine own_callVH X2 hx hZ hown (own_hw hw 80 rfl) (own_hw hw 81 rfl) (notFace_of_selects (args := #[]) (mvT hZ (own_hw hw 83 rfl))) (own_hw hw 83 rfl) (own_hw hw 82 rfl) (own_hw hw 84 rfl) (own_hw hw 4 rfl) (by decide) (b := t) (argsL := [(.int 4)]) (rest := []) (own_sub1E l Z a0 hw z sf t b _ _ _ _ h0 n0 hO hG (by decide) (by decide) Et Fv Fc Ab) (own_EW hw) C0.1 hS hk e2 Et (by rw [hml]; rfl) (lenOf own_pd44404 rfl) rfl (hb hby d13_8) (W := 0) (Nat.le_of_eq rfl) (by decide) ?_
  intro v3 T3 L3 X3 hS3 hZ3 hown3 C3q q3
  obtain ⟨t3, vb3, k3, rfl, N3q, K3q, Et3, Ft3, Ct3, At3⟩ := q3
  have N3 := Fr.app N0 N3q
  have C3 := C0.trans C3q
  have E_t_3 := Et.keep K3q
  have F_t_value_3 := Fv.keep K3q nin0
  have F_t_coder_3 := Fc.keep K3q nin0
  have A_b_3 := Ab.keep K3q nin0
  have F_a1_text_3 := F1.keep K3q nin0
  have F_a1_valueStart_3 := F2.keep K3q nin0
  have O3 := hO.keep K3q all0
  have K3 := (Keep.refl h0 []).trans K3q all0
  show own_Go p e below _ T3 (mkF m 11 #[rv a1] [(.ref t3)])
  exact own_retAH X3 hx hret hlk (hb hby d13_11) rfl rfl hZ3 (own_EW hw) C3 rfl hS3 (Nat.le_refl _) (by decide) (by decide) (⟨t3, vb3, _, rfl, N3, K3, Et3, Ft3, Ct3, At3⟩)
def own_r_own_pck : Room := { frames := 0, cells := 0, slots := 0, locals := 0 }
theorem own_pck (l : Launch) (Z : State) (a0 : Array Value) (hw : own_W a0 Z) (i n : Int32) (sf : Value) (h0 : Heap) (n0 : Nat) (rf : sf.isRef = true) (h1 : ¬ i < 0) (h2 : i < n) :
    own_Met l Z (⟨"jdk/internal/util/Preconditions", "checkIndex", "(IILjava/util/function/BiFunction;)I"⟩ : MethodName) jdk_41_method_11_code 3 (some .int) own_r_own_pck #[(.int i), (.int n), sf] h0 (own_Qv (some (.int i)) h0 n0) := by
  refine own_body (by decide +kernel) ?_
  intro p e s m below meth c T0 X0 hx hZ hby hml hown hnm hret hlk e0
  have N0 := Fr.nil n0
  refine own_cast (own_frame (L := [iv i, iv n, .val sf]) (ls := #[iv i, iv n, .val sf]) (congrArg (fun q => iv i :: iv n :: q) (own_laid1 rf)) rfl) ?_
  refine og_iloadN X0 hx (hb hby d12_0) rfl ?_
  refine og_ifN X0 hx (hb hby d12_1) (flt h1).1 ?_
  refine og_iloadN X0 hx (hb hby d12_4) rfl ?_
  refine og_iloadN X0 hx (hb hby d12_5) rfl ?_
  refine og_icY X0 hx 16 (hb hby d12_6) (tlt h2).1 (by decide) (by decide) ?_
  refine og_iloadN X0 hx (hb hby d12_16) rfl ?_
  exact own_retI X0 hx hret hlk (hb hby d12_17) rfl (by simp) (by decide) (by decide) (⟨rfl, N0, e0⟩)
theorem d28_0 : decode jdk_42_method_155_code 0 = .ok (.iload_n 0, 1) := by decide +kernel
theorem d28_1 : decode jdk_42_method_155_code 1 = .ok (.iload_n 1, 1) := by decide +kernel
theorem d28_2 : decode jdk_42_method_155_code 2 = .ok (.getstatic 1053, 3) := by decide +kernel
theorem d28_5 : decode jdk_42_method_155_code 5 = .ok (.invokestatic 1059, 3) := by decide +kernel
theorem d28_8 : decode jdk_42_method_155_code 8 = .ok (.pop, 1) := by decide +kernel
theorem d28_9 : decode jdk_42_method_155_code 9 = .ok (.return_, 1) := by decide +kernel
def own_r_own_sck : Room := { frames := 1, cells := 0, slots := 0, locals := 14 }
theorem own_sck (l : Launch) (Z : State) (a0 : Array Value) (hw : own_W a0 Z) (z : Int32) (sf : Value) (i n : Int32) (h0 : Heap) (n0 : Nat) (hO : Old Z n0 h0) (hG : own_Gs Z z sf) (h1 : ¬ i < 0) (h2 : i < n) :
    own_Met l Z (⟨"java/lang/String", "checkIndex", "(II)V"⟩ : MethodName) jdk_42_method_155_code 2 none own_r_own_sck #[(.int i), (.int n)] h0 (own_Qv none h0 n0) := by
  refine own_body (by decide +kernel) ?_
  intro p e s m below meth c T0 X0 hx hZ hby hml hown hnm hret hlk e0
  have N0 := Fr.nil n0
  refine own_cast (own_frame (L := [iv i, iv n]) (ls := #[iv i, iv n]) rfl rfl) ?_
  obtain ⟨SC, hz, SF, rf⟩ := id hG
  refine og_iloadN X0 hx (hb hby d28_0) rfl ?_
  refine og_iloadN X0 hx (hb hby d28_1) rfl ?_
  refine og_getS X0 hx hZ hown (own_hw hw 94 rfl) Via.refl e0 (SF.ext hO.2) (hb hby d28_2) ?_
  intro T1 X1 e1
  show own_Go p e below _ T1 (mkF m 5 #[iv i, iv n] [sf, (.int n), (.int i)])
  refine own_callS X1 hx hZ hown (own_hw hw 145 rfl) (own_hw hw 62 rfl) (own_hw hw 63 rfl) (own_hw hw 64 rfl) (by decide) (argsL := [(.int i), (.int n), sf]) (rest := []) (own_pck l Z a0 hw i n sf h0 n0 rf h1 h2) e1 (by rw [hml]; rfl) (lenOf own_pd6315 rfl) rfl (hb hby d28_5) (W := 0) (Nat.le_of_eq rfl) (by decide) ?_
  intro v2 T2 L2 X2 q2
  obtain ⟨rfl, N2q, e2⟩ := q2
  have N2 := Fr.app N0 N2q
  show own_Go p e below _ T2 (mkF m 8 #[iv i, iv n] [(.int i)])
  refine og_pop X2 hx (hb hby d28_8) rfl ?_
  exact own_retV X2 hx hret hlk (hb hby d28_9) (by decide) (by decide) (⟨rfl, N2, e2⟩)
theorem d27_0 : decode jdk_43_method_2_code 0 = .ok (.iload_n 1, 1) := by decide +kernel
theorem d27_1 : decode jdk_43_method_2_code 1 = .ok (.aload_n 0, 1) := by decide +kernel
theorem d27_2 : decode jdk_43_method_2_code 2 = .ok (.arraylength, 1) := by decide +kernel
theorem d27_3 : decode jdk_43_method_2_code 3 = .ok (.invokestatic 9, 3) := by decide +kernel
theorem d27_6 : decode jdk_43_method_2_code 6 = .ok (.aload_n 0, 1) := by decide +kernel
theorem d27_7 : decode jdk_43_method_2_code 7 = .ok (.iload_n 1, 1) := by decide +kernel
theorem d27_8 : decode jdk_43_method_2_code 8 = .ok (.baload, 1) := by decide +kernel
theorem d27_9 : decode jdk_43_method_2_code 9 = .ok (.sipush 255, 3) := by decide +kernel
theorem d27_12 : decode jdk_43_method_2_code 12 = .ok (.iand, 1) := by decide +kernel
theorem d27_13 : decode jdk_43_method_2_code 13 = .ok (.i2c, 1) := by decide +kernel
theorem d27_14 : decode jdk_43_method_2_code 14 = .ok (.ireturn, 1) := by decide +kernel
def own_r_own_lca_0_4 : Room := { frames := 2, cells := 0, slots := 0, locals := 27 }
theorem own_lca_0_4 (l : Launch) (Z : State) (a0 : Array Value) (hw : own_W a0 Z) (z : Int32) (sf : Value) (b : Addr) (kb : ClassId) (dv : Value) (ch : Int32) (v1 v2 v3 : Value) (h0 : Heap) (n0 : Nat) (hO : Old Z n0 h0) (hG : own_Gs Z z sf) (hc : ¬ ch < 0 ∧ ¬ (255 : Int32) < ch) (Ab : Arv Z h0 b kb .byte 4 [(.int ch.toInt8.toInt32), v1, v2, v3] dv) :
    own_Met l Z (⟨"java/lang/StringLatin1", "charAt", "([BI)C"⟩ : MethodName) jdk_43_method_2_code 2 (some .char) own_r_own_lca_0_4 #[(.ref b), (.int 0)] h0 (own_Qv (some (.int ch)) h0 n0) := by
  refine own_body (by decide +kernel) ?_
  intro p e s m below meth c T0 X0 hx hZ hby hml hown hnm hret hlk e0
  have N0 := Fr.nil n0
  refine own_cast (own_frame (L := [rv b, iv 0]) (ls := #[rv b, iv 0]) rfl rfl) ?_
  obtain ⟨SC, hz, SF, rf⟩ := id hG
  refine og_iloadN X0 hx (hb hby d27_0) rfl ?_
  refine og_aloadN X0 hx (hb hby d27_1) rfl rfl ?_
  refine own_len X0 hx hZ e0 Ab (hb hby d27_2) ?_
  show own_Go p e below _ T0 (mkF m 3 #[rv b, iv 0] [(.int 4), (.int 0)])
  refine own_callS X0 hx hZ hown (own_hw hw 142 rfl) (own_hw hw 143 rfl) (own_hw hw 4 rfl) (own_hw hw 144 rfl) (by decide) (argsL := [(.int 0), (.int 4)]) (rest := []) (own_sck l Z a0 hw z sf 0 4 h0 n0 hO hG (by decide) (by decide)) e0 (by rw [hml]; rfl) (lenOf own_pd97226 rfl) rfl (hb hby d27_3) (W := 0) (Nat.le_of_eq rfl) (by decide) ?_
  intro v1 T1 L1 X1 q1
  obtain ⟨rfl, N1q, e1⟩ := q1
  have N1 := Fr.app N0 N1q
  show own_Go p e below _ T1 (mkF m 6 #[rv b, iv 0] [])
  refine og_aloadN X1 hx (hb hby d27_6) rfl rfl ?_
  refine og_iloadN X1 hx (hb hby d27_7) rfl ?_
  refine own_ldB X1 hx hZ e1 Ab ⟨by decide, by decide⟩ rfl (hb hby d27_8) ?_
  show own_Go p e below _ T1 (mkF m 9 #[rv b, iv 0] [(.int ch.toInt8.toInt32)])
  refine og_sipush X1 hx (hb hby d27_9) ?_
  refine og_iand X1 hx (hb hby d27_12) ?_
  show own_Go p e below _ T1 (mkF m 13 #[rv b, iv 0] [(.int (ch.toInt8.toInt32 &&& 255))])
  rw [own_rt ch hc]
  show own_Go p e below _ T1 (mkF m 13 #[rv b, iv 0] [(.int ch)])
  refine own_go (fun t k => XS.i2c X1.here hx rfl (hb hby d27_13) rfl k) ?_
  show own_Go p e below _ T1 (mkF m 14 #[rv b, iv 0] [(.int (ch.toUInt32.toUInt16.toUInt32.toInt32))])
  rw [own_ic ch hc]
  show own_Go p e below _ T1 (mkF m 14 #[rv b, iv 0] [(.int ch)])
  exact own_retI X1 hx hret hlk (hb hby d27_14) (own_nc ch hc) (by simp) (by decide) (by decide) (⟨rfl, N1, e1⟩)
theorem d26_0 : decode jdk_42_method_56_code 0 = .ok (.aload_n 0, 1) := by decide +kernel
theorem d26_1 : decode jdk_42_method_56_code 1 = .ok (.invokevirtual 492, 3) := by decide +kernel
theorem d26_4 : decode jdk_42_method_56_code 4 = .ok (.ifCond .eq 12, 3) := by decide +kernel
theorem d26_7 : decode jdk_42_method_56_code 7 = .ok (.aload_n 0, 1) := by decide +kernel
theorem d26_8 : decode jdk_42_method_56_code 8 = .ok (.getfield 9, 3) := by decide +kernel
theorem d26_11 : decode jdk_42_method_56_code 11 = .ok (.iload_n 1, 1) := by decide +kernel
theorem d26_12 : decode jdk_42_method_56_code 12 = .ok (.invokestatic 495, 3) := by decide +kernel
theorem d26_15 : decode jdk_42_method_56_code 15 = .ok (.ireturn, 1) := by decide +kernel
theorem own_pd27418 : parseMethodDescriptor "([BI)C" = some ⟨[(.array .byte), .int], some .char⟩ := by decide +kernel
def own_r_own_ca_0_4 : Room := { frames := 3, cells := 0, slots := 0, locals := 40 }
theorem own_ca_0_4 (l : Launch) (Z : State) (a0 : Array Value) (hw : own_W a0 Z) (z : Int32) (sf : Value) (t b : Addr) (kb : ClassId) (dv : Value) (ch : Int32) (v1 v2 v3 : Value) (h0 : Heap) (n0 : Nat) (hO : Old Z n0 h0) (hG : own_Gs Z z sf) (hc : ¬ ch < 0 ∧ ¬ (255 : Int32) < ch) (Et : own_E Z h0 t) (Fv : own_V Z h0 t b) (Fc : own_C Z h0 t) (Ab : Arv Z h0 b kb .byte 4 [(.int ch.toInt8.toInt32), v1, v2, v3] dv) :
    own_Met l Z (⟨"java/lang/String", "charAt", "(I)C"⟩ : MethodName) jdk_42_method_56_code 2 (some .char) own_r_own_ca_0_4 #[(.ref t), (.int 0)] h0 (own_Qv (some (.int ch)) h0 n0) := by
  refine own_body (by decide +kernel) ?_
  intro p e s m below meth c T0 X0 hx hZ hby hml hown hnm hret hlk e0
  have N0 := Fr.nil n0
  refine own_cast (own_frame (L := [rv t, iv 0]) (ls := #[rv t, iv 0]) rfl rfl) ?_
  obtain ⟨SC, hz, SF, rf⟩ := id hG
  refine og_aloadN X0 hx (hb hby d26_0) rfl rfl ?_
  refine own_callV X0 hx hZ hown (own_hw hw 98 rfl) (own_hw hw 99 rfl) (notFace_of_selects (args := #[]) (mvT hZ (own_hw hw 101 rfl))) (own_hw hw 101 rfl) (own_hw hw 100 rfl) (own_hw hw 102 rfl) (own_hw hw 4 rfl) (by decide) (b := t) (argsL := []) (rest := []) (own_isl1 l Z a0 hw z sf t h0 n0 hO hG Fc) e0 Et (by rw [hml]; rfl) (lenOf own_pd61835 rfl) rfl (hb hby d26_1) (W := 0) (Nat.le_of_eq rfl) (by decide) ?_
  intro v1 T1 L1 X1 q1
  obtain ⟨rfl, N1q, e1⟩ := q1
  have N1 := Fr.app N0 N1q
  show own_Go p e below _ T1 (mkF m 4 #[rv t, iv 0] [(.int (1 : Int32))])
  refine og_ifN X1 hx (hb hby d26_4) (feq (by decide)).1 ?_
  refine og_aloadN X1 hx (hb hby d26_7) rfl rfl ?_
  refine og_getF X1 hx hZ hown (own_hw hw 29 rfl) Via.refl e1 Fv (hb hby d26_8) ?_
  intro T2 X2 e2
  refine og_iloadN X2 hx (hb hby d26_11) rfl ?_
  refine own_callS X2 hx hZ hown (own_hw hw 139 rfl) (own_hw hw 140 rfl) (own_hw hw 105 rfl) (own_hw hw 141 rfl) (by decide) (argsL := [(.ref b), (.int 0)]) (rest := []) (own_lca_0_4 l Z a0 hw z sf b _ _ ch v1 v2 v3 h0 n0 hO hG hc Ab) e2 (by rw [hml]; rfl) (lenOf own_pd27418 rfl) rfl (hb hby d26_12) (W := 0) (Nat.le_of_eq rfl) (by decide) ?_
  intro v3 T3 L3 X3 q3
  obtain ⟨rfl, N3q, e3⟩ := q3
  have N3 := Fr.app N1 N3q
  show own_Go p e below _ T3 (mkF m 15 #[rv t, iv 0] [(.int ch)])
  exact own_retI X3 hx hret hlk (hb hby d26_15) (own_nc ch hc) (by simp) (by decide) (by decide) (⟨rfl, N3, e3⟩)
theorem d25_0 : decode method_3_code 0 = .ok (.iload_n 1, 1) := by decide +kernel
theorem d25_1 : decode method_3_code 1 = .ok (.iload_n 2, 1) := by decide +kernel
theorem d25_2 : decode method_3_code 2 = .ok (.if_icmp .lt 5, 3) := by decide +kernel
theorem d25_7 : decode method_3_code 7 = .ok (.aload_n 0, 1) := by decide +kernel
theorem d25_8 : decode method_3_code 8 = .ok (.iload_n 1, 1) := by decide +kernel
theorem d25_9 : decode method_3_code 9 = .ok (.invokevirtual 36, 3) := by decide +kernel
theorem d25_12 : decode method_3_code 12 = .ok (.aload_n 3, 1) := by decide +kernel
theorem d25_13 : decode method_3_code 13 = .ok (.iload 4, 2) := by decide +kernel
theorem d25_15 : decode method_3_code 15 = .ok (.iload_n 1, 1) := by decide +kernel
theorem d25_16 : decode method_3_code 16 = .ok (.iadd, 1) := by decide +kernel
theorem d25_17 : decode method_3_code 17 = .ok (.caload, 1) := by decide +kernel
theorem d25_18 : decode method_3_code 18 = .ok (.if_icmp .ne 7, 3) := by decide +kernel
theorem d25_21 : decode method_3_code 21 = .ok (.iconst 1, 1) := by decide +kernel
theorem d25_22 : decode method_3_code 22 = .ok (.goto 4, 3) := by decide +kernel
theorem d25_26 : decode method_3_code 26 = .ok (.ireturn, 1) := by decide +kernel
theorem own_pd47939 : parseMethodDescriptor "(I)C" = some ⟨[.int], some .char⟩ := by decide +kernel
def own_r_own_at_0_0 : Room := { frames := 4, cells := 0, slots := 0, locals := 53 }
theorem own_at_0_0 (l : Launch) (Z : State) (a0 : Array Value) (hw : own_W a0 Z) (z : Int32) (sf : Value) (t b : Addr) (kb : ClassId) (dv : Value) (ca : Addr) (kc : ClassId) (c0 c1 c2 c3 : Int32) (h0 : Heap) (n0 : Nat) (hO : Old Z n0 h0) (hG : own_Gs Z z sf) (hc : ¬ c0 < 0 ∧ ¬ (255 : Int32) < c0) (Et : own_E Z h0 t) (Fv : own_V Z h0 t b) (Fc : own_C Z h0 t) (Ab : Arv Z h0 b kb .byte 4 [(.int c0.toInt8.toInt32), (.int c1.toInt8.toInt32), (.int c2.toInt8.toInt32), (.int c3.toInt8.toInt32)] dv) (Ac : Arv Z h0 ca kc .char (4 : Int32) [.int c0, .int c1, .int c2, .int c3] (.int (0 : Int32))) :
    own_Met l Z (⟨"com/example/winnow/winnow/contacts/ContentLineValuePinLaw", "at", "(Ljava/lang/String;II[CI)Z"⟩ : MethodName) method_3_code 5 (some .boolean) own_r_own_at_0_0 #[(.ref t), (.int 0), (.int 4), (.ref ca), (.int 0)] h0 (own_Qv (some (.int 1)) h0 n0) := by
  refine own_body (by decide +kernel) ?_
  intro p e s m below meth c T0 X0 hx hZ hby hml hown hnm hret hlk e0
  have N0 := Fr.nil n0
  refine own_cast (own_frame (L := [rv t, iv 0, iv 4, rv ca, iv 0]) (ls := #[rv t, iv 0, iv 4, rv ca, iv 0]) rfl rfl) ?_
  obtain ⟨SC, hz, SF, rf⟩ := id hG
  refine og_iloadN X0 hx (hb hby d25_0) rfl ?_
  refine og_iloadN X0 hx (hb hby d25_1) rfl ?_
  refine og_icY X0 hx 7 (hb hby d25_2) (tlt (by decide)).1 (by decide) (by decide) ?_
  refine og_aloadN X0 hx (hb hby d25_7) rfl rfl ?_
  refine og_iloadN X0 hx (hb hby d25_8) rfl ?_
  refine own_callV X0 hx hZ hown (own_hw hw 134 rfl) (own_hw hw 135 rfl) (notFace_of_selects (args := #[]) (mvT hZ (own_hw hw 137 rfl))) (own_hw hw 137 rfl) (own_hw hw 136 rfl) (own_hw hw 138 rfl) (own_hw hw 4 rfl) (by decide) (b := t) (argsL := [(.int 0)]) (rest := []) (own_ca_0_4 l Z a0 hw z sf t b _ _ c0 (.int c1.toInt8.toInt32) (.int c2.toInt8.toInt32) (.int c3.toInt8.toInt32) h0 n0 hO hG hc Et Fv Fc Ab) e0 Et (by rw [hml]; rfl) (lenOf own_pd47939 rfl) rfl (hb hby d25_9) (W := 0) (Nat.le_of_eq rfl) (by decide) ?_
  intro v1 T1 L1 X1 q1
  obtain ⟨rfl, N1q, e1⟩ := q1
  have N1 := Fr.app N0 N1q
  show own_Go p e below _ T1 (mkF m 12 #[rv t, iv 0, iv 4, rv ca, iv 0] [(.int c0)])
  refine og_aloadN X1 hx (hb hby d25_12) rfl rfl ?_
  refine og_iload X1 hx (hb hby d25_13) rfl ?_
  refine og_iloadN X1 hx (hb hby d25_15) rfl ?_
  refine og_iadd X1 hx (hb hby d25_16) ?_
  show own_Go p e below _ T1 (mkF m 17 #[rv t, iv 0, iv 4, rv ca, iv 0] [(.int 0), (.ref ca), (.int c0)])
  refine own_ldC X1 hx hZ e1 Ac ⟨by decide, by decide⟩ rfl (hb hby d25_17) ?_
  show own_Go p e below _ T1 (mkF m 18 #[rv t, iv 0, iv 4, rv ca, iv 0] [(.int c0), (.int c0)])
  refine og_icN X1 hx (hb hby d25_18) (teq rfl).2 ?_
  refine og_iconst X1 hx (hb hby d25_21) ?_
  refine og_goto X1 hx 26 (hb hby d25_22) (by decide) (by decide) ?_
  exact own_retI X1 hx hret hlk (hb hby d25_26) rfl (by simp) (by decide) (by decide) (⟨rfl, N1, e1⟩)
def own_r_own_lca_1_4 : Room := { frames := 2, cells := 0, slots := 0, locals := 27 }
theorem own_lca_1_4 (l : Launch) (Z : State) (a0 : Array Value) (hw : own_W a0 Z) (z : Int32) (sf : Value) (b : Addr) (kb : ClassId) (dv : Value) (ch : Int32) (v0 v2 v3 : Value) (h0 : Heap) (n0 : Nat) (hO : Old Z n0 h0) (hG : own_Gs Z z sf) (hc : ¬ ch < 0 ∧ ¬ (255 : Int32) < ch) (Ab : Arv Z h0 b kb .byte 4 [v0, (.int ch.toInt8.toInt32), v2, v3] dv) :
    own_Met l Z (⟨"java/lang/StringLatin1", "charAt", "([BI)C"⟩ : MethodName) jdk_43_method_2_code 2 (some .char) own_r_own_lca_1_4 #[(.ref b), (.int 1)] h0 (own_Qv (some (.int ch)) h0 n0) := by
  refine own_body (by decide +kernel) ?_
  intro p e s m below meth c T0 X0 hx hZ hby hml hown hnm hret hlk e0
  have N0 := Fr.nil n0
  refine own_cast (own_frame (L := [rv b, iv 1]) (ls := #[rv b, iv 1]) rfl rfl) ?_
  obtain ⟨SC, hz, SF, rf⟩ := id hG
  refine og_iloadN X0 hx (hb hby d27_0) rfl ?_
  refine og_aloadN X0 hx (hb hby d27_1) rfl rfl ?_
  refine own_len X0 hx hZ e0 Ab (hb hby d27_2) ?_
  show own_Go p e below _ T0 (mkF m 3 #[rv b, iv 1] [(.int 4), (.int 1)])
  refine own_callS X0 hx hZ hown (own_hw hw 142 rfl) (own_hw hw 143 rfl) (own_hw hw 4 rfl) (own_hw hw 144 rfl) (by decide) (argsL := [(.int 1), (.int 4)]) (rest := []) (own_sck l Z a0 hw z sf 1 4 h0 n0 hO hG (by decide) (by decide)) e0 (by rw [hml]; rfl) (lenOf own_pd97226 rfl) rfl (hb hby d27_3) (W := 0) (Nat.le_of_eq rfl) (by decide) ?_
  intro v1 T1 L1 X1 q1
  obtain ⟨rfl, N1q, e1⟩ := q1
  have N1 := Fr.app N0 N1q
  show own_Go p e below _ T1 (mkF m 6 #[rv b, iv 1] [])
  refine og_aloadN X1 hx (hb hby d27_6) rfl rfl ?_
  refine og_iloadN X1 hx (hb hby d27_7) rfl ?_
  refine own_ldB X1 hx hZ e1 Ab ⟨by decide, by decide⟩ rfl (hb hby d27_8) ?_
  show own_Go p e below _ T1 (mkF m 9 #[rv b, iv 1] [(.int ch.toInt8.toInt32)])
  refine og_sipush X1 hx (hb hby d27_9) ?_
  refine og_iand X1 hx (hb hby d27_12) ?_
  show own_Go p e below _ T1 (mkF m 13 #[rv b, iv 1] [(.int (ch.toInt8.toInt32 &&& 255))])
  rw [own_rt ch hc]
  show own_Go p e below _ T1 (mkF m 13 #[rv b, iv 1] [(.int ch)])
  refine own_go (fun t k => XS.i2c X1.here hx rfl (hb hby d27_13) rfl k) ?_
  show own_Go p e below _ T1 (mkF m 14 #[rv b, iv 1] [(.int (ch.toUInt32.toUInt16.toUInt32.toInt32))])
  rw [own_ic ch hc]
  show own_Go p e below _ T1 (mkF m 14 #[rv b, iv 1] [(.int ch)])
  exact own_retI X1 hx hret hlk (hb hby d27_14) (own_nc ch hc) (by simp) (by decide) (by decide) (⟨rfl, N1, e1⟩)
def own_r_own_ca_1_4 : Room := { frames := 3, cells := 0, slots := 0, locals := 40 }
theorem own_ca_1_4 (l : Launch) (Z : State) (a0 : Array Value) (hw : own_W a0 Z) (z : Int32) (sf : Value) (t b : Addr) (kb : ClassId) (dv : Value) (ch : Int32) (v0 v2 v3 : Value) (h0 : Heap) (n0 : Nat) (hO : Old Z n0 h0) (hG : own_Gs Z z sf) (hc : ¬ ch < 0 ∧ ¬ (255 : Int32) < ch) (Et : own_E Z h0 t) (Fv : own_V Z h0 t b) (Fc : own_C Z h0 t) (Ab : Arv Z h0 b kb .byte 4 [v0, (.int ch.toInt8.toInt32), v2, v3] dv) :
    own_Met l Z (⟨"java/lang/String", "charAt", "(I)C"⟩ : MethodName) jdk_42_method_56_code 2 (some .char) own_r_own_ca_1_4 #[(.ref t), (.int 1)] h0 (own_Qv (some (.int ch)) h0 n0) := by
  refine own_body (by decide +kernel) ?_
  intro p e s m below meth c T0 X0 hx hZ hby hml hown hnm hret hlk e0
  have N0 := Fr.nil n0
  refine own_cast (own_frame (L := [rv t, iv 1]) (ls := #[rv t, iv 1]) rfl rfl) ?_
  obtain ⟨SC, hz, SF, rf⟩ := id hG
  refine og_aloadN X0 hx (hb hby d26_0) rfl rfl ?_
  refine own_callV X0 hx hZ hown (own_hw hw 98 rfl) (own_hw hw 99 rfl) (notFace_of_selects (args := #[]) (mvT hZ (own_hw hw 101 rfl))) (own_hw hw 101 rfl) (own_hw hw 100 rfl) (own_hw hw 102 rfl) (own_hw hw 4 rfl) (by decide) (b := t) (argsL := []) (rest := []) (own_isl1 l Z a0 hw z sf t h0 n0 hO hG Fc) e0 Et (by rw [hml]; rfl) (lenOf own_pd61835 rfl) rfl (hb hby d26_1) (W := 0) (Nat.le_of_eq rfl) (by decide) ?_
  intro v1 T1 L1 X1 q1
  obtain ⟨rfl, N1q, e1⟩ := q1
  have N1 := Fr.app N0 N1q
  show own_Go p e below _ T1 (mkF m 4 #[rv t, iv 1] [(.int (1 : Int32))])
  refine og_ifN X1 hx (hb hby d26_4) (feq (by decide)).1 ?_
  refine og_aloadN X1 hx (hb hby d26_7) rfl rfl ?_
  refine og_getF X1 hx hZ hown (own_hw hw 29 rfl) Via.refl e1 Fv (hb hby d26_8) ?_
  intro T2 X2 e2
  refine og_iloadN X2 hx (hb hby d26_11) rfl ?_
  refine own_callS X2 hx hZ hown (own_hw hw 139 rfl) (own_hw hw 140 rfl) (own_hw hw 105 rfl) (own_hw hw 141 rfl) (by decide) (argsL := [(.ref b), (.int 1)]) (rest := []) (own_lca_1_4 l Z a0 hw z sf b _ _ ch v0 v2 v3 h0 n0 hO hG hc Ab) e2 (by rw [hml]; rfl) (lenOf own_pd27418 rfl) rfl (hb hby d26_12) (W := 0) (Nat.le_of_eq rfl) (by decide) ?_
  intro v3 T3 L3 X3 q3
  obtain ⟨rfl, N3q, e3⟩ := q3
  have N3 := Fr.app N1 N3q
  show own_Go p e below _ T3 (mkF m 15 #[rv t, iv 1] [(.int ch)])
  exact own_retI X3 hx hret hlk (hb hby d26_15) (own_nc ch hc) (by simp) (by decide) (by decide) (⟨rfl, N3, e3⟩)
def own_r_own_at_1_0 : Room := { frames := 4, cells := 0, slots := 0, locals := 53 }
theorem own_at_1_0 (l : Launch) (Z : State) (a0 : Array Value) (hw : own_W a0 Z) (z : Int32) (sf : Value) (t b : Addr) (kb : ClassId) (dv : Value) (ca : Addr) (kc : ClassId) (c0 c1 c2 c3 : Int32) (h0 : Heap) (n0 : Nat) (hO : Old Z n0 h0) (hG : own_Gs Z z sf) (hc : ¬ c1 < 0 ∧ ¬ (255 : Int32) < c1) (Et : own_E Z h0 t) (Fv : own_V Z h0 t b) (Fc : own_C Z h0 t) (Ab : Arv Z h0 b kb .byte 4 [(.int c0.toInt8.toInt32), (.int c1.toInt8.toInt32), (.int c2.toInt8.toInt32), (.int c3.toInt8.toInt32)] dv) (Ac : Arv Z h0 ca kc .char (4 : Int32) [.int c0, .int c1, .int c2, .int c3] (.int (0 : Int32))) :
    own_Met l Z (⟨"com/example/winnow/winnow/contacts/ContentLineValuePinLaw", "at", "(Ljava/lang/String;II[CI)Z"⟩ : MethodName) method_3_code 5 (some .boolean) own_r_own_at_1_0 #[(.ref t), (.int 1), (.int 4), (.ref ca), (.int 0)] h0 (own_Qv (some (.int 1)) h0 n0) := by
  refine own_body (by decide +kernel) ?_
  intro p e s m below meth c T0 X0 hx hZ hby hml hown hnm hret hlk e0
  have N0 := Fr.nil n0
  refine own_cast (own_frame (L := [rv t, iv 1, iv 4, rv ca, iv 0]) (ls := #[rv t, iv 1, iv 4, rv ca, iv 0]) rfl rfl) ?_
  obtain ⟨SC, hz, SF, rf⟩ := id hG
  refine og_iloadN X0 hx (hb hby d25_0) rfl ?_
  refine og_iloadN X0 hx (hb hby d25_1) rfl ?_
  refine og_icY X0 hx 7 (hb hby d25_2) (tlt (by decide)).1 (by decide) (by decide) ?_
  refine og_aloadN X0 hx (hb hby d25_7) rfl rfl ?_
  refine og_iloadN X0 hx (hb hby d25_8) rfl ?_
  refine own_callV X0 hx hZ hown (own_hw hw 134 rfl) (own_hw hw 135 rfl) (notFace_of_selects (args := #[]) (mvT hZ (own_hw hw 137 rfl))) (own_hw hw 137 rfl) (own_hw hw 136 rfl) (own_hw hw 138 rfl) (own_hw hw 4 rfl) (by decide) (b := t) (argsL := [(.int 1)]) (rest := []) (own_ca_1_4 l Z a0 hw z sf t b _ _ c1 (.int c0.toInt8.toInt32) (.int c2.toInt8.toInt32) (.int c3.toInt8.toInt32) h0 n0 hO hG hc Et Fv Fc Ab) e0 Et (by rw [hml]; rfl) (lenOf own_pd47939 rfl) rfl (hb hby d25_9) (W := 0) (Nat.le_of_eq rfl) (by decide) ?_
  intro v1 T1 L1 X1 q1
  obtain ⟨rfl, N1q, e1⟩ := q1
  have N1 := Fr.app N0 N1q
  show own_Go p e below _ T1 (mkF m 12 #[rv t, iv 1, iv 4, rv ca, iv 0] [(.int c1)])
  refine og_aloadN X1 hx (hb hby d25_12) rfl rfl ?_
  refine og_iload X1 hx (hb hby d25_13) rfl ?_
  refine og_iloadN X1 hx (hb hby d25_15) rfl ?_
  refine og_iadd X1 hx (hb hby d25_16) ?_
  show own_Go p e below _ T1 (mkF m 17 #[rv t, iv 1, iv 4, rv ca, iv 0] [(.int 1), (.ref ca), (.int c1)])
  refine own_ldC X1 hx hZ e1 Ac ⟨by decide, by decide⟩ rfl (hb hby d25_17) ?_
  show own_Go p e below _ T1 (mkF m 18 #[rv t, iv 1, iv 4, rv ca, iv 0] [(.int c1), (.int c1)])
  refine og_icN X1 hx (hb hby d25_18) (teq rfl).2 ?_
  refine og_iconst X1 hx (hb hby d25_21) ?_
  refine og_goto X1 hx 26 (hb hby d25_22) (by decide) (by decide) ?_
  exact own_retI X1 hx hret hlk (hb hby d25_26) rfl (by simp) (by decide) (by decide) (⟨rfl, N1, e1⟩)
def own_r_own_lca_2_4 : Room := { frames := 2, cells := 0, slots := 0, locals := 27 }
theorem own_lca_2_4 (l : Launch) (Z : State) (a0 : Array Value) (hw : own_W a0 Z) (z : Int32) (sf : Value) (b : Addr) (kb : ClassId) (dv : Value) (ch : Int32) (v0 v1 v3 : Value) (h0 : Heap) (n0 : Nat) (hO : Old Z n0 h0) (hG : own_Gs Z z sf) (hc : ¬ ch < 0 ∧ ¬ (255 : Int32) < ch) (Ab : Arv Z h0 b kb .byte 4 [v0, v1, (.int ch.toInt8.toInt32), v3] dv) :
    own_Met l Z (⟨"java/lang/StringLatin1", "charAt", "([BI)C"⟩ : MethodName) jdk_43_method_2_code 2 (some .char) own_r_own_lca_2_4 #[(.ref b), (.int 2)] h0 (own_Qv (some (.int ch)) h0 n0) := by
  refine own_body (by decide +kernel) ?_
  intro p e s m below meth c T0 X0 hx hZ hby hml hown hnm hret hlk e0
  have N0 := Fr.nil n0
  refine own_cast (own_frame (L := [rv b, iv 2]) (ls := #[rv b, iv 2]) rfl rfl) ?_
  obtain ⟨SC, hz, SF, rf⟩ := id hG
  refine og_iloadN X0 hx (hb hby d27_0) rfl ?_
  refine og_aloadN X0 hx (hb hby d27_1) rfl rfl ?_
  refine own_len X0 hx hZ e0 Ab (hb hby d27_2) ?_
  show own_Go p e below _ T0 (mkF m 3 #[rv b, iv 2] [(.int 4), (.int 2)])
  refine own_callS X0 hx hZ hown (own_hw hw 142 rfl) (own_hw hw 143 rfl) (own_hw hw 4 rfl) (own_hw hw 144 rfl) (by decide) (argsL := [(.int 2), (.int 4)]) (rest := []) (own_sck l Z a0 hw z sf 2 4 h0 n0 hO hG (by decide) (by decide)) e0 (by rw [hml]; rfl) (lenOf own_pd97226 rfl) rfl (hb hby d27_3) (W := 0) (Nat.le_of_eq rfl) (by decide) ?_
  intro v1 T1 L1 X1 q1
  obtain ⟨rfl, N1q, e1⟩ := q1
  have N1 := Fr.app N0 N1q
  show own_Go p e below _ T1 (mkF m 6 #[rv b, iv 2] [])
  refine og_aloadN X1 hx (hb hby d27_6) rfl rfl ?_
  refine og_iloadN X1 hx (hb hby d27_7) rfl ?_
  refine own_ldB X1 hx hZ e1 Ab ⟨by decide, by decide⟩ rfl (hb hby d27_8) ?_
  show own_Go p e below _ T1 (mkF m 9 #[rv b, iv 2] [(.int ch.toInt8.toInt32)])
  refine og_sipush X1 hx (hb hby d27_9) ?_
  refine og_iand X1 hx (hb hby d27_12) ?_
  show own_Go p e below _ T1 (mkF m 13 #[rv b, iv 2] [(.int (ch.toInt8.toInt32 &&& 255))])
  rw [own_rt ch hc]
  show own_Go p e below _ T1 (mkF m 13 #[rv b, iv 2] [(.int ch)])
  refine own_go (fun t k => XS.i2c X1.here hx rfl (hb hby d27_13) rfl k) ?_
  show own_Go p e below _ T1 (mkF m 14 #[rv b, iv 2] [(.int (ch.toUInt32.toUInt16.toUInt32.toInt32))])
  rw [own_ic ch hc]
  show own_Go p e below _ T1 (mkF m 14 #[rv b, iv 2] [(.int ch)])
  exact own_retI X1 hx hret hlk (hb hby d27_14) (own_nc ch hc) (by simp) (by decide) (by decide) (⟨rfl, N1, e1⟩)
def own_r_own_ca_2_4 : Room := { frames := 3, cells := 0, slots := 0, locals := 40 }
theorem own_ca_2_4 (l : Launch) (Z : State) (a0 : Array Value) (hw : own_W a0 Z) (z : Int32) (sf : Value) (t b : Addr) (kb : ClassId) (dv : Value) (ch : Int32) (v0 v1 v3 : Value) (h0 : Heap) (n0 : Nat) (hO : Old Z n0 h0) (hG : own_Gs Z z sf) (hc : ¬ ch < 0 ∧ ¬ (255 : Int32) < ch) (Et : own_E Z h0 t) (Fv : own_V Z h0 t b) (Fc : own_C Z h0 t) (Ab : Arv Z h0 b kb .byte 4 [v0, v1, (.int ch.toInt8.toInt32), v3] dv) :
    own_Met l Z (⟨"java/lang/String", "charAt", "(I)C"⟩ : MethodName) jdk_42_method_56_code 2 (some .char) own_r_own_ca_2_4 #[(.ref t), (.int 2)] h0 (own_Qv (some (.int ch)) h0 n0) := by
  refine own_body (by decide +kernel) ?_
  intro p e s m below meth c T0 X0 hx hZ hby hml hown hnm hret hlk e0
  have N0 := Fr.nil n0
  refine own_cast (own_frame (L := [rv t, iv 2]) (ls := #[rv t, iv 2]) rfl rfl) ?_
  obtain ⟨SC, hz, SF, rf⟩ := id hG
  refine og_aloadN X0 hx (hb hby d26_0) rfl rfl ?_
  refine own_callV X0 hx hZ hown (own_hw hw 98 rfl) (own_hw hw 99 rfl) (notFace_of_selects (args := #[]) (mvT hZ (own_hw hw 101 rfl))) (own_hw hw 101 rfl) (own_hw hw 100 rfl) (own_hw hw 102 rfl) (own_hw hw 4 rfl) (by decide) (b := t) (argsL := []) (rest := []) (own_isl1 l Z a0 hw z sf t h0 n0 hO hG Fc) e0 Et (by rw [hml]; rfl) (lenOf own_pd61835 rfl) rfl (hb hby d26_1) (W := 0) (Nat.le_of_eq rfl) (by decide) ?_
  intro v1 T1 L1 X1 q1
  obtain ⟨rfl, N1q, e1⟩ := q1
  have N1 := Fr.app N0 N1q
  show own_Go p e below _ T1 (mkF m 4 #[rv t, iv 2] [(.int (1 : Int32))])
  refine og_ifN X1 hx (hb hby d26_4) (feq (by decide)).1 ?_
  refine og_aloadN X1 hx (hb hby d26_7) rfl rfl ?_
  refine og_getF X1 hx hZ hown (own_hw hw 29 rfl) Via.refl e1 Fv (hb hby d26_8) ?_
  intro T2 X2 e2
  refine og_iloadN X2 hx (hb hby d26_11) rfl ?_
  refine own_callS X2 hx hZ hown (own_hw hw 139 rfl) (own_hw hw 140 rfl) (own_hw hw 105 rfl) (own_hw hw 141 rfl) (by decide) (argsL := [(.ref b), (.int 2)]) (rest := []) (own_lca_2_4 l Z a0 hw z sf b _ _ ch v0 v1 v3 h0 n0 hO hG hc Ab) e2 (by rw [hml]; rfl) (lenOf own_pd27418 rfl) rfl (hb hby d26_12) (W := 0) (Nat.le_of_eq rfl) (by decide) ?_
  intro v3 T3 L3 X3 q3
  obtain ⟨rfl, N3q, e3⟩ := q3
  have N3 := Fr.app N1 N3q
  show own_Go p e below _ T3 (mkF m 15 #[rv t, iv 2] [(.int ch)])
  exact own_retI X3 hx hret hlk (hb hby d26_15) (own_nc ch hc) (by simp) (by decide) (by decide) (⟨rfl, N3, e3⟩)
def own_r_own_at_2_0 : Room := { frames := 4, cells := 0, slots := 0, locals := 53 }
theorem own_at_2_0 (l : Launch) (Z : State) (a0 : Array Value) (hw : own_W a0 Z) (z : Int32) (sf : Value) (t b : Addr) (kb : ClassId) (dv : Value) (ca : Addr) (kc : ClassId) (c0 c1 c2 c3 : Int32) (h0 : Heap) (n0 : Nat) (hO : Old Z n0 h0) (hG : own_Gs Z z sf) (hc : ¬ c2 < 0 ∧ ¬ (255 : Int32) < c2) (Et : own_E Z h0 t) (Fv : own_V Z h0 t b) (Fc : own_C Z h0 t) (Ab : Arv Z h0 b kb .byte 4 [(.int c0.toInt8.toInt32), (.int c1.toInt8.toInt32), (.int c2.toInt8.toInt32), (.int c3.toInt8.toInt32)] dv) (Ac : Arv Z h0 ca kc .char (4 : Int32) [.int c0, .int c1, .int c2, .int c3] (.int (0 : Int32))) :
    own_Met l Z (⟨"com/example/winnow/winnow/contacts/ContentLineValuePinLaw", "at", "(Ljava/lang/String;II[CI)Z"⟩ : MethodName) method_3_code 5 (some .boolean) own_r_own_at_2_0 #[(.ref t), (.int 2), (.int 4), (.ref ca), (.int 0)] h0 (own_Qv (some (.int 1)) h0 n0) := by
  refine own_body (by decide +kernel) ?_
  intro p e s m below meth c T0 X0 hx hZ hby hml hown hnm hret hlk e0
  have N0 := Fr.nil n0
  refine own_cast (own_frame (L := [rv t, iv 2, iv 4, rv ca, iv 0]) (ls := #[rv t, iv 2, iv 4, rv ca, iv 0]) rfl rfl) ?_
  obtain ⟨SC, hz, SF, rf⟩ := id hG
  refine og_iloadN X0 hx (hb hby d25_0) rfl ?_
  refine og_iloadN X0 hx (hb hby d25_1) rfl ?_
  refine og_icY X0 hx 7 (hb hby d25_2) (tlt (by decide)).1 (by decide) (by decide) ?_
  refine og_aloadN X0 hx (hb hby d25_7) rfl rfl ?_
  refine og_iloadN X0 hx (hb hby d25_8) rfl ?_
  refine own_callV X0 hx hZ hown (own_hw hw 134 rfl) (own_hw hw 135 rfl) (notFace_of_selects (args := #[]) (mvT hZ (own_hw hw 137 rfl))) (own_hw hw 137 rfl) (own_hw hw 136 rfl) (own_hw hw 138 rfl) (own_hw hw 4 rfl) (by decide) (b := t) (argsL := [(.int 2)]) (rest := []) (own_ca_2_4 l Z a0 hw z sf t b _ _ c2 (.int c0.toInt8.toInt32) (.int c1.toInt8.toInt32) (.int c3.toInt8.toInt32) h0 n0 hO hG hc Et Fv Fc Ab) e0 Et (by rw [hml]; rfl) (lenOf own_pd47939 rfl) rfl (hb hby d25_9) (W := 0) (Nat.le_of_eq rfl) (by decide) ?_
  intro v1 T1 L1 X1 q1
  obtain ⟨rfl, N1q, e1⟩ := q1
  have N1 := Fr.app N0 N1q
  show own_Go p e below _ T1 (mkF m 12 #[rv t, iv 2, iv 4, rv ca, iv 0] [(.int c2)])
  refine og_aloadN X1 hx (hb hby d25_12) rfl rfl ?_
  refine og_iload X1 hx (hb hby d25_13) rfl ?_
  refine og_iloadN X1 hx (hb hby d25_15) rfl ?_
  refine og_iadd X1 hx (hb hby d25_16) ?_
  show own_Go p e below _ T1 (mkF m 17 #[rv t, iv 2, iv 4, rv ca, iv 0] [(.int 2), (.ref ca), (.int c2)])
  refine own_ldC X1 hx hZ e1 Ac ⟨by decide, by decide⟩ rfl (hb hby d25_17) ?_
  show own_Go p e below _ T1 (mkF m 18 #[rv t, iv 2, iv 4, rv ca, iv 0] [(.int c2), (.int c2)])
  refine og_icN X1 hx (hb hby d25_18) (teq rfl).2 ?_
  refine og_iconst X1 hx (hb hby d25_21) ?_
  refine og_goto X1 hx 26 (hb hby d25_22) (by decide) (by decide) ?_
  exact own_retI X1 hx hret hlk (hb hby d25_26) rfl (by simp) (by decide) (by decide) (⟨rfl, N1, e1⟩)
def own_r_own_lca_3_4 : Room := { frames := 2, cells := 0, slots := 0, locals := 27 }
theorem own_lca_3_4 (l : Launch) (Z : State) (a0 : Array Value) (hw : own_W a0 Z) (z : Int32) (sf : Value) (b : Addr) (kb : ClassId) (dv : Value) (ch : Int32) (v0 v1 v2 : Value) (h0 : Heap) (n0 : Nat) (hO : Old Z n0 h0) (hG : own_Gs Z z sf) (hc : ¬ ch < 0 ∧ ¬ (255 : Int32) < ch) (Ab : Arv Z h0 b kb .byte 4 [v0, v1, v2, (.int ch.toInt8.toInt32)] dv) :
    own_Met l Z (⟨"java/lang/StringLatin1", "charAt", "([BI)C"⟩ : MethodName) jdk_43_method_2_code 2 (some .char) own_r_own_lca_3_4 #[(.ref b), (.int 3)] h0 (own_Qv (some (.int ch)) h0 n0) := by
  refine own_body (by decide +kernel) ?_
  intro p e s m below meth c T0 X0 hx hZ hby hml hown hnm hret hlk e0
  have N0 := Fr.nil n0
  refine own_cast (own_frame (L := [rv b, iv 3]) (ls := #[rv b, iv 3]) rfl rfl) ?_
  obtain ⟨SC, hz, SF, rf⟩ := id hG
  refine og_iloadN X0 hx (hb hby d27_0) rfl ?_
  refine og_aloadN X0 hx (hb hby d27_1) rfl rfl ?_
  refine own_len X0 hx hZ e0 Ab (hb hby d27_2) ?_
  show own_Go p e below _ T0 (mkF m 3 #[rv b, iv 3] [(.int 4), (.int 3)])
  refine own_callS X0 hx hZ hown (own_hw hw 142 rfl) (own_hw hw 143 rfl) (own_hw hw 4 rfl) (own_hw hw 144 rfl) (by decide) (argsL := [(.int 3), (.int 4)]) (rest := []) (own_sck l Z a0 hw z sf 3 4 h0 n0 hO hG (by decide) (by decide)) e0 (by rw [hml]; rfl) (lenOf own_pd97226 rfl) rfl (hb hby d27_3) (W := 0) (Nat.le_of_eq rfl) (by decide) ?_
  intro v1 T1 L1 X1 q1
  obtain ⟨rfl, N1q, e1⟩ := q1
  have N1 := Fr.app N0 N1q
  show own_Go p e below _ T1 (mkF m 6 #[rv b, iv 3] [])
  refine og_aloadN X1 hx (hb hby d27_6) rfl rfl ?_
  refine og_iloadN X1 hx (hb hby d27_7) rfl ?_
  refine own_ldB X1 hx hZ e1 Ab ⟨by decide, by decide⟩ rfl (hb hby d27_8) ?_
  show own_Go p e below _ T1 (mkF m 9 #[rv b, iv 3] [(.int ch.toInt8.toInt32)])
  refine og_sipush X1 hx (hb hby d27_9) ?_
  refine og_iand X1 hx (hb hby d27_12) ?_
  show own_Go p e below _ T1 (mkF m 13 #[rv b, iv 3] [(.int (ch.toInt8.toInt32 &&& 255))])
  rw [own_rt ch hc]
  show own_Go p e below _ T1 (mkF m 13 #[rv b, iv 3] [(.int ch)])
  refine own_go (fun t k => XS.i2c X1.here hx rfl (hb hby d27_13) rfl k) ?_
  show own_Go p e below _ T1 (mkF m 14 #[rv b, iv 3] [(.int (ch.toUInt32.toUInt16.toUInt32.toInt32))])
  rw [own_ic ch hc]
  show own_Go p e below _ T1 (mkF m 14 #[rv b, iv 3] [(.int ch)])
  exact own_retI X1 hx hret hlk (hb hby d27_14) (own_nc ch hc) (by simp) (by decide) (by decide) (⟨rfl, N1, e1⟩)
def own_r_own_ca_3_4 : Room := { frames := 3, cells := 0, slots := 0, locals := 40 }
theorem own_ca_3_4 (l : Launch) (Z : State) (a0 : Array Value) (hw : own_W a0 Z) (z : Int32) (sf : Value) (t b : Addr) (kb : ClassId) (dv : Value) (ch : Int32) (v0 v1 v2 : Value) (h0 : Heap) (n0 : Nat) (hO : Old Z n0 h0) (hG : own_Gs Z z sf) (hc : ¬ ch < 0 ∧ ¬ (255 : Int32) < ch) (Et : own_E Z h0 t) (Fv : own_V Z h0 t b) (Fc : own_C Z h0 t) (Ab : Arv Z h0 b kb .byte 4 [v0, v1, v2, (.int ch.toInt8.toInt32)] dv) :
    own_Met l Z (⟨"java/lang/String", "charAt", "(I)C"⟩ : MethodName) jdk_42_method_56_code 2 (some .char) own_r_own_ca_3_4 #[(.ref t), (.int 3)] h0 (own_Qv (some (.int ch)) h0 n0) := by
  refine own_body (by decide +kernel) ?_
  intro p e s m below meth c T0 X0 hx hZ hby hml hown hnm hret hlk e0
  have N0 := Fr.nil n0
  refine own_cast (own_frame (L := [rv t, iv 3]) (ls := #[rv t, iv 3]) rfl rfl) ?_
  obtain ⟨SC, hz, SF, rf⟩ := id hG
  refine og_aloadN X0 hx (hb hby d26_0) rfl rfl ?_
  refine own_callV X0 hx hZ hown (own_hw hw 98 rfl) (own_hw hw 99 rfl) (notFace_of_selects (args := #[]) (mvT hZ (own_hw hw 101 rfl))) (own_hw hw 101 rfl) (own_hw hw 100 rfl) (own_hw hw 102 rfl) (own_hw hw 4 rfl) (by decide) (b := t) (argsL := []) (rest := []) (own_isl1 l Z a0 hw z sf t h0 n0 hO hG Fc) e0 Et (by rw [hml]; rfl) (lenOf own_pd61835 rfl) rfl (hb hby d26_1) (W := 0) (Nat.le_of_eq rfl) (by decide) ?_
  intro v1 T1 L1 X1 q1
  obtain ⟨rfl, N1q, e1⟩ := q1
  have N1 := Fr.app N0 N1q
  show own_Go p e below _ T1 (mkF m 4 #[rv t, iv 3] [(.int (1 : Int32))])
  refine og_ifN X1 hx (hb hby d26_4) (feq (by decide)).1 ?_
  refine og_aloadN X1 hx (hb hby d26_7) rfl rfl ?_
  refine og_getF X1 hx hZ hown (own_hw hw 29 rfl) Via.refl e1 Fv (hb hby d26_8) ?_
  intro T2 X2 e2
  refine og_iloadN X2 hx (hb hby d26_11) rfl ?_
  refine own_callS X2 hx hZ hown (own_hw hw 139 rfl) (own_hw hw 140 rfl) (own_hw hw 105 rfl) (own_hw hw 141 rfl) (by decide) (argsL := [(.ref b), (.int 3)]) (rest := []) (own_lca_3_4 l Z a0 hw z sf b _ _ ch v0 v1 v2 h0 n0 hO hG hc Ab) e2 (by rw [hml]; rfl) (lenOf own_pd27418 rfl) rfl (hb hby d26_12) (W := 0) (Nat.le_of_eq rfl) (by decide) ?_
  intro v3 T3 L3 X3 q3
  obtain ⟨rfl, N3q, e3⟩ := q3
  have N3 := Fr.app N1 N3q
  show own_Go p e below _ T3 (mkF m 15 #[rv t, iv 3] [(.int ch)])
  exact own_retI X3 hx hret hlk (hb hby d26_15) (own_nc ch hc) (by simp) (by decide) (by decide) (⟨rfl, N3, e3⟩)
def own_r_own_at_3_0 : Room := { frames := 4, cells := 0, slots := 0, locals := 53 }
theorem own_at_3_0 (l : Launch) (Z : State) (a0 : Array Value) (hw : own_W a0 Z) (z : Int32) (sf : Value) (t b : Addr) (kb : ClassId) (dv : Value) (ca : Addr) (kc : ClassId) (c0 c1 c2 c3 : Int32) (h0 : Heap) (n0 : Nat) (hO : Old Z n0 h0) (hG : own_Gs Z z sf) (hc : ¬ c3 < 0 ∧ ¬ (255 : Int32) < c3) (Et : own_E Z h0 t) (Fv : own_V Z h0 t b) (Fc : own_C Z h0 t) (Ab : Arv Z h0 b kb .byte 4 [(.int c0.toInt8.toInt32), (.int c1.toInt8.toInt32), (.int c2.toInt8.toInt32), (.int c3.toInt8.toInt32)] dv) (Ac : Arv Z h0 ca kc .char (4 : Int32) [.int c0, .int c1, .int c2, .int c3] (.int (0 : Int32))) :
    own_Met l Z (⟨"com/example/winnow/winnow/contacts/ContentLineValuePinLaw", "at", "(Ljava/lang/String;II[CI)Z"⟩ : MethodName) method_3_code 5 (some .boolean) own_r_own_at_3_0 #[(.ref t), (.int 3), (.int 4), (.ref ca), (.int 0)] h0 (own_Qv (some (.int 1)) h0 n0) := by
  refine own_body (by decide +kernel) ?_
  intro p e s m below meth c T0 X0 hx hZ hby hml hown hnm hret hlk e0
  have N0 := Fr.nil n0
  refine own_cast (own_frame (L := [rv t, iv 3, iv 4, rv ca, iv 0]) (ls := #[rv t, iv 3, iv 4, rv ca, iv 0]) rfl rfl) ?_
  obtain ⟨SC, hz, SF, rf⟩ := id hG
  refine og_iloadN X0 hx (hb hby d25_0) rfl ?_
  refine og_iloadN X0 hx (hb hby d25_1) rfl ?_
  refine og_icY X0 hx 7 (hb hby d25_2) (tlt (by decide)).1 (by decide) (by decide) ?_
  refine og_aloadN X0 hx (hb hby d25_7) rfl rfl ?_
  refine og_iloadN X0 hx (hb hby d25_8) rfl ?_
  refine own_callV X0 hx hZ hown (own_hw hw 134 rfl) (own_hw hw 135 rfl) (notFace_of_selects (args := #[]) (mvT hZ (own_hw hw 137 rfl))) (own_hw hw 137 rfl) (own_hw hw 136 rfl) (own_hw hw 138 rfl) (own_hw hw 4 rfl) (by decide) (b := t) (argsL := [(.int 3)]) (rest := []) (own_ca_3_4 l Z a0 hw z sf t b _ _ c3 (.int c0.toInt8.toInt32) (.int c1.toInt8.toInt32) (.int c2.toInt8.toInt32) h0 n0 hO hG hc Et Fv Fc Ab) e0 Et (by rw [hml]; rfl) (lenOf own_pd47939 rfl) rfl (hb hby d25_9) (W := 0) (Nat.le_of_eq rfl) (by decide) ?_
  intro v1 T1 L1 X1 q1
  obtain ⟨rfl, N1q, e1⟩ := q1
  have N1 := Fr.app N0 N1q
  show own_Go p e below _ T1 (mkF m 12 #[rv t, iv 3, iv 4, rv ca, iv 0] [(.int c3)])
  refine og_aloadN X1 hx (hb hby d25_12) rfl rfl ?_
  refine og_iload X1 hx (hb hby d25_13) rfl ?_
  refine og_iloadN X1 hx (hb hby d25_15) rfl ?_
  refine og_iadd X1 hx (hb hby d25_16) ?_
  show own_Go p e below _ T1 (mkF m 17 #[rv t, iv 3, iv 4, rv ca, iv 0] [(.int 3), (.ref ca), (.int c3)])
  refine own_ldC X1 hx hZ e1 Ac ⟨by decide, by decide⟩ rfl (hb hby d25_17) ?_
  show own_Go p e below _ T1 (mkF m 18 #[rv t, iv 3, iv 4, rv ca, iv 0] [(.int c3), (.int c3)])
  refine og_icN X1 hx (hb hby d25_18) (teq rfl).2 ?_
  refine og_iconst X1 hx (hb hby d25_21) ?_
  refine og_goto X1 hx 26 (hb hby d25_22) (by decide) (by decide) ?_
  exact own_retI X1 hx hret hlk (hb hby d25_26) rfl (by simp) (by decide) (by decide) (⟨rfl, N1, e1⟩)
def own_r_own_lca_0_3 : Room := { frames := 2, cells := 0, slots := 0, locals := 27 }
theorem own_lca_0_3 (l : Launch) (Z : State) (a0 : Array Value) (hw : own_W a0 Z) (z : Int32) (sf : Value) (b : Addr) (kb : ClassId) (dv : Value) (ch : Int32) (v1 v2 : Value) (h0 : Heap) (n0 : Nat) (hO : Old Z n0 h0) (hG : own_Gs Z z sf) (hc : ¬ ch < 0 ∧ ¬ (255 : Int32) < ch) (Ab : Arv Z h0 b kb .byte 3 [(.int ch.toInt8.toInt32), v1, v2] dv) :
    own_Met l Z (⟨"java/lang/StringLatin1", "charAt", "([BI)C"⟩ : MethodName) jdk_43_method_2_code 2 (some .char) own_r_own_lca_0_3 #[(.ref b), (.int 0)] h0 (own_Qv (some (.int ch)) h0 n0) := by
  refine own_body (by decide +kernel) ?_
  intro p e s m below meth c T0 X0 hx hZ hby hml hown hnm hret hlk e0
  have N0 := Fr.nil n0
  refine own_cast (own_frame (L := [rv b, iv 0]) (ls := #[rv b, iv 0]) rfl rfl) ?_
  obtain ⟨SC, hz, SF, rf⟩ := id hG
  refine og_iloadN X0 hx (hb hby d27_0) rfl ?_
  refine og_aloadN X0 hx (hb hby d27_1) rfl rfl ?_
  refine own_len X0 hx hZ e0 Ab (hb hby d27_2) ?_
  show own_Go p e below _ T0 (mkF m 3 #[rv b, iv 0] [(.int 3), (.int 0)])
  refine own_callS X0 hx hZ hown (own_hw hw 142 rfl) (own_hw hw 143 rfl) (own_hw hw 4 rfl) (own_hw hw 144 rfl) (by decide) (argsL := [(.int 0), (.int 3)]) (rest := []) (own_sck l Z a0 hw z sf 0 3 h0 n0 hO hG (by decide) (by decide)) e0 (by rw [hml]; rfl) (lenOf own_pd97226 rfl) rfl (hb hby d27_3) (W := 0) (Nat.le_of_eq rfl) (by decide) ?_
  intro v1 T1 L1 X1 q1
  obtain ⟨rfl, N1q, e1⟩ := q1
  have N1 := Fr.app N0 N1q
  show own_Go p e below _ T1 (mkF m 6 #[rv b, iv 0] [])
  refine og_aloadN X1 hx (hb hby d27_6) rfl rfl ?_
  refine og_iloadN X1 hx (hb hby d27_7) rfl ?_
  refine own_ldB X1 hx hZ e1 Ab ⟨by decide, by decide⟩ rfl (hb hby d27_8) ?_
  show own_Go p e below _ T1 (mkF m 9 #[rv b, iv 0] [(.int ch.toInt8.toInt32)])
  refine og_sipush X1 hx (hb hby d27_9) ?_
  refine og_iand X1 hx (hb hby d27_12) ?_
  show own_Go p e below _ T1 (mkF m 13 #[rv b, iv 0] [(.int (ch.toInt8.toInt32 &&& 255))])
  rw [own_rt ch hc]
  show own_Go p e below _ T1 (mkF m 13 #[rv b, iv 0] [(.int ch)])
  refine own_go (fun t k => XS.i2c X1.here hx rfl (hb hby d27_13) rfl k) ?_
  show own_Go p e below _ T1 (mkF m 14 #[rv b, iv 0] [(.int (ch.toUInt32.toUInt16.toUInt32.toInt32))])
  rw [own_ic ch hc]
  show own_Go p e below _ T1 (mkF m 14 #[rv b, iv 0] [(.int ch)])
  exact own_retI X1 hx hret hlk (hb hby d27_14) (own_nc ch hc) (by simp) (by decide) (by decide) (⟨rfl, N1, e1⟩)
def own_r_own_ca_0_3 : Room := { frames := 3, cells := 0, slots := 0, locals := 40 }
theorem own_ca_0_3 (l : Launch) (Z : State) (a0 : Array Value) (hw : own_W a0 Z) (z : Int32) (sf : Value) (t b : Addr) (kb : ClassId) (dv : Value) (ch : Int32) (v1 v2 : Value) (h0 : Heap) (n0 : Nat) (hO : Old Z n0 h0) (hG : own_Gs Z z sf) (hc : ¬ ch < 0 ∧ ¬ (255 : Int32) < ch) (Et : own_E Z h0 t) (Fv : own_V Z h0 t b) (Fc : own_C Z h0 t) (Ab : Arv Z h0 b kb .byte 3 [(.int ch.toInt8.toInt32), v1, v2] dv) :
    own_Met l Z (⟨"java/lang/String", "charAt", "(I)C"⟩ : MethodName) jdk_42_method_56_code 2 (some .char) own_r_own_ca_0_3 #[(.ref t), (.int 0)] h0 (own_Qv (some (.int ch)) h0 n0) := by
  refine own_body (by decide +kernel) ?_
  intro p e s m below meth c T0 X0 hx hZ hby hml hown hnm hret hlk e0
  have N0 := Fr.nil n0
  refine own_cast (own_frame (L := [rv t, iv 0]) (ls := #[rv t, iv 0]) rfl rfl) ?_
  obtain ⟨SC, hz, SF, rf⟩ := id hG
  refine og_aloadN X0 hx (hb hby d26_0) rfl rfl ?_
  refine own_callV X0 hx hZ hown (own_hw hw 98 rfl) (own_hw hw 99 rfl) (notFace_of_selects (args := #[]) (mvT hZ (own_hw hw 101 rfl))) (own_hw hw 101 rfl) (own_hw hw 100 rfl) (own_hw hw 102 rfl) (own_hw hw 4 rfl) (by decide) (b := t) (argsL := []) (rest := []) (own_isl1 l Z a0 hw z sf t h0 n0 hO hG Fc) e0 Et (by rw [hml]; rfl) (lenOf own_pd61835 rfl) rfl (hb hby d26_1) (W := 0) (Nat.le_of_eq rfl) (by decide) ?_
  intro v1 T1 L1 X1 q1
  obtain ⟨rfl, N1q, e1⟩ := q1
  have N1 := Fr.app N0 N1q
  show own_Go p e below _ T1 (mkF m 4 #[rv t, iv 0] [(.int (1 : Int32))])
  refine og_ifN X1 hx (hb hby d26_4) (feq (by decide)).1 ?_
  refine og_aloadN X1 hx (hb hby d26_7) rfl rfl ?_
  refine og_getF X1 hx hZ hown (own_hw hw 29 rfl) Via.refl e1 Fv (hb hby d26_8) ?_
  intro T2 X2 e2
  refine og_iloadN X2 hx (hb hby d26_11) rfl ?_
  refine own_callS X2 hx hZ hown (own_hw hw 139 rfl) (own_hw hw 140 rfl) (own_hw hw 105 rfl) (own_hw hw 141 rfl) (by decide) (argsL := [(.ref b), (.int 0)]) (rest := []) (own_lca_0_3 l Z a0 hw z sf b _ _ ch v1 v2 h0 n0 hO hG hc Ab) e2 (by rw [hml]; rfl) (lenOf own_pd27418 rfl) rfl (hb hby d26_12) (W := 0) (Nat.le_of_eq rfl) (by decide) ?_
  intro v3 T3 L3 X3 q3
  obtain ⟨rfl, N3q, e3⟩ := q3
  have N3 := Fr.app N1 N3q
  show own_Go p e below _ T3 (mkF m 15 #[rv t, iv 0] [(.int ch)])
  exact own_retI X3 hx hret hlk (hb hby d26_15) (own_nc ch hc) (by simp) (by decide) (by decide) (⟨rfl, N3, e3⟩)
def own_r_own_at_0_1 : Room := { frames := 4, cells := 0, slots := 0, locals := 53 }
theorem own_at_0_1 (l : Launch) (Z : State) (a0 : Array Value) (hw : own_W a0 Z) (z : Int32) (sf : Value) (t b : Addr) (kb : ClassId) (dv : Value) (ca : Addr) (kc : ClassId) (c0 c1 c2 c3 : Int32) (h0 : Heap) (n0 : Nat) (hO : Old Z n0 h0) (hG : own_Gs Z z sf) (hc : ¬ c1 < 0 ∧ ¬ (255 : Int32) < c1) (Et : own_E Z h0 t) (Fv : own_V Z h0 t b) (Fc : own_C Z h0 t) (Ab : Arv Z h0 b kb .byte 3 [(.int c1.toInt8.toInt32), (.int c2.toInt8.toInt32), (.int c3.toInt8.toInt32)] dv) (Ac : Arv Z h0 ca kc .char (4 : Int32) [.int c0, .int c1, .int c2, .int c3] (.int (0 : Int32))) :
    own_Met l Z (⟨"com/example/winnow/winnow/contacts/ContentLineValuePinLaw", "at", "(Ljava/lang/String;II[CI)Z"⟩ : MethodName) method_3_code 5 (some .boolean) own_r_own_at_0_1 #[(.ref t), (.int 0), (.int 3), (.ref ca), (.int 1)] h0 (own_Qv (some (.int 1)) h0 n0) := by
  refine own_body (by decide +kernel) ?_
  intro p e s m below meth c T0 X0 hx hZ hby hml hown hnm hret hlk e0
  have N0 := Fr.nil n0
  refine own_cast (own_frame (L := [rv t, iv 0, iv 3, rv ca, iv 1]) (ls := #[rv t, iv 0, iv 3, rv ca, iv 1]) rfl rfl) ?_
  obtain ⟨SC, hz, SF, rf⟩ := id hG
  refine og_iloadN X0 hx (hb hby d25_0) rfl ?_
  refine og_iloadN X0 hx (hb hby d25_1) rfl ?_
  refine og_icY X0 hx 7 (hb hby d25_2) (tlt (by decide)).1 (by decide) (by decide) ?_
  refine og_aloadN X0 hx (hb hby d25_7) rfl rfl ?_
  refine og_iloadN X0 hx (hb hby d25_8) rfl ?_
  refine own_callV X0 hx hZ hown (own_hw hw 134 rfl) (own_hw hw 135 rfl) (notFace_of_selects (args := #[]) (mvT hZ (own_hw hw 137 rfl))) (own_hw hw 137 rfl) (own_hw hw 136 rfl) (own_hw hw 138 rfl) (own_hw hw 4 rfl) (by decide) (b := t) (argsL := [(.int 0)]) (rest := []) (own_ca_0_3 l Z a0 hw z sf t b _ _ c1 (.int c2.toInt8.toInt32) (.int c3.toInt8.toInt32) h0 n0 hO hG hc Et Fv Fc Ab) e0 Et (by rw [hml]; rfl) (lenOf own_pd47939 rfl) rfl (hb hby d25_9) (W := 0) (Nat.le_of_eq rfl) (by decide) ?_
  intro v1 T1 L1 X1 q1
  obtain ⟨rfl, N1q, e1⟩ := q1
  have N1 := Fr.app N0 N1q
  show own_Go p e below _ T1 (mkF m 12 #[rv t, iv 0, iv 3, rv ca, iv 1] [(.int c1)])
  refine og_aloadN X1 hx (hb hby d25_12) rfl rfl ?_
  refine og_iload X1 hx (hb hby d25_13) rfl ?_
  refine og_iloadN X1 hx (hb hby d25_15) rfl ?_
  refine og_iadd X1 hx (hb hby d25_16) ?_
  show own_Go p e below _ T1 (mkF m 17 #[rv t, iv 0, iv 3, rv ca, iv 1] [(.int 1), (.ref ca), (.int c1)])
  refine own_ldC X1 hx hZ e1 Ac ⟨by decide, by decide⟩ rfl (hb hby d25_17) ?_
  show own_Go p e below _ T1 (mkF m 18 #[rv t, iv 0, iv 3, rv ca, iv 1] [(.int c1), (.int c1)])
  refine og_icN X1 hx (hb hby d25_18) (teq rfl).2 ?_
  refine og_iconst X1 hx (hb hby d25_21) ?_
  refine og_goto X1 hx 26 (hb hby d25_22) (by decide) (by decide) ?_
  exact own_retI X1 hx hret hlk (hb hby d25_26) rfl (by simp) (by decide) (by decide) (⟨rfl, N1, e1⟩)
def own_r_own_lca_1_3 : Room := { frames := 2, cells := 0, slots := 0, locals := 27 }
theorem own_lca_1_3 (l : Launch) (Z : State) (a0 : Array Value) (hw : own_W a0 Z) (z : Int32) (sf : Value) (b : Addr) (kb : ClassId) (dv : Value) (ch : Int32) (v0 v2 : Value) (h0 : Heap) (n0 : Nat) (hO : Old Z n0 h0) (hG : own_Gs Z z sf) (hc : ¬ ch < 0 ∧ ¬ (255 : Int32) < ch) (Ab : Arv Z h0 b kb .byte 3 [v0, (.int ch.toInt8.toInt32), v2] dv) :
    own_Met l Z (⟨"java/lang/StringLatin1", "charAt", "([BI)C"⟩ : MethodName) jdk_43_method_2_code 2 (some .char) own_r_own_lca_1_3 #[(.ref b), (.int 1)] h0 (own_Qv (some (.int ch)) h0 n0) := by
  refine own_body (by decide +kernel) ?_
  intro p e s m below meth c T0 X0 hx hZ hby hml hown hnm hret hlk e0
  have N0 := Fr.nil n0
  refine own_cast (own_frame (L := [rv b, iv 1]) (ls := #[rv b, iv 1]) rfl rfl) ?_
  obtain ⟨SC, hz, SF, rf⟩ := id hG
  refine og_iloadN X0 hx (hb hby d27_0) rfl ?_
  refine og_aloadN X0 hx (hb hby d27_1) rfl rfl ?_
  refine own_len X0 hx hZ e0 Ab (hb hby d27_2) ?_
  show own_Go p e below _ T0 (mkF m 3 #[rv b, iv 1] [(.int 3), (.int 1)])
  refine own_callS X0 hx hZ hown (own_hw hw 142 rfl) (own_hw hw 143 rfl) (own_hw hw 4 rfl) (own_hw hw 144 rfl) (by decide) (argsL := [(.int 1), (.int 3)]) (rest := []) (own_sck l Z a0 hw z sf 1 3 h0 n0 hO hG (by decide) (by decide)) e0 (by rw [hml]; rfl) (lenOf own_pd97226 rfl) rfl (hb hby d27_3) (W := 0) (Nat.le_of_eq rfl) (by decide) ?_
  intro v1 T1 L1 X1 q1
  obtain ⟨rfl, N1q, e1⟩ := q1
  have N1 := Fr.app N0 N1q
  show own_Go p e below _ T1 (mkF m 6 #[rv b, iv 1] [])
  refine og_aloadN X1 hx (hb hby d27_6) rfl rfl ?_
  refine og_iloadN X1 hx (hb hby d27_7) rfl ?_
  refine own_ldB X1 hx hZ e1 Ab ⟨by decide, by decide⟩ rfl (hb hby d27_8) ?_
  show own_Go p e below _ T1 (mkF m 9 #[rv b, iv 1] [(.int ch.toInt8.toInt32)])
  refine og_sipush X1 hx (hb hby d27_9) ?_
  refine og_iand X1 hx (hb hby d27_12) ?_
  show own_Go p e below _ T1 (mkF m 13 #[rv b, iv 1] [(.int (ch.toInt8.toInt32 &&& 255))])
  rw [own_rt ch hc]
  show own_Go p e below _ T1 (mkF m 13 #[rv b, iv 1] [(.int ch)])
  refine own_go (fun t k => XS.i2c X1.here hx rfl (hb hby d27_13) rfl k) ?_
  show own_Go p e below _ T1 (mkF m 14 #[rv b, iv 1] [(.int (ch.toUInt32.toUInt16.toUInt32.toInt32))])
  rw [own_ic ch hc]
  show own_Go p e below _ T1 (mkF m 14 #[rv b, iv 1] [(.int ch)])
  exact own_retI X1 hx hret hlk (hb hby d27_14) (own_nc ch hc) (by simp) (by decide) (by decide) (⟨rfl, N1, e1⟩)
def own_r_own_ca_1_3 : Room := { frames := 3, cells := 0, slots := 0, locals := 40 }
theorem own_ca_1_3 (l : Launch) (Z : State) (a0 : Array Value) (hw : own_W a0 Z) (z : Int32) (sf : Value) (t b : Addr) (kb : ClassId) (dv : Value) (ch : Int32) (v0 v2 : Value) (h0 : Heap) (n0 : Nat) (hO : Old Z n0 h0) (hG : own_Gs Z z sf) (hc : ¬ ch < 0 ∧ ¬ (255 : Int32) < ch) (Et : own_E Z h0 t) (Fv : own_V Z h0 t b) (Fc : own_C Z h0 t) (Ab : Arv Z h0 b kb .byte 3 [v0, (.int ch.toInt8.toInt32), v2] dv) :
    own_Met l Z (⟨"java/lang/String", "charAt", "(I)C"⟩ : MethodName) jdk_42_method_56_code 2 (some .char) own_r_own_ca_1_3 #[(.ref t), (.int 1)] h0 (own_Qv (some (.int ch)) h0 n0) := by
  refine own_body (by decide +kernel) ?_
  intro p e s m below meth c T0 X0 hx hZ hby hml hown hnm hret hlk e0
  have N0 := Fr.nil n0
  refine own_cast (own_frame (L := [rv t, iv 1]) (ls := #[rv t, iv 1]) rfl rfl) ?_
  obtain ⟨SC, hz, SF, rf⟩ := id hG
  refine og_aloadN X0 hx (hb hby d26_0) rfl rfl ?_
  refine own_callV X0 hx hZ hown (own_hw hw 98 rfl) (own_hw hw 99 rfl) (notFace_of_selects (args := #[]) (mvT hZ (own_hw hw 101 rfl))) (own_hw hw 101 rfl) (own_hw hw 100 rfl) (own_hw hw 102 rfl) (own_hw hw 4 rfl) (by decide) (b := t) (argsL := []) (rest := []) (own_isl1 l Z a0 hw z sf t h0 n0 hO hG Fc) e0 Et (by rw [hml]; rfl) (lenOf own_pd61835 rfl) rfl (hb hby d26_1) (W := 0) (Nat.le_of_eq rfl) (by decide) ?_
  intro v1 T1 L1 X1 q1
  obtain ⟨rfl, N1q, e1⟩ := q1
  have N1 := Fr.app N0 N1q
  show own_Go p e below _ T1 (mkF m 4 #[rv t, iv 1] [(.int (1 : Int32))])
  refine og_ifN X1 hx (hb hby d26_4) (feq (by decide)).1 ?_
  refine og_aloadN X1 hx (hb hby d26_7) rfl rfl ?_
  refine og_getF X1 hx hZ hown (own_hw hw 29 rfl) Via.refl e1 Fv (hb hby d26_8) ?_
  intro T2 X2 e2
  refine og_iloadN X2 hx (hb hby d26_11) rfl ?_
  refine own_callS X2 hx hZ hown (own_hw hw 139 rfl) (own_hw hw 140 rfl) (own_hw hw 105 rfl) (own_hw hw 141 rfl) (by decide) (argsL := [(.ref b), (.int 1)]) (rest := []) (own_lca_1_3 l Z a0 hw z sf b _ _ ch v0 v2 h0 n0 hO hG hc Ab) e2 (by rw [hml]; rfl) (lenOf own_pd27418 rfl) rfl (hb hby d26_12) (W := 0) (Nat.le_of_eq rfl) (by decide) ?_
  intro v3 T3 L3 X3 q3
  obtain ⟨rfl, N3q, e3⟩ := q3
  have N3 := Fr.app N1 N3q
  show own_Go p e below _ T3 (mkF m 15 #[rv t, iv 1] [(.int ch)])
  exact own_retI X3 hx hret hlk (hb hby d26_15) (own_nc ch hc) (by simp) (by decide) (by decide) (⟨rfl, N3, e3⟩)
def own_r_own_at_1_1 : Room := { frames := 4, cells := 0, slots := 0, locals := 53 }
theorem own_at_1_1 (l : Launch) (Z : State) (a0 : Array Value) (hw : own_W a0 Z) (z : Int32) (sf : Value) (t b : Addr) (kb : ClassId) (dv : Value) (ca : Addr) (kc : ClassId) (c0 c1 c2 c3 : Int32) (h0 : Heap) (n0 : Nat) (hO : Old Z n0 h0) (hG : own_Gs Z z sf) (hc : ¬ c2 < 0 ∧ ¬ (255 : Int32) < c2) (Et : own_E Z h0 t) (Fv : own_V Z h0 t b) (Fc : own_C Z h0 t) (Ab : Arv Z h0 b kb .byte 3 [(.int c1.toInt8.toInt32), (.int c2.toInt8.toInt32), (.int c3.toInt8.toInt32)] dv) (Ac : Arv Z h0 ca kc .char (4 : Int32) [.int c0, .int c1, .int c2, .int c3] (.int (0 : Int32))) :
    own_Met l Z (⟨"com/example/winnow/winnow/contacts/ContentLineValuePinLaw", "at", "(Ljava/lang/String;II[CI)Z"⟩ : MethodName) method_3_code 5 (some .boolean) own_r_own_at_1_1 #[(.ref t), (.int 1), (.int 3), (.ref ca), (.int 1)] h0 (own_Qv (some (.int 1)) h0 n0) := by
  refine own_body (by decide +kernel) ?_
  intro p e s m below meth c T0 X0 hx hZ hby hml hown hnm hret hlk e0
  have N0 := Fr.nil n0
  refine own_cast (own_frame (L := [rv t, iv 1, iv 3, rv ca, iv 1]) (ls := #[rv t, iv 1, iv 3, rv ca, iv 1]) rfl rfl) ?_
  obtain ⟨SC, hz, SF, rf⟩ := id hG
  refine og_iloadN X0 hx (hb hby d25_0) rfl ?_
  refine og_iloadN X0 hx (hb hby d25_1) rfl ?_
  refine og_icY X0 hx 7 (hb hby d25_2) (tlt (by decide)).1 (by decide) (by decide) ?_
  refine og_aloadN X0 hx (hb hby d25_7) rfl rfl ?_
  refine og_iloadN X0 hx (hb hby d25_8) rfl ?_
  refine own_callV X0 hx hZ hown (own_hw hw 134 rfl) (own_hw hw 135 rfl) (notFace_of_selects (args := #[]) (mvT hZ (own_hw hw 137 rfl))) (own_hw hw 137 rfl) (own_hw hw 136 rfl) (own_hw hw 138 rfl) (own_hw hw 4 rfl) (by decide) (b := t) (argsL := [(.int 1)]) (rest := []) (own_ca_1_3 l Z a0 hw z sf t b _ _ c2 (.int c1.toInt8.toInt32) (.int c3.toInt8.toInt32) h0 n0 hO hG hc Et Fv Fc Ab) e0 Et (by rw [hml]; rfl) (lenOf own_pd47939 rfl) rfl (hb hby d25_9) (W := 0) (Nat.le_of_eq rfl) (by decide) ?_
  intro v1 T1 L1 X1 q1
  obtain ⟨rfl, N1q, e1⟩ := q1
  have N1 := Fr.app N0 N1q
  show own_Go p e below _ T1 (mkF m 12 #[rv t, iv 1, iv 3, rv ca, iv 1] [(.int c2)])
  refine og_aloadN X1 hx (hb hby d25_12) rfl rfl ?_
  refine og_iload X1 hx (hb hby d25_13) rfl ?_
  refine og_iloadN X1 hx (hb hby d25_15) rfl ?_
  refine og_iadd X1 hx (hb hby d25_16) ?_
  show own_Go p e below _ T1 (mkF m 17 #[rv t, iv 1, iv 3, rv ca, iv 1] [(.int 2), (.ref ca), (.int c2)])
  refine own_ldC X1 hx hZ e1 Ac ⟨by decide, by decide⟩ rfl (hb hby d25_17) ?_
  show own_Go p e below _ T1 (mkF m 18 #[rv t, iv 1, iv 3, rv ca, iv 1] [(.int c2), (.int c2)])
  refine og_icN X1 hx (hb hby d25_18) (teq rfl).2 ?_
  refine og_iconst X1 hx (hb hby d25_21) ?_
  refine og_goto X1 hx 26 (hb hby d25_22) (by decide) (by decide) ?_
  exact own_retI X1 hx hret hlk (hb hby d25_26) rfl (by simp) (by decide) (by decide) (⟨rfl, N1, e1⟩)
def own_r_own_lca_2_3 : Room := { frames := 2, cells := 0, slots := 0, locals := 27 }
theorem own_lca_2_3 (l : Launch) (Z : State) (a0 : Array Value) (hw : own_W a0 Z) (z : Int32) (sf : Value) (b : Addr) (kb : ClassId) (dv : Value) (ch : Int32) (v0 v1 : Value) (h0 : Heap) (n0 : Nat) (hO : Old Z n0 h0) (hG : own_Gs Z z sf) (hc : ¬ ch < 0 ∧ ¬ (255 : Int32) < ch) (Ab : Arv Z h0 b kb .byte 3 [v0, v1, (.int ch.toInt8.toInt32)] dv) :
    own_Met l Z (⟨"java/lang/StringLatin1", "charAt", "([BI)C"⟩ : MethodName) jdk_43_method_2_code 2 (some .char) own_r_own_lca_2_3 #[(.ref b), (.int 2)] h0 (own_Qv (some (.int ch)) h0 n0) := by
  refine own_body (by decide +kernel) ?_
  intro p e s m below meth c T0 X0 hx hZ hby hml hown hnm hret hlk e0
  have N0 := Fr.nil n0
  refine own_cast (own_frame (L := [rv b, iv 2]) (ls := #[rv b, iv 2]) rfl rfl) ?_
  obtain ⟨SC, hz, SF, rf⟩ := id hG
  refine og_iloadN X0 hx (hb hby d27_0) rfl ?_
  refine og_aloadN X0 hx (hb hby d27_1) rfl rfl ?_
  refine own_len X0 hx hZ e0 Ab (hb hby d27_2) ?_
  show own_Go p e below _ T0 (mkF m 3 #[rv b, iv 2] [(.int 3), (.int 2)])
  refine own_callS X0 hx hZ hown (own_hw hw 142 rfl) (own_hw hw 143 rfl) (own_hw hw 4 rfl) (own_hw hw 144 rfl) (by decide) (argsL := [(.int 2), (.int 3)]) (rest := []) (own_sck l Z a0 hw z sf 2 3 h0 n0 hO hG (by decide) (by decide)) e0 (by rw [hml]; rfl) (lenOf own_pd97226 rfl) rfl (hb hby d27_3) (W := 0) (Nat.le_of_eq rfl) (by decide) ?_
  intro v1 T1 L1 X1 q1
  obtain ⟨rfl, N1q, e1⟩ := q1
  have N1 := Fr.app N0 N1q
  show own_Go p e below _ T1 (mkF m 6 #[rv b, iv 2] [])
  refine og_aloadN X1 hx (hb hby d27_6) rfl rfl ?_
  refine og_iloadN X1 hx (hb hby d27_7) rfl ?_
  refine own_ldB X1 hx hZ e1 Ab ⟨by decide, by decide⟩ rfl (hb hby d27_8) ?_
  show own_Go p e below _ T1 (mkF m 9 #[rv b, iv 2] [(.int ch.toInt8.toInt32)])
  refine og_sipush X1 hx (hb hby d27_9) ?_
  refine og_iand X1 hx (hb hby d27_12) ?_
  show own_Go p e below _ T1 (mkF m 13 #[rv b, iv 2] [(.int (ch.toInt8.toInt32 &&& 255))])
  rw [own_rt ch hc]
  show own_Go p e below _ T1 (mkF m 13 #[rv b, iv 2] [(.int ch)])
  refine own_go (fun t k => XS.i2c X1.here hx rfl (hb hby d27_13) rfl k) ?_
  show own_Go p e below _ T1 (mkF m 14 #[rv b, iv 2] [(.int (ch.toUInt32.toUInt16.toUInt32.toInt32))])
  rw [own_ic ch hc]
  show own_Go p e below _ T1 (mkF m 14 #[rv b, iv 2] [(.int ch)])
  exact own_retI X1 hx hret hlk (hb hby d27_14) (own_nc ch hc) (by simp) (by decide) (by decide) (⟨rfl, N1, e1⟩)
def own_r_own_ca_2_3 : Room := { frames := 3, cells := 0, slots := 0, locals := 40 }
theorem own_ca_2_3 (l : Launch) (Z : State) (a0 : Array Value) (hw : own_W a0 Z) (z : Int32) (sf : Value) (t b : Addr) (kb : ClassId) (dv : Value) (ch : Int32) (v0 v1 : Value) (h0 : Heap) (n0 : Nat) (hO : Old Z n0 h0) (hG : own_Gs Z z sf) (hc : ¬ ch < 0 ∧ ¬ (255 : Int32) < ch) (Et : own_E Z h0 t) (Fv : own_V Z h0 t b) (Fc : own_C Z h0 t) (Ab : Arv Z h0 b kb .byte 3 [v0, v1, (.int ch.toInt8.toInt32)] dv) :
    own_Met l Z (⟨"java/lang/String", "charAt", "(I)C"⟩ : MethodName) jdk_42_method_56_code 2 (some .char) own_r_own_ca_2_3 #[(.ref t), (.int 2)] h0 (own_Qv (some (.int ch)) h0 n0) := by
  refine own_body (by decide +kernel) ?_
  intro p e s m below meth c T0 X0 hx hZ hby hml hown hnm hret hlk e0
  have N0 := Fr.nil n0
  refine own_cast (own_frame (L := [rv t, iv 2]) (ls := #[rv t, iv 2]) rfl rfl) ?_
  obtain ⟨SC, hz, SF, rf⟩ := id hG
  refine og_aloadN X0 hx (hb hby d26_0) rfl rfl ?_
  refine own_callV X0 hx hZ hown (own_hw hw 98 rfl) (own_hw hw 99 rfl) (notFace_of_selects (args := #[]) (mvT hZ (own_hw hw 101 rfl))) (own_hw hw 101 rfl) (own_hw hw 100 rfl) (own_hw hw 102 rfl) (own_hw hw 4 rfl) (by decide) (b := t) (argsL := []) (rest := []) (own_isl1 l Z a0 hw z sf t h0 n0 hO hG Fc) e0 Et (by rw [hml]; rfl) (lenOf own_pd61835 rfl) rfl (hb hby d26_1) (W := 0) (Nat.le_of_eq rfl) (by decide) ?_
  intro v1 T1 L1 X1 q1
  obtain ⟨rfl, N1q, e1⟩ := q1
  have N1 := Fr.app N0 N1q
  show own_Go p e below _ T1 (mkF m 4 #[rv t, iv 2] [(.int (1 : Int32))])
  refine og_ifN X1 hx (hb hby d26_4) (feq (by decide)).1 ?_
  refine og_aloadN X1 hx (hb hby d26_7) rfl rfl ?_
  refine og_getF X1 hx hZ hown (own_hw hw 29 rfl) Via.refl e1 Fv (hb hby d26_8) ?_
  intro T2 X2 e2
  refine og_iloadN X2 hx (hb hby d26_11) rfl ?_
  refine own_callS X2 hx hZ hown (own_hw hw 139 rfl) (own_hw hw 140 rfl) (own_hw hw 105 rfl) (own_hw hw 141 rfl) (by decide) (argsL := [(.ref b), (.int 2)]) (rest := []) (own_lca_2_3 l Z a0 hw z sf b _ _ ch v0 v1 h0 n0 hO hG hc Ab) e2 (by rw [hml]; rfl) (lenOf own_pd27418 rfl) rfl (hb hby d26_12) (W := 0) (Nat.le_of_eq rfl) (by decide) ?_
  intro v3 T3 L3 X3 q3
  obtain ⟨rfl, N3q, e3⟩ := q3
  have N3 := Fr.app N1 N3q
  show own_Go p e below _ T3 (mkF m 15 #[rv t, iv 2] [(.int ch)])
  exact own_retI X3 hx hret hlk (hb hby d26_15) (own_nc ch hc) (by simp) (by decide) (by decide) (⟨rfl, N3, e3⟩)
def own_r_own_at_2_1 : Room := { frames := 4, cells := 0, slots := 0, locals := 53 }
theorem own_at_2_1 (l : Launch) (Z : State) (a0 : Array Value) (hw : own_W a0 Z) (z : Int32) (sf : Value) (t b : Addr) (kb : ClassId) (dv : Value) (ca : Addr) (kc : ClassId) (c0 c1 c2 c3 : Int32) (h0 : Heap) (n0 : Nat) (hO : Old Z n0 h0) (hG : own_Gs Z z sf) (hc : ¬ c3 < 0 ∧ ¬ (255 : Int32) < c3) (Et : own_E Z h0 t) (Fv : own_V Z h0 t b) (Fc : own_C Z h0 t) (Ab : Arv Z h0 b kb .byte 3 [(.int c1.toInt8.toInt32), (.int c2.toInt8.toInt32), (.int c3.toInt8.toInt32)] dv) (Ac : Arv Z h0 ca kc .char (4 : Int32) [.int c0, .int c1, .int c2, .int c3] (.int (0 : Int32))) :
    own_Met l Z (⟨"com/example/winnow/winnow/contacts/ContentLineValuePinLaw", "at", "(Ljava/lang/String;II[CI)Z"⟩ : MethodName) method_3_code 5 (some .boolean) own_r_own_at_2_1 #[(.ref t), (.int 2), (.int 3), (.ref ca), (.int 1)] h0 (own_Qv (some (.int 1)) h0 n0) := by
  refine own_body (by decide +kernel) ?_
  intro p e s m below meth c T0 X0 hx hZ hby hml hown hnm hret hlk e0
  have N0 := Fr.nil n0
  refine own_cast (own_frame (L := [rv t, iv 2, iv 3, rv ca, iv 1]) (ls := #[rv t, iv 2, iv 3, rv ca, iv 1]) rfl rfl) ?_
  obtain ⟨SC, hz, SF, rf⟩ := id hG
  refine og_iloadN X0 hx (hb hby d25_0) rfl ?_
  refine og_iloadN X0 hx (hb hby d25_1) rfl ?_
  refine og_icY X0 hx 7 (hb hby d25_2) (tlt (by decide)).1 (by decide) (by decide) ?_
  refine og_aloadN X0 hx (hb hby d25_7) rfl rfl ?_
  refine og_iloadN X0 hx (hb hby d25_8) rfl ?_
  refine own_callV X0 hx hZ hown (own_hw hw 134 rfl) (own_hw hw 135 rfl) (notFace_of_selects (args := #[]) (mvT hZ (own_hw hw 137 rfl))) (own_hw hw 137 rfl) (own_hw hw 136 rfl) (own_hw hw 138 rfl) (own_hw hw 4 rfl) (by decide) (b := t) (argsL := [(.int 2)]) (rest := []) (own_ca_2_3 l Z a0 hw z sf t b _ _ c3 (.int c1.toInt8.toInt32) (.int c2.toInt8.toInt32) h0 n0 hO hG hc Et Fv Fc Ab) e0 Et (by rw [hml]; rfl) (lenOf own_pd47939 rfl) rfl (hb hby d25_9) (W := 0) (Nat.le_of_eq rfl) (by decide) ?_
  intro v1 T1 L1 X1 q1
  obtain ⟨rfl, N1q, e1⟩ := q1
  have N1 := Fr.app N0 N1q
  show own_Go p e below _ T1 (mkF m 12 #[rv t, iv 2, iv 3, rv ca, iv 1] [(.int c3)])
  refine og_aloadN X1 hx (hb hby d25_12) rfl rfl ?_
  refine og_iload X1 hx (hb hby d25_13) rfl ?_
  refine og_iloadN X1 hx (hb hby d25_15) rfl ?_
  refine og_iadd X1 hx (hb hby d25_16) ?_
  show own_Go p e below _ T1 (mkF m 17 #[rv t, iv 2, iv 3, rv ca, iv 1] [(.int 3), (.ref ca), (.int c3)])
  refine own_ldC X1 hx hZ e1 Ac ⟨by decide, by decide⟩ rfl (hb hby d25_17) ?_
  show own_Go p e below _ T1 (mkF m 18 #[rv t, iv 2, iv 3, rv ca, iv 1] [(.int c3), (.int c3)])
  refine og_icN X1 hx (hb hby d25_18) (teq rfl).2 ?_
  refine og_iconst X1 hx (hb hby d25_21) ?_
  refine og_goto X1 hx 26 (hb hby d25_22) (by decide) (by decide) ?_
  exact own_retI X1 hx hret hlk (hb hby d25_26) rfl (by simp) (by decide) (by decide) (⟨rfl, N1, e1⟩)
theorem d25_5 : decode method_3_code 5 = .ok (.iconst 1, 1) := by decide +kernel
theorem d25_6 : decode method_3_code 6 = .ok (.ireturn, 1) := by decide +kernel
def own_r_own_at_3_1 : Room := { frames := 0, cells := 0, slots := 0, locals := 0 }
theorem own_at_3_1 (l : Launch) (Z : State) (a0 : Array Value) (hw : own_W a0 Z) (t ca : Addr) (h0 : Heap) (n0 : Nat)  :
    own_Met l Z (⟨"com/example/winnow/winnow/contacts/ContentLineValuePinLaw", "at", "(Ljava/lang/String;II[CI)Z"⟩ : MethodName) method_3_code 5 (some .boolean) own_r_own_at_3_1 #[(.ref t), (.int 3), (.int 3), (.ref ca), (.int 1)] h0 (own_Qv (some (.int 1)) h0 n0) := by
  refine own_body (by decide +kernel) ?_
  intro p e s m below meth c T0 X0 hx hZ hby hml hown hnm hret hlk e0
  have N0 := Fr.nil n0
  refine own_cast (own_frame (L := [rv t, iv 3, iv 3, rv ca, iv 1]) (ls := #[rv t, iv 3, iv 3, rv ca, iv 1]) rfl rfl) ?_
  refine og_iloadN X0 hx (hb hby d25_0) rfl ?_
  refine og_iloadN X0 hx (hb hby d25_1) rfl ?_
  refine og_icN X0 hx (hb hby d25_2) (flt (by decide)).1 ?_
  refine og_iconst X0 hx (hb hby d25_5) ?_
  exact own_retI X0 hx hret hlk (hb hby d25_6) rfl (by simp) (by decide) (by decide) (⟨rfl, N0, e0⟩)
def own_r_own_lca_0_2 : Room := { frames := 2, cells := 0, slots := 0, locals := 27 }
theorem own_lca_0_2 (l : Launch) (Z : State) (a0 : Array Value) (hw : own_W a0 Z) (z : Int32) (sf : Value) (b : Addr) (kb : ClassId) (dv : Value) (ch : Int32) (v1 : Value) (h0 : Heap) (n0 : Nat) (hO : Old Z n0 h0) (hG : own_Gs Z z sf) (hc : ¬ ch < 0 ∧ ¬ (255 : Int32) < ch) (Ab : Arv Z h0 b kb .byte 2 [(.int ch.toInt8.toInt32), v1] dv) :
    own_Met l Z (⟨"java/lang/StringLatin1", "charAt", "([BI)C"⟩ : MethodName) jdk_43_method_2_code 2 (some .char) own_r_own_lca_0_2 #[(.ref b), (.int 0)] h0 (own_Qv (some (.int ch)) h0 n0) := by
  refine own_body (by decide +kernel) ?_
  intro p e s m below meth c T0 X0 hx hZ hby hml hown hnm hret hlk e0
  have N0 := Fr.nil n0
  refine own_cast (own_frame (L := [rv b, iv 0]) (ls := #[rv b, iv 0]) rfl rfl) ?_
  obtain ⟨SC, hz, SF, rf⟩ := id hG
  refine og_iloadN X0 hx (hb hby d27_0) rfl ?_
  refine og_aloadN X0 hx (hb hby d27_1) rfl rfl ?_
  refine own_len X0 hx hZ e0 Ab (hb hby d27_2) ?_
  show own_Go p e below _ T0 (mkF m 3 #[rv b, iv 0] [(.int 2), (.int 0)])
  refine own_callS X0 hx hZ hown (own_hw hw 142 rfl) (own_hw hw 143 rfl) (own_hw hw 4 rfl) (own_hw hw 144 rfl) (by decide) (argsL := [(.int 0), (.int 2)]) (rest := []) (own_sck l Z a0 hw z sf 0 2 h0 n0 hO hG (by decide) (by decide)) e0 (by rw [hml]; rfl) (lenOf own_pd97226 rfl) rfl (hb hby d27_3) (W := 0) (Nat.le_of_eq rfl) (by decide) ?_
  intro v1 T1 L1 X1 q1
  obtain ⟨rfl, N1q, e1⟩ := q1
  have N1 := Fr.app N0 N1q
  show own_Go p e below _ T1 (mkF m 6 #[rv b, iv 0] [])
  refine og_aloadN X1 hx (hb hby d27_6) rfl rfl ?_
  refine og_iloadN X1 hx (hb hby d27_7) rfl ?_
  refine own_ldB X1 hx hZ e1 Ab ⟨by decide, by decide⟩ rfl (hb hby d27_8) ?_
  show own_Go p e below _ T1 (mkF m 9 #[rv b, iv 0] [(.int ch.toInt8.toInt32)])
  refine og_sipush X1 hx (hb hby d27_9) ?_
  refine og_iand X1 hx (hb hby d27_12) ?_
  show own_Go p e below _ T1 (mkF m 13 #[rv b, iv 0] [(.int (ch.toInt8.toInt32 &&& 255))])
  rw [own_rt ch hc]
  show own_Go p e below _ T1 (mkF m 13 #[rv b, iv 0] [(.int ch)])
  refine own_go (fun t k => XS.i2c X1.here hx rfl (hb hby d27_13) rfl k) ?_
  show own_Go p e below _ T1 (mkF m 14 #[rv b, iv 0] [(.int (ch.toUInt32.toUInt16.toUInt32.toInt32))])
  rw [own_ic ch hc]
  show own_Go p e below _ T1 (mkF m 14 #[rv b, iv 0] [(.int ch)])
  exact own_retI X1 hx hret hlk (hb hby d27_14) (own_nc ch hc) (by simp) (by decide) (by decide) (⟨rfl, N1, e1⟩)
def own_r_own_ca_0_2 : Room := { frames := 3, cells := 0, slots := 0, locals := 40 }
theorem own_ca_0_2 (l : Launch) (Z : State) (a0 : Array Value) (hw : own_W a0 Z) (z : Int32) (sf : Value) (t b : Addr) (kb : ClassId) (dv : Value) (ch : Int32) (v1 : Value) (h0 : Heap) (n0 : Nat) (hO : Old Z n0 h0) (hG : own_Gs Z z sf) (hc : ¬ ch < 0 ∧ ¬ (255 : Int32) < ch) (Et : own_E Z h0 t) (Fv : own_V Z h0 t b) (Fc : own_C Z h0 t) (Ab : Arv Z h0 b kb .byte 2 [(.int ch.toInt8.toInt32), v1] dv) :
    own_Met l Z (⟨"java/lang/String", "charAt", "(I)C"⟩ : MethodName) jdk_42_method_56_code 2 (some .char) own_r_own_ca_0_2 #[(.ref t), (.int 0)] h0 (own_Qv (some (.int ch)) h0 n0) := by
  refine own_body (by decide +kernel) ?_
  intro p e s m below meth c T0 X0 hx hZ hby hml hown hnm hret hlk e0
  have N0 := Fr.nil n0
  refine own_cast (own_frame (L := [rv t, iv 0]) (ls := #[rv t, iv 0]) rfl rfl) ?_
  obtain ⟨SC, hz, SF, rf⟩ := id hG
  refine og_aloadN X0 hx (hb hby d26_0) rfl rfl ?_
  refine own_callV X0 hx hZ hown (own_hw hw 98 rfl) (own_hw hw 99 rfl) (notFace_of_selects (args := #[]) (mvT hZ (own_hw hw 101 rfl))) (own_hw hw 101 rfl) (own_hw hw 100 rfl) (own_hw hw 102 rfl) (own_hw hw 4 rfl) (by decide) (b := t) (argsL := []) (rest := []) (own_isl1 l Z a0 hw z sf t h0 n0 hO hG Fc) e0 Et (by rw [hml]; rfl) (lenOf own_pd61835 rfl) rfl (hb hby d26_1) (W := 0) (Nat.le_of_eq rfl) (by decide) ?_
  intro v1 T1 L1 X1 q1
  obtain ⟨rfl, N1q, e1⟩ := q1
  have N1 := Fr.app N0 N1q
  show own_Go p e below _ T1 (mkF m 4 #[rv t, iv 0] [(.int (1 : Int32))])
  refine og_ifN X1 hx (hb hby d26_4) (feq (by decide)).1 ?_
  refine og_aloadN X1 hx (hb hby d26_7) rfl rfl ?_
  refine og_getF X1 hx hZ hown (own_hw hw 29 rfl) Via.refl e1 Fv (hb hby d26_8) ?_
  intro T2 X2 e2
  refine og_iloadN X2 hx (hb hby d26_11) rfl ?_
  refine own_callS X2 hx hZ hown (own_hw hw 139 rfl) (own_hw hw 140 rfl) (own_hw hw 105 rfl) (own_hw hw 141 rfl) (by decide) (argsL := [(.ref b), (.int 0)]) (rest := []) (own_lca_0_2 l Z a0 hw z sf b _ _ ch v1 h0 n0 hO hG hc Ab) e2 (by rw [hml]; rfl) (lenOf own_pd27418 rfl) rfl (hb hby d26_12) (W := 0) (Nat.le_of_eq rfl) (by decide) ?_
  intro v3 T3 L3 X3 q3
  obtain ⟨rfl, N3q, e3⟩ := q3
  have N3 := Fr.app N1 N3q
  show own_Go p e below _ T3 (mkF m 15 #[rv t, iv 0] [(.int ch)])
  exact own_retI X3 hx hret hlk (hb hby d26_15) (own_nc ch hc) (by simp) (by decide) (by decide) (⟨rfl, N3, e3⟩)
def own_r_own_at_0_2 : Room := { frames := 4, cells := 0, slots := 0, locals := 53 }
theorem own_at_0_2 (l : Launch) (Z : State) (a0 : Array Value) (hw : own_W a0 Z) (z : Int32) (sf : Value) (t b : Addr) (kb : ClassId) (dv : Value) (ca : Addr) (kc : ClassId) (c0 c1 c2 c3 : Int32) (h0 : Heap) (n0 : Nat) (hO : Old Z n0 h0) (hG : own_Gs Z z sf) (hc : ¬ c2 < 0 ∧ ¬ (255 : Int32) < c2) (Et : own_E Z h0 t) (Fv : own_V Z h0 t b) (Fc : own_C Z h0 t) (Ab : Arv Z h0 b kb .byte 2 [(.int c2.toInt8.toInt32), (.int c3.toInt8.toInt32)] dv) (Ac : Arv Z h0 ca kc .char (4 : Int32) [.int c0, .int c1, .int c2, .int c3] (.int (0 : Int32))) :
    own_Met l Z (⟨"com/example/winnow/winnow/contacts/ContentLineValuePinLaw", "at", "(Ljava/lang/String;II[CI)Z"⟩ : MethodName) method_3_code 5 (some .boolean) own_r_own_at_0_2 #[(.ref t), (.int 0), (.int 2), (.ref ca), (.int 2)] h0 (own_Qv (some (.int 1)) h0 n0) := by
  refine own_body (by decide +kernel) ?_
  intro p e s m below meth c T0 X0 hx hZ hby hml hown hnm hret hlk e0
  have N0 := Fr.nil n0
  refine own_cast (own_frame (L := [rv t, iv 0, iv 2, rv ca, iv 2]) (ls := #[rv t, iv 0, iv 2, rv ca, iv 2]) rfl rfl) ?_
  obtain ⟨SC, hz, SF, rf⟩ := id hG
  refine og_iloadN X0 hx (hb hby d25_0) rfl ?_
  refine og_iloadN X0 hx (hb hby d25_1) rfl ?_
  refine og_icY X0 hx 7 (hb hby d25_2) (tlt (by decide)).1 (by decide) (by decide) ?_
  refine og_aloadN X0 hx (hb hby d25_7) rfl rfl ?_
  refine og_iloadN X0 hx (hb hby d25_8) rfl ?_
  refine own_callV X0 hx hZ hown (own_hw hw 134 rfl) (own_hw hw 135 rfl) (notFace_of_selects (args := #[]) (mvT hZ (own_hw hw 137 rfl))) (own_hw hw 137 rfl) (own_hw hw 136 rfl) (own_hw hw 138 rfl) (own_hw hw 4 rfl) (by decide) (b := t) (argsL := [(.int 0)]) (rest := []) (own_ca_0_2 l Z a0 hw z sf t b _ _ c2 (.int c3.toInt8.toInt32) h0 n0 hO hG hc Et Fv Fc Ab) e0 Et (by rw [hml]; rfl) (lenOf own_pd47939 rfl) rfl (hb hby d25_9) (W := 0) (Nat.le_of_eq rfl) (by decide) ?_
  intro v1 T1 L1 X1 q1
  obtain ⟨rfl, N1q, e1⟩ := q1
  have N1 := Fr.app N0 N1q
  show own_Go p e below _ T1 (mkF m 12 #[rv t, iv 0, iv 2, rv ca, iv 2] [(.int c2)])
  refine og_aloadN X1 hx (hb hby d25_12) rfl rfl ?_
  refine og_iload X1 hx (hb hby d25_13) rfl ?_
  refine og_iloadN X1 hx (hb hby d25_15) rfl ?_
  refine og_iadd X1 hx (hb hby d25_16) ?_
  show own_Go p e below _ T1 (mkF m 17 #[rv t, iv 0, iv 2, rv ca, iv 2] [(.int 2), (.ref ca), (.int c2)])
  refine own_ldC X1 hx hZ e1 Ac ⟨by decide, by decide⟩ rfl (hb hby d25_17) ?_
  show own_Go p e below _ T1 (mkF m 18 #[rv t, iv 0, iv 2, rv ca, iv 2] [(.int c2), (.int c2)])
  refine og_icN X1 hx (hb hby d25_18) (teq rfl).2 ?_
  refine og_iconst X1 hx (hb hby d25_21) ?_
  refine og_goto X1 hx 26 (hb hby d25_22) (by decide) (by decide) ?_
  exact own_retI X1 hx hret hlk (hb hby d25_26) rfl (by simp) (by decide) (by decide) (⟨rfl, N1, e1⟩)
def own_r_own_lca_1_2 : Room := { frames := 2, cells := 0, slots := 0, locals := 27 }
theorem own_lca_1_2 (l : Launch) (Z : State) (a0 : Array Value) (hw : own_W a0 Z) (z : Int32) (sf : Value) (b : Addr) (kb : ClassId) (dv : Value) (ch : Int32) (v0 : Value) (h0 : Heap) (n0 : Nat) (hO : Old Z n0 h0) (hG : own_Gs Z z sf) (hc : ¬ ch < 0 ∧ ¬ (255 : Int32) < ch) (Ab : Arv Z h0 b kb .byte 2 [v0, (.int ch.toInt8.toInt32)] dv) :
    own_Met l Z (⟨"java/lang/StringLatin1", "charAt", "([BI)C"⟩ : MethodName) jdk_43_method_2_code 2 (some .char) own_r_own_lca_1_2 #[(.ref b), (.int 1)] h0 (own_Qv (some (.int ch)) h0 n0) := by
  refine own_body (by decide +kernel) ?_
  intro p e s m below meth c T0 X0 hx hZ hby hml hown hnm hret hlk e0
  have N0 := Fr.nil n0
  refine own_cast (own_frame (L := [rv b, iv 1]) (ls := #[rv b, iv 1]) rfl rfl) ?_
  obtain ⟨SC, hz, SF, rf⟩ := id hG
  refine og_iloadN X0 hx (hb hby d27_0) rfl ?_
  refine og_aloadN X0 hx (hb hby d27_1) rfl rfl ?_
  refine own_len X0 hx hZ e0 Ab (hb hby d27_2) ?_
  show own_Go p e below _ T0 (mkF m 3 #[rv b, iv 1] [(.int 2), (.int 1)])
  refine own_callS X0 hx hZ hown (own_hw hw 142 rfl) (own_hw hw 143 rfl) (own_hw hw 4 rfl) (own_hw hw 144 rfl) (by decide) (argsL := [(.int 1), (.int 2)]) (rest := []) (own_sck l Z a0 hw z sf 1 2 h0 n0 hO hG (by decide) (by decide)) e0 (by rw [hml]; rfl) (lenOf own_pd97226 rfl) rfl (hb hby d27_3) (W := 0) (Nat.le_of_eq rfl) (by decide) ?_
  intro v1 T1 L1 X1 q1
  obtain ⟨rfl, N1q, e1⟩ := q1
  have N1 := Fr.app N0 N1q
  show own_Go p e below _ T1 (mkF m 6 #[rv b, iv 1] [])
  refine og_aloadN X1 hx (hb hby d27_6) rfl rfl ?_
  refine og_iloadN X1 hx (hb hby d27_7) rfl ?_
  refine own_ldB X1 hx hZ e1 Ab ⟨by decide, by decide⟩ rfl (hb hby d27_8) ?_
  show own_Go p e below _ T1 (mkF m 9 #[rv b, iv 1] [(.int ch.toInt8.toInt32)])
  refine og_sipush X1 hx (hb hby d27_9) ?_
  refine og_iand X1 hx (hb hby d27_12) ?_
  show own_Go p e below _ T1 (mkF m 13 #[rv b, iv 1] [(.int (ch.toInt8.toInt32 &&& 255))])
  rw [own_rt ch hc]
  show own_Go p e below _ T1 (mkF m 13 #[rv b, iv 1] [(.int ch)])
  refine own_go (fun t k => XS.i2c X1.here hx rfl (hb hby d27_13) rfl k) ?_
  show own_Go p e below _ T1 (mkF m 14 #[rv b, iv 1] [(.int (ch.toUInt32.toUInt16.toUInt32.toInt32))])
  rw [own_ic ch hc]
  show own_Go p e below _ T1 (mkF m 14 #[rv b, iv 1] [(.int ch)])
  exact own_retI X1 hx hret hlk (hb hby d27_14) (own_nc ch hc) (by simp) (by decide) (by decide) (⟨rfl, N1, e1⟩)
def own_r_own_ca_1_2 : Room := { frames := 3, cells := 0, slots := 0, locals := 40 }
theorem own_ca_1_2 (l : Launch) (Z : State) (a0 : Array Value) (hw : own_W a0 Z) (z : Int32) (sf : Value) (t b : Addr) (kb : ClassId) (dv : Value) (ch : Int32) (v0 : Value) (h0 : Heap) (n0 : Nat) (hO : Old Z n0 h0) (hG : own_Gs Z z sf) (hc : ¬ ch < 0 ∧ ¬ (255 : Int32) < ch) (Et : own_E Z h0 t) (Fv : own_V Z h0 t b) (Fc : own_C Z h0 t) (Ab : Arv Z h0 b kb .byte 2 [v0, (.int ch.toInt8.toInt32)] dv) :
    own_Met l Z (⟨"java/lang/String", "charAt", "(I)C"⟩ : MethodName) jdk_42_method_56_code 2 (some .char) own_r_own_ca_1_2 #[(.ref t), (.int 1)] h0 (own_Qv (some (.int ch)) h0 n0) := by
  refine own_body (by decide +kernel) ?_
  intro p e s m below meth c T0 X0 hx hZ hby hml hown hnm hret hlk e0
  have N0 := Fr.nil n0
  refine own_cast (own_frame (L := [rv t, iv 1]) (ls := #[rv t, iv 1]) rfl rfl) ?_
  obtain ⟨SC, hz, SF, rf⟩ := id hG
  refine og_aloadN X0 hx (hb hby d26_0) rfl rfl ?_
  refine own_callV X0 hx hZ hown (own_hw hw 98 rfl) (own_hw hw 99 rfl) (notFace_of_selects (args := #[]) (mvT hZ (own_hw hw 101 rfl))) (own_hw hw 101 rfl) (own_hw hw 100 rfl) (own_hw hw 102 rfl) (own_hw hw 4 rfl) (by decide) (b := t) (argsL := []) (rest := []) (own_isl1 l Z a0 hw z sf t h0 n0 hO hG Fc) e0 Et (by rw [hml]; rfl) (lenOf own_pd61835 rfl) rfl (hb hby d26_1) (W := 0) (Nat.le_of_eq rfl) (by decide) ?_
  intro v1 T1 L1 X1 q1
  obtain ⟨rfl, N1q, e1⟩ := q1
  have N1 := Fr.app N0 N1q
  show own_Go p e below _ T1 (mkF m 4 #[rv t, iv 1] [(.int (1 : Int32))])
  refine og_ifN X1 hx (hb hby d26_4) (feq (by decide)).1 ?_
  refine og_aloadN X1 hx (hb hby d26_7) rfl rfl ?_
  refine og_getF X1 hx hZ hown (own_hw hw 29 rfl) Via.refl e1 Fv (hb hby d26_8) ?_
  intro T2 X2 e2
  refine og_iloadN X2 hx (hb hby d26_11) rfl ?_
  refine own_callS X2 hx hZ hown (own_hw hw 139 rfl) (own_hw hw 140 rfl) (own_hw hw 105 rfl) (own_hw hw 141 rfl) (by decide) (argsL := [(.ref b), (.int 1)]) (rest := []) (own_lca_1_2 l Z a0 hw z sf b _ _ ch v0 h0 n0 hO hG hc Ab) e2 (by rw [hml]; rfl) (lenOf own_pd27418 rfl) rfl (hb hby d26_12) (W := 0) (Nat.le_of_eq rfl) (by decide) ?_
  intro v3 T3 L3 X3 q3
  obtain ⟨rfl, N3q, e3⟩ := q3
  have N3 := Fr.app N1 N3q
  show own_Go p e below _ T3 (mkF m 15 #[rv t, iv 1] [(.int ch)])
  exact own_retI X3 hx hret hlk (hb hby d26_15) (own_nc ch hc) (by simp) (by decide) (by decide) (⟨rfl, N3, e3⟩)
def own_r_own_at_1_2 : Room := { frames := 4, cells := 0, slots := 0, locals := 53 }
theorem own_at_1_2 (l : Launch) (Z : State) (a0 : Array Value) (hw : own_W a0 Z) (z : Int32) (sf : Value) (t b : Addr) (kb : ClassId) (dv : Value) (ca : Addr) (kc : ClassId) (c0 c1 c2 c3 : Int32) (h0 : Heap) (n0 : Nat) (hO : Old Z n0 h0) (hG : own_Gs Z z sf) (hc : ¬ c3 < 0 ∧ ¬ (255 : Int32) < c3) (Et : own_E Z h0 t) (Fv : own_V Z h0 t b) (Fc : own_C Z h0 t) (Ab : Arv Z h0 b kb .byte 2 [(.int c2.toInt8.toInt32), (.int c3.toInt8.toInt32)] dv) (Ac : Arv Z h0 ca kc .char (4 : Int32) [.int c0, .int c1, .int c2, .int c3] (.int (0 : Int32))) :
    own_Met l Z (⟨"com/example/winnow/winnow/contacts/ContentLineValuePinLaw", "at", "(Ljava/lang/String;II[CI)Z"⟩ : MethodName) method_3_code 5 (some .boolean) own_r_own_at_1_2 #[(.ref t), (.int 1), (.int 2), (.ref ca), (.int 2)] h0 (own_Qv (some (.int 1)) h0 n0) := by
  refine own_body (by decide +kernel) ?_
  intro p e s m below meth c T0 X0 hx hZ hby hml hown hnm hret hlk e0
  have N0 := Fr.nil n0
  refine own_cast (own_frame (L := [rv t, iv 1, iv 2, rv ca, iv 2]) (ls := #[rv t, iv 1, iv 2, rv ca, iv 2]) rfl rfl) ?_
  obtain ⟨SC, hz, SF, rf⟩ := id hG
  refine og_iloadN X0 hx (hb hby d25_0) rfl ?_
  refine og_iloadN X0 hx (hb hby d25_1) rfl ?_
  refine og_icY X0 hx 7 (hb hby d25_2) (tlt (by decide)).1 (by decide) (by decide) ?_
  refine og_aloadN X0 hx (hb hby d25_7) rfl rfl ?_
  refine og_iloadN X0 hx (hb hby d25_8) rfl ?_
  refine own_callV X0 hx hZ hown (own_hw hw 134 rfl) (own_hw hw 135 rfl) (notFace_of_selects (args := #[]) (mvT hZ (own_hw hw 137 rfl))) (own_hw hw 137 rfl) (own_hw hw 136 rfl) (own_hw hw 138 rfl) (own_hw hw 4 rfl) (by decide) (b := t) (argsL := [(.int 1)]) (rest := []) (own_ca_1_2 l Z a0 hw z sf t b _ _ c3 (.int c2.toInt8.toInt32) h0 n0 hO hG hc Et Fv Fc Ab) e0 Et (by rw [hml]; rfl) (lenOf own_pd47939 rfl) rfl (hb hby d25_9) (W := 0) (Nat.le_of_eq rfl) (by decide) ?_
  intro v1 T1 L1 X1 q1
  obtain ⟨rfl, N1q, e1⟩ := q1
  have N1 := Fr.app N0 N1q
  show own_Go p e below _ T1 (mkF m 12 #[rv t, iv 1, iv 2, rv ca, iv 2] [(.int c3)])
  refine og_aloadN X1 hx (hb hby d25_12) rfl rfl ?_
  refine og_iload X1 hx (hb hby d25_13) rfl ?_
  refine og_iloadN X1 hx (hb hby d25_15) rfl ?_
  refine og_iadd X1 hx (hb hby d25_16) ?_
  show own_Go p e below _ T1 (mkF m 17 #[rv t, iv 1, iv 2, rv ca, iv 2] [(.int 3), (.ref ca), (.int c3)])
  refine own_ldC X1 hx hZ e1 Ac ⟨by decide, by decide⟩ rfl (hb hby d25_17) ?_
  show own_Go p e below _ T1 (mkF m 18 #[rv t, iv 1, iv 2, rv ca, iv 2] [(.int c3), (.int c3)])
  refine og_icN X1 hx (hb hby d25_18) (teq rfl).2 ?_
  refine og_iconst X1 hx (hb hby d25_21) ?_
  refine og_goto X1 hx 26 (hb hby d25_22) (by decide) (by decide) ?_
  exact own_retI X1 hx hret hlk (hb hby d25_26) rfl (by simp) (by decide) (by decide) (⟨rfl, N1, e1⟩)
def own_r_own_at_2_2 : Room := { frames := 0, cells := 0, slots := 0, locals := 0 }
theorem own_at_2_2 (l : Launch) (Z : State) (a0 : Array Value) (hw : own_W a0 Z) (t ca : Addr) (h0 : Heap) (n0 : Nat)  :
    own_Met l Z (⟨"com/example/winnow/winnow/contacts/ContentLineValuePinLaw", "at", "(Ljava/lang/String;II[CI)Z"⟩ : MethodName) method_3_code 5 (some .boolean) own_r_own_at_2_2 #[(.ref t), (.int 2), (.int 2), (.ref ca), (.int 2)] h0 (own_Qv (some (.int 1)) h0 n0) := by
  refine own_body (by decide +kernel) ?_
  intro p e s m below meth c T0 X0 hx hZ hby hml hown hnm hret hlk e0
  have N0 := Fr.nil n0
  refine own_cast (own_frame (L := [rv t, iv 2, iv 2, rv ca, iv 2]) (ls := #[rv t, iv 2, iv 2, rv ca, iv 2]) rfl rfl) ?_
  refine og_iloadN X0 hx (hb hby d25_0) rfl ?_
  refine og_iloadN X0 hx (hb hby d25_1) rfl ?_
  refine og_icN X0 hx (hb hby d25_2) (flt (by decide)).1 ?_
  refine og_iconst X0 hx (hb hby d25_5) ?_
  exact own_retI X0 hx hret hlk (hb hby d25_6) rfl (by simp) (by decide) (by decide) (⟨rfl, N0, e0⟩)
def own_r_own_at_3_2 : Room := { frames := 0, cells := 0, slots := 0, locals := 0 }
theorem own_at_3_2 (l : Launch) (Z : State) (a0 : Array Value) (hw : own_W a0 Z) (t ca : Addr) (h0 : Heap) (n0 : Nat)  :
    own_Met l Z (⟨"com/example/winnow/winnow/contacts/ContentLineValuePinLaw", "at", "(Ljava/lang/String;II[CI)Z"⟩ : MethodName) method_3_code 5 (some .boolean) own_r_own_at_3_2 #[(.ref t), (.int 3), (.int 2), (.ref ca), (.int 2)] h0 (own_Qv (some (.int 1)) h0 n0) := by
  refine own_body (by decide +kernel) ?_
  intro p e s m below meth c T0 X0 hx hZ hby hml hown hnm hret hlk e0
  have N0 := Fr.nil n0
  refine own_cast (own_frame (L := [rv t, iv 3, iv 2, rv ca, iv 2]) (ls := #[rv t, iv 3, iv 2, rv ca, iv 2]) rfl rfl) ?_
  refine og_iloadN X0 hx (hb hby d25_0) rfl ?_
  refine og_iloadN X0 hx (hb hby d25_1) rfl ?_
  refine og_icN X0 hx (hb hby d25_2) (flt (by decide)).1 ?_
  refine og_iconst X0 hx (hb hby d25_5) ?_
  exact own_retI X0 hx hret hlk (hb hby d25_6) rfl (by simp) (by decide) (by decide) (⟨rfl, N0, e0⟩)
def own_r_own_lca_0_1 : Room := { frames := 2, cells := 0, slots := 0, locals := 27 }
theorem own_lca_0_1 (l : Launch) (Z : State) (a0 : Array Value) (hw : own_W a0 Z) (z : Int32) (sf : Value) (b : Addr) (kb : ClassId) (dv : Value) (ch : Int32) (h0 : Heap) (n0 : Nat) (hO : Old Z n0 h0) (hG : own_Gs Z z sf) (hc : ¬ ch < 0 ∧ ¬ (255 : Int32) < ch) (Ab : Arv Z h0 b kb .byte 1 [(.int ch.toInt8.toInt32)] dv) :
    own_Met l Z (⟨"java/lang/StringLatin1", "charAt", "([BI)C"⟩ : MethodName) jdk_43_method_2_code 2 (some .char) own_r_own_lca_0_1 #[(.ref b), (.int 0)] h0 (own_Qv (some (.int ch)) h0 n0) := by
  refine own_body (by decide +kernel) ?_
  intro p e s m below meth c T0 X0 hx hZ hby hml hown hnm hret hlk e0
  have N0 := Fr.nil n0
  refine own_cast (own_frame (L := [rv b, iv 0]) (ls := #[rv b, iv 0]) rfl rfl) ?_
  obtain ⟨SC, hz, SF, rf⟩ := id hG
  refine og_iloadN X0 hx (hb hby d27_0) rfl ?_
  refine og_aloadN X0 hx (hb hby d27_1) rfl rfl ?_
  refine own_len X0 hx hZ e0 Ab (hb hby d27_2) ?_
  show own_Go p e below _ T0 (mkF m 3 #[rv b, iv 0] [(.int 1), (.int 0)])
  refine own_callS X0 hx hZ hown (own_hw hw 142 rfl) (own_hw hw 143 rfl) (own_hw hw 4 rfl) (own_hw hw 144 rfl) (by decide) (argsL := [(.int 0), (.int 1)]) (rest := []) (own_sck l Z a0 hw z sf 0 1 h0 n0 hO hG (by decide) (by decide)) e0 (by rw [hml]; rfl) (lenOf own_pd97226 rfl) rfl (hb hby d27_3) (W := 0) (Nat.le_of_eq rfl) (by decide) ?_
  intro v1 T1 L1 X1 q1
  obtain ⟨rfl, N1q, e1⟩ := q1
  have N1 := Fr.app N0 N1q
  show own_Go p e below _ T1 (mkF m 6 #[rv b, iv 0] [])
  refine og_aloadN X1 hx (hb hby d27_6) rfl rfl ?_
  refine og_iloadN X1 hx (hb hby d27_7) rfl ?_
  refine own_ldB X1 hx hZ e1 Ab ⟨by decide, by decide⟩ rfl (hb hby d27_8) ?_
  show own_Go p e below _ T1 (mkF m 9 #[rv b, iv 0] [(.int ch.toInt8.toInt32)])
  refine og_sipush X1 hx (hb hby d27_9) ?_
  refine og_iand X1 hx (hb hby d27_12) ?_
  show own_Go p e below _ T1 (mkF m 13 #[rv b, iv 0] [(.int (ch.toInt8.toInt32 &&& 255))])
  rw [own_rt ch hc]
  show own_Go p e below _ T1 (mkF m 13 #[rv b, iv 0] [(.int ch)])
  refine own_go (fun t k => XS.i2c X1.here hx rfl (hb hby d27_13) rfl k) ?_
  show own_Go p e below _ T1 (mkF m 14 #[rv b, iv 0] [(.int (ch.toUInt32.toUInt16.toUInt32.toInt32))])
  rw [own_ic ch hc]
  show own_Go p e below _ T1 (mkF m 14 #[rv b, iv 0] [(.int ch)])
  exact own_retI X1 hx hret hlk (hb hby d27_14) (own_nc ch hc) (by simp) (by decide) (by decide) (⟨rfl, N1, e1⟩)
def own_r_own_ca_0_1 : Room := { frames := 3, cells := 0, slots := 0, locals := 40 }
theorem own_ca_0_1 (l : Launch) (Z : State) (a0 : Array Value) (hw : own_W a0 Z) (z : Int32) (sf : Value) (t b : Addr) (kb : ClassId) (dv : Value) (ch : Int32) (h0 : Heap) (n0 : Nat) (hO : Old Z n0 h0) (hG : own_Gs Z z sf) (hc : ¬ ch < 0 ∧ ¬ (255 : Int32) < ch) (Et : own_E Z h0 t) (Fv : own_V Z h0 t b) (Fc : own_C Z h0 t) (Ab : Arv Z h0 b kb .byte 1 [(.int ch.toInt8.toInt32)] dv) :
    own_Met l Z (⟨"java/lang/String", "charAt", "(I)C"⟩ : MethodName) jdk_42_method_56_code 2 (some .char) own_r_own_ca_0_1 #[(.ref t), (.int 0)] h0 (own_Qv (some (.int ch)) h0 n0) := by
  refine own_body (by decide +kernel) ?_
  intro p e s m below meth c T0 X0 hx hZ hby hml hown hnm hret hlk e0
  have N0 := Fr.nil n0
  refine own_cast (own_frame (L := [rv t, iv 0]) (ls := #[rv t, iv 0]) rfl rfl) ?_
  obtain ⟨SC, hz, SF, rf⟩ := id hG
  refine og_aloadN X0 hx (hb hby d26_0) rfl rfl ?_
  refine own_callV X0 hx hZ hown (own_hw hw 98 rfl) (own_hw hw 99 rfl) (notFace_of_selects (args := #[]) (mvT hZ (own_hw hw 101 rfl))) (own_hw hw 101 rfl) (own_hw hw 100 rfl) (own_hw hw 102 rfl) (own_hw hw 4 rfl) (by decide) (b := t) (argsL := []) (rest := []) (own_isl1 l Z a0 hw z sf t h0 n0 hO hG Fc) e0 Et (by rw [hml]; rfl) (lenOf own_pd61835 rfl) rfl (hb hby d26_1) (W := 0) (Nat.le_of_eq rfl) (by decide) ?_
  intro v1 T1 L1 X1 q1
  obtain ⟨rfl, N1q, e1⟩ := q1
  have N1 := Fr.app N0 N1q
  show own_Go p e below _ T1 (mkF m 4 #[rv t, iv 0] [(.int (1 : Int32))])
  refine og_ifN X1 hx (hb hby d26_4) (feq (by decide)).1 ?_
  refine og_aloadN X1 hx (hb hby d26_7) rfl rfl ?_
  refine og_getF X1 hx hZ hown (own_hw hw 29 rfl) Via.refl e1 Fv (hb hby d26_8) ?_
  intro T2 X2 e2
  refine og_iloadN X2 hx (hb hby d26_11) rfl ?_
  refine own_callS X2 hx hZ hown (own_hw hw 139 rfl) (own_hw hw 140 rfl) (own_hw hw 105 rfl) (own_hw hw 141 rfl) (by decide) (argsL := [(.ref b), (.int 0)]) (rest := []) (own_lca_0_1 l Z a0 hw z sf b _ _ ch h0 n0 hO hG hc Ab) e2 (by rw [hml]; rfl) (lenOf own_pd27418 rfl) rfl (hb hby d26_12) (W := 0) (Nat.le_of_eq rfl) (by decide) ?_
  intro v3 T3 L3 X3 q3
  obtain ⟨rfl, N3q, e3⟩ := q3
  have N3 := Fr.app N1 N3q
  show own_Go p e below _ T3 (mkF m 15 #[rv t, iv 0] [(.int ch)])
  exact own_retI X3 hx hret hlk (hb hby d26_15) (own_nc ch hc) (by simp) (by decide) (by decide) (⟨rfl, N3, e3⟩)
def own_r_own_at_0_3 : Room := { frames := 4, cells := 0, slots := 0, locals := 53 }
theorem own_at_0_3 (l : Launch) (Z : State) (a0 : Array Value) (hw : own_W a0 Z) (z : Int32) (sf : Value) (t b : Addr) (kb : ClassId) (dv : Value) (ca : Addr) (kc : ClassId) (c0 c1 c2 c3 : Int32) (h0 : Heap) (n0 : Nat) (hO : Old Z n0 h0) (hG : own_Gs Z z sf) (hc : ¬ c3 < 0 ∧ ¬ (255 : Int32) < c3) (Et : own_E Z h0 t) (Fv : own_V Z h0 t b) (Fc : own_C Z h0 t) (Ab : Arv Z h0 b kb .byte 1 [(.int c3.toInt8.toInt32)] dv) (Ac : Arv Z h0 ca kc .char (4 : Int32) [.int c0, .int c1, .int c2, .int c3] (.int (0 : Int32))) :
    own_Met l Z (⟨"com/example/winnow/winnow/contacts/ContentLineValuePinLaw", "at", "(Ljava/lang/String;II[CI)Z"⟩ : MethodName) method_3_code 5 (some .boolean) own_r_own_at_0_3 #[(.ref t), (.int 0), (.int 1), (.ref ca), (.int 3)] h0 (own_Qv (some (.int 1)) h0 n0) := by
  refine own_body (by decide +kernel) ?_
  intro p e s m below meth c T0 X0 hx hZ hby hml hown hnm hret hlk e0
  have N0 := Fr.nil n0
  refine own_cast (own_frame (L := [rv t, iv 0, iv 1, rv ca, iv 3]) (ls := #[rv t, iv 0, iv 1, rv ca, iv 3]) rfl rfl) ?_
  obtain ⟨SC, hz, SF, rf⟩ := id hG
  refine og_iloadN X0 hx (hb hby d25_0) rfl ?_
  refine og_iloadN X0 hx (hb hby d25_1) rfl ?_
  refine og_icY X0 hx 7 (hb hby d25_2) (tlt (by decide)).1 (by decide) (by decide) ?_
  refine og_aloadN X0 hx (hb hby d25_7) rfl rfl ?_
  refine og_iloadN X0 hx (hb hby d25_8) rfl ?_
  refine own_callV X0 hx hZ hown (own_hw hw 134 rfl) (own_hw hw 135 rfl) (notFace_of_selects (args := #[]) (mvT hZ (own_hw hw 137 rfl))) (own_hw hw 137 rfl) (own_hw hw 136 rfl) (own_hw hw 138 rfl) (own_hw hw 4 rfl) (by decide) (b := t) (argsL := [(.int 0)]) (rest := []) (own_ca_0_1 l Z a0 hw z sf t b _ _ c3 h0 n0 hO hG hc Et Fv Fc Ab) e0 Et (by rw [hml]; rfl) (lenOf own_pd47939 rfl) rfl (hb hby d25_9) (W := 0) (Nat.le_of_eq rfl) (by decide) ?_
  intro v1 T1 L1 X1 q1
  obtain ⟨rfl, N1q, e1⟩ := q1
  have N1 := Fr.app N0 N1q
  show own_Go p e below _ T1 (mkF m 12 #[rv t, iv 0, iv 1, rv ca, iv 3] [(.int c3)])
  refine og_aloadN X1 hx (hb hby d25_12) rfl rfl ?_
  refine og_iload X1 hx (hb hby d25_13) rfl ?_
  refine og_iloadN X1 hx (hb hby d25_15) rfl ?_
  refine og_iadd X1 hx (hb hby d25_16) ?_
  show own_Go p e below _ T1 (mkF m 17 #[rv t, iv 0, iv 1, rv ca, iv 3] [(.int 3), (.ref ca), (.int c3)])
  refine own_ldC X1 hx hZ e1 Ac ⟨by decide, by decide⟩ rfl (hb hby d25_17) ?_
  show own_Go p e below _ T1 (mkF m 18 #[rv t, iv 0, iv 1, rv ca, iv 3] [(.int c3), (.int c3)])
  refine og_icN X1 hx (hb hby d25_18) (teq rfl).2 ?_
  refine og_iconst X1 hx (hb hby d25_21) ?_
  refine og_goto X1 hx 26 (hb hby d25_22) (by decide) (by decide) ?_
  exact own_retI X1 hx hret hlk (hb hby d25_26) rfl (by simp) (by decide) (by decide) (⟨rfl, N1, e1⟩)
def own_r_own_at_1_3 : Room := { frames := 0, cells := 0, slots := 0, locals := 0 }
theorem own_at_1_3 (l : Launch) (Z : State) (a0 : Array Value) (hw : own_W a0 Z) (t ca : Addr) (h0 : Heap) (n0 : Nat)  :
    own_Met l Z (⟨"com/example/winnow/winnow/contacts/ContentLineValuePinLaw", "at", "(Ljava/lang/String;II[CI)Z"⟩ : MethodName) method_3_code 5 (some .boolean) own_r_own_at_1_3 #[(.ref t), (.int 1), (.int 1), (.ref ca), (.int 3)] h0 (own_Qv (some (.int 1)) h0 n0) := by
  refine own_body (by decide +kernel) ?_
  intro p e s m below meth c T0 X0 hx hZ hby hml hown hnm hret hlk e0
  have N0 := Fr.nil n0
  refine own_cast (own_frame (L := [rv t, iv 1, iv 1, rv ca, iv 3]) (ls := #[rv t, iv 1, iv 1, rv ca, iv 3]) rfl rfl) ?_
  refine og_iloadN X0 hx (hb hby d25_0) rfl ?_
  refine og_iloadN X0 hx (hb hby d25_1) rfl ?_
  refine og_icN X0 hx (hb hby d25_2) (flt (by decide)).1 ?_
  refine og_iconst X0 hx (hb hby d25_5) ?_
  exact own_retI X0 hx hret hlk (hb hby d25_6) rfl (by simp) (by decide) (by decide) (⟨rfl, N0, e0⟩)
def own_r_own_at_2_3 : Room := { frames := 0, cells := 0, slots := 0, locals := 0 }
theorem own_at_2_3 (l : Launch) (Z : State) (a0 : Array Value) (hw : own_W a0 Z) (t ca : Addr) (h0 : Heap) (n0 : Nat)  :
    own_Met l Z (⟨"com/example/winnow/winnow/contacts/ContentLineValuePinLaw", "at", "(Ljava/lang/String;II[CI)Z"⟩ : MethodName) method_3_code 5 (some .boolean) own_r_own_at_2_3 #[(.ref t), (.int 2), (.int 1), (.ref ca), (.int 3)] h0 (own_Qv (some (.int 1)) h0 n0) := by
  refine own_body (by decide +kernel) ?_
  intro p e s m below meth c T0 X0 hx hZ hby hml hown hnm hret hlk e0
  have N0 := Fr.nil n0
  refine own_cast (own_frame (L := [rv t, iv 2, iv 1, rv ca, iv 3]) (ls := #[rv t, iv 2, iv 1, rv ca, iv 3]) rfl rfl) ?_
  refine og_iloadN X0 hx (hb hby d25_0) rfl ?_
  refine og_iloadN X0 hx (hb hby d25_1) rfl ?_
  refine og_icN X0 hx (hb hby d25_2) (flt (by decide)).1 ?_
  refine og_iconst X0 hx (hb hby d25_5) ?_
  exact own_retI X0 hx hret hlk (hb hby d25_6) rfl (by simp) (by decide) (by decide) (⟨rfl, N0, e0⟩)
def own_r_own_at_3_3 : Room := { frames := 0, cells := 0, slots := 0, locals := 0 }
theorem own_at_3_3 (l : Launch) (Z : State) (a0 : Array Value) (hw : own_W a0 Z) (t ca : Addr) (h0 : Heap) (n0 : Nat)  :
    own_Met l Z (⟨"com/example/winnow/winnow/contacts/ContentLineValuePinLaw", "at", "(Ljava/lang/String;II[CI)Z"⟩ : MethodName) method_3_code 5 (some .boolean) own_r_own_at_3_3 #[(.ref t), (.int 3), (.int 1), (.ref ca), (.int 3)] h0 (own_Qv (some (.int 1)) h0 n0) := by
  refine own_body (by decide +kernel) ?_
  intro p e s m below meth c T0 X0 hx hZ hby hml hown hnm hret hlk e0
  have N0 := Fr.nil n0
  refine own_cast (own_frame (L := [rv t, iv 3, iv 1, rv ca, iv 3]) (ls := #[rv t, iv 3, iv 1, rv ca, iv 3]) rfl rfl) ?_
  refine og_iloadN X0 hx (hb hby d25_0) rfl ?_
  refine og_iloadN X0 hx (hb hby d25_1) rfl ?_
  refine og_icN X0 hx (hb hby d25_2) (flt (by decide)).1 ?_
  refine og_iconst X0 hx (hb hby d25_5) ?_
  exact own_retI X0 hx hret hlk (hb hby d25_6) rfl (by simp) (by decide) (by decide) (⟨rfl, N0, e0⟩)
def own_r_own_at_0_4 : Room := { frames := 0, cells := 0, slots := 0, locals := 0 }
theorem own_at_0_4 (l : Launch) (Z : State) (a0 : Array Value) (hw : own_W a0 Z) (t ca : Addr) (h0 : Heap) (n0 : Nat)  :
    own_Met l Z (⟨"com/example/winnow/winnow/contacts/ContentLineValuePinLaw", "at", "(Ljava/lang/String;II[CI)Z"⟩ : MethodName) method_3_code 5 (some .boolean) own_r_own_at_0_4 #[(.ref t), (.int 0), (.int 0), (.ref ca), (.int 4)] h0 (own_Qv (some (.int 1)) h0 n0) := by
  refine own_body (by decide +kernel) ?_
  intro p e s m below meth c T0 X0 hx hZ hby hml hown hnm hret hlk e0
  have N0 := Fr.nil n0
  refine own_cast (own_frame (L := [rv t, iv 0, iv 0, rv ca, iv 4]) (ls := #[rv t, iv 0, iv 0, rv ca, iv 4]) rfl rfl) ?_
  refine og_iloadN X0 hx (hb hby d25_0) rfl ?_
  refine og_iloadN X0 hx (hb hby d25_1) rfl ?_
  refine og_icN X0 hx (hb hby d25_2) (flt (by decide)).1 ?_
  refine og_iconst X0 hx (hb hby d25_5) ?_
  exact own_retI X0 hx hret hlk (hb hby d25_6) rfl (by simp) (by decide) (by decide) (⟨rfl, N0, e0⟩)
def own_r_own_at_1_4 : Room := { frames := 0, cells := 0, slots := 0, locals := 0 }
theorem own_at_1_4 (l : Launch) (Z : State) (a0 : Array Value) (hw : own_W a0 Z) (t ca : Addr) (h0 : Heap) (n0 : Nat)  :
    own_Met l Z (⟨"com/example/winnow/winnow/contacts/ContentLineValuePinLaw", "at", "(Ljava/lang/String;II[CI)Z"⟩ : MethodName) method_3_code 5 (some .boolean) own_r_own_at_1_4 #[(.ref t), (.int 1), (.int 0), (.ref ca), (.int 4)] h0 (own_Qv (some (.int 1)) h0 n0) := by
  refine own_body (by decide +kernel) ?_
  intro p e s m below meth c T0 X0 hx hZ hby hml hown hnm hret hlk e0
  have N0 := Fr.nil n0
  refine own_cast (own_frame (L := [rv t, iv 1, iv 0, rv ca, iv 4]) (ls := #[rv t, iv 1, iv 0, rv ca, iv 4]) rfl rfl) ?_
  refine og_iloadN X0 hx (hb hby d25_0) rfl ?_
  refine og_iloadN X0 hx (hb hby d25_1) rfl ?_
  refine og_icN X0 hx (hb hby d25_2) (flt (by decide)).1 ?_
  refine og_iconst X0 hx (hb hby d25_5) ?_
  exact own_retI X0 hx hret hlk (hb hby d25_6) rfl (by simp) (by decide) (by decide) (⟨rfl, N0, e0⟩)
def own_r_own_at_2_4 : Room := { frames := 0, cells := 0, slots := 0, locals := 0 }
theorem own_at_2_4 (l : Launch) (Z : State) (a0 : Array Value) (hw : own_W a0 Z) (t ca : Addr) (h0 : Heap) (n0 : Nat)  :
    own_Met l Z (⟨"com/example/winnow/winnow/contacts/ContentLineValuePinLaw", "at", "(Ljava/lang/String;II[CI)Z"⟩ : MethodName) method_3_code 5 (some .boolean) own_r_own_at_2_4 #[(.ref t), (.int 2), (.int 0), (.ref ca), (.int 4)] h0 (own_Qv (some (.int 1)) h0 n0) := by
  refine own_body (by decide +kernel) ?_
  intro p e s m below meth c T0 X0 hx hZ hby hml hown hnm hret hlk e0
  have N0 := Fr.nil n0
  refine own_cast (own_frame (L := [rv t, iv 2, iv 0, rv ca, iv 4]) (ls := #[rv t, iv 2, iv 0, rv ca, iv 4]) rfl rfl) ?_
  refine og_iloadN X0 hx (hb hby d25_0) rfl ?_
  refine og_iloadN X0 hx (hb hby d25_1) rfl ?_
  refine og_icN X0 hx (hb hby d25_2) (flt (by decide)).1 ?_
  refine og_iconst X0 hx (hb hby d25_5) ?_
  exact own_retI X0 hx hret hlk (hb hby d25_6) rfl (by simp) (by decide) (by decide) (⟨rfl, N0, e0⟩)
def own_r_own_at_3_4 : Room := { frames := 0, cells := 0, slots := 0, locals := 0 }
theorem own_at_3_4 (l : Launch) (Z : State) (a0 : Array Value) (hw : own_W a0 Z) (t ca : Addr) (h0 : Heap) (n0 : Nat)  :
    own_Met l Z (⟨"com/example/winnow/winnow/contacts/ContentLineValuePinLaw", "at", "(Ljava/lang/String;II[CI)Z"⟩ : MethodName) method_3_code 5 (some .boolean) own_r_own_at_3_4 #[(.ref t), (.int 3), (.int 0), (.ref ca), (.int 4)] h0 (own_Qv (some (.int 1)) h0 n0) := by
  refine own_body (by decide +kernel) ?_
  intro p e s m below meth c T0 X0 hx hZ hby hml hown hnm hret hlk e0
  have N0 := Fr.nil n0
  refine own_cast (own_frame (L := [rv t, iv 3, iv 0, rv ca, iv 4]) (ls := #[rv t, iv 3, iv 0, rv ca, iv 4]) rfl rfl) ?_
  refine og_iloadN X0 hx (hb hby d25_0) rfl ?_
  refine og_iloadN X0 hx (hb hby d25_1) rfl ?_
  refine og_icN X0 hx (hb hby d25_2) (flt (by decide)).1 ?_
  refine og_iconst X0 hx (hb hby d25_5) ?_
  exact own_retI X0 hx hret hlk (hb hby d25_6) rfl (by simp) (by decide) (by decide) (⟨rfl, N0, e0⟩)
theorem own_pd46664 : parseMethodDescriptor "([C)V" = some ⟨[(.array .char)], none⟩ := by decide +kernel
theorem own_pd51703 : parseMethodDescriptor "(ILjava/lang/String;Ljava/lang/String;Ljava/lang/String;I)V" = some ⟨[.int, (.object "java/lang/String"), (.object "java/lang/String"), (.object "java/lang/String"), .int], none⟩ := by decide +kernel
theorem own_pd53479 : parseMethodDescriptor "()Ljava/lang/String;" = some ⟨[], some (.object "java/lang/String")⟩ := by decide +kernel
theorem own_pd39901 : parseMethodDescriptor "(Ljava/lang/String;II[CI)Z" = some ⟨[(.object "java/lang/String"), .int, .int, (.array .char), .int], some .boolean⟩ := by decide +kernel
theorem own_rm0 (l : Launch) (Z : State) (a0 : Array Value) (hw : own_W a0 Z) (p1 p2 p3 : Int32) (z : Int32) (sf : Value) (h0 : Heap) (n0 : Nat) (hO : Old Z n0 h0) (hG : own_Gs Z z sf) :
    own_MetH l Z own_EL x code maxLocals ret room_1 #[(.int p1), (.int p2), (.int p3)] h0 (own_Q1 n0) := by
  refine own_bodyH (by decide +kernel) ?_
  intro p e s m below meth c T0 X0 hx hZ hby hml hown hnm hret hlk e0 hS hk C0
  have hwS : ∀ a ∈ Bundle.stringAtoms, a.before a0 Z = true := fun d hd => hw d ((by decide +kernel : ∀ d ∈ Bundle.stringAtoms, d ∈ tables_1) d hd)
  have N0 := Fr.nil n0
  refine own_cast (own_frame (L := [iv p1, iv p2, iv p3]) (ls := #[iv p1, iv p2, iv p3, .unset, .unset, .unset, .unset, .unset, .unset]) rfl rfl) ?_
  obtain ⟨SC, hz, SF, rf⟩ := id hG
  refine og_iconst X0 hx (hb hby at_0) ?_
  refine own_newP X0 hx hZ (own_hw hw 0 rfl) e0 (hb hby at_1) (by decide) 4 (by decide) (by decide) (by decide) (by decide) ?_
  intro T1 h1 k1 b1 g1 X1 e1 E1 A1
  have ge_b1 : n0 ≤ b1 := Nat.le_trans (own_oldle hO) (Nat.le_of_eq g1.symm)
  have hk1 := Nat.le_trans hk E1.1
  have C1 := C0.trans (CHr.ext E1 C0.1)
  have O1 := hO.ext E1
  have A_b1_1 : Arv Z h1 b1 k1 .char 4 [(.int (0 : Int32)), (.int (0 : Int32)), (.int (0 : Int32)), (.int (0 : Int32))] (.int (0 : Int32)) := A1
  show own_Go p e below _ T1 (mkF m 3 #[iv p1, iv p2, iv p3, .unset, .unset, .unset, .unset, .unset, .unset] [(.ref b1)])
  refine og_astoreN X1 hx #[iv p1, iv p2, iv p3, rv b1, .unset, .unset, .unset, .unset, .unset] (hb hby at_3) rfl rfl ?_
  refine og_aloadN X1 hx (hb hby at_4) rfl rfl ?_
  refine og_iconst X1 hx (hb hby at_5) ?_
  refine og_iloadN X1 hx (hb hby at_6) rfl ?_
  refine og_sipush X1 hx (hb hby at_7) ?_
  refine og_iand X1 hx (hb hby at_10) ?_
  show own_Go p e below _ T1 (mkF m 11 #[iv p1, iv p2, iv p3, rv b1, .unset, .unset, .unset, .unset, .unset] [(.int (p2 &&& 255)), (.int 0), (.ref b1)])
  refine own_go (fun t k => XS.i2c X1.here hx rfl (hb hby at_11) rfl k) ?_
  show own_Go p e below _ T1 (mkF m 12 #[iv p1, iv p2, iv p3, rv b1, .unset, .unset, .unset, .unset, .unset] [(.int ((p2 &&& 255).toUInt32.toUInt16.toUInt32.toInt32)), (.int 0), (.ref b1)])
  obtain ⟨c2, hc2, ec2⟩ : ∃ c : Int32, (¬ c < 0 ∧ ¬ (255 : Int32) < c) ∧ (p2 &&& 255).toUInt32.toUInt16.toUInt32.toInt32 = c := ⟨_, own_ch _, i2c_mask _⟩
  rw [ec2]
  show own_Go p e below _ T1 (mkF m 12 #[iv p1, iv p2, iv p3, rv b1, .unset, .unset, .unset, .unset, .unset] [(.int c2), (.int 0), (.ref b1)])
  refine own_stC X1 hx hZ e1 A_b1_1 ⟨by decide, by decide⟩ 0 rfl (by show 0 < 4; decide) (hb hby at_12) ?_
  intro T3 h3 X3 e3 W3 A3
  have hk3 := Nat.le_trans hk1 (Keep.of_wr W3).1
  have sf3 := (Safe.arv (EL := own_EL) hZ.alike A_b1_1 (by decide))
  have C3 := C1.trans (CHr.wr W3 sf3 C1.1)
  have O3 := O1.wr W3 ge_b1
  have N3 := Fr.snoc X3 N0 ge_b1
  have A_b1_3 : Arv Z h3 b1 k1 .char 4 [(.int c2), (.int (0 : Int32)), (.int (0 : Int32)), (.int (0 : Int32))] (.int (0 : Int32)) := (by have q := A3; rw [show nar .char c2 = c2 from own_ic _ hc2] at q; exact q)
  show own_Go p e below _ T3 (mkF m 13 #[iv p1, iv p2, iv p3, rv b1, .unset, .unset, .unset, .unset, .unset] [])
  refine og_aloadN X3 hx (hb hby at_13) rfl rfl ?_
  refine og_iconst X3 hx (hb hby at_14) ?_
  refine og_iloadN X3 hx (hb hby at_15) rfl ?_
  refine og_bipush X3 hx (hb hby at_16) ?_
  refine own_go (fun t k => XS.iushr X3.here hx rfl (hb hby at_18) rfl k) ?_
  show own_Go p e below _ T3 (mkF m 19 #[iv p1, iv p2, iv p3, rv b1, .unset, .unset, .unset, .unset, .unset] [(.int ((p2.toUInt32 >>> ((8 : Int32) &&& 31).toUInt32).toInt32)), (.int 1), (.ref b1)])
  refine og_sipush X3 hx (hb hby at_19) ?_
  refine og_iand X3 hx (hb hby at_22) ?_
  show own_Go p e below _ T3 (mkF m 23 #[iv p1, iv p2, iv p3, rv b1, .unset, .unset, .unset, .unset, .unset] [(.int (((p2.toUInt32 >>> ((8 : Int32) &&& 31).toUInt32).toInt32) &&& 255)), (.int 1), (.ref b1)])
  refine own_go (fun t k => XS.i2c X3.here hx rfl (hb hby at_23) rfl k) ?_
  show own_Go p e below _ T3 (mkF m 24 #[iv p1, iv p2, iv p3, rv b1, .unset, .unset, .unset, .unset, .unset] [(.int ((((p2.toUInt32 >>> ((8 : Int32) &&& 31).toUInt32).toInt32) &&& 255).toUInt32.toUInt16.toUInt32.toInt32)), (.int 1), (.ref b1)])
  obtain ⟨c4, hc4, ec4⟩ : ∃ c : Int32, (¬ c < 0 ∧ ¬ (255 : Int32) < c) ∧ (((p2.toUInt32 >>> ((8 : Int32) &&& 31).toUInt32).toInt32) &&& 255).toUInt32.toUInt16.toUInt32.toInt32 = c := ⟨_, own_ch _, i2c_mask _⟩
  rw [ec4]
  show own_Go p e below _ T3 (mkF m 24 #[iv p1, iv p2, iv p3, rv b1, .unset, .unset, .unset, .unset, .unset] [(.int c4), (.int 1), (.ref b1)])
  refine own_stC X3 hx hZ e3 A_b1_3 ⟨by decide, by decide⟩ 1 rfl (by show 1 < 4; decide) (hb hby at_24) ?_
  intro T5 h5 X5 e5 W5 A5
  have hk5 := Nat.le_trans hk3 (Keep.of_wr W5).1
  have sf5 := (Safe.arv (EL := own_EL) hZ.alike A_b1_3 (by decide))
  have C5 := C3.trans (CHr.wr W5 sf5 C3.1)
  have O5 := O3.wr W5 ge_b1
  have N5 := Fr.snoc X5 N3 ge_b1
  have A_b1_5 : Arv Z h5 b1 k1 .char 4 [(.int c2), (.int c4), (.int (0 : Int32)), (.int (0 : Int32))] (.int (0 : Int32)) := (by have q := A5; rw [show nar .char c4 = c4 from own_ic _ hc4] at q; exact q)
  show own_Go p e below _ T5 (mkF m 25 #[iv p1, iv p2, iv p3, rv b1, .unset, .unset, .unset, .unset, .unset] [])
  refine og_aloadN X5 hx (hb hby at_25) rfl rfl ?_
  refine og_iconst X5 hx (hb hby at_26) ?_
  refine og_iloadN X5 hx (hb hby at_27) rfl ?_
  refine og_bipush X5 hx (hb hby at_28) ?_
  refine own_go (fun t k => XS.iushr X5.here hx rfl (hb hby at_30) rfl k) ?_
  show own_Go p e below _ T5 (mkF m 31 #[iv p1, iv p2, iv p3, rv b1, .unset, .unset, .unset, .unset, .unset] [(.int ((p2.toUInt32 >>> ((16 : Int32) &&& 31).toUInt32).toInt32)), (.int 2), (.ref b1)])
  refine og_sipush X5 hx (hb hby at_31) ?_
  refine og_iand X5 hx (hb hby at_34) ?_
  show own_Go p e below _ T5 (mkF m 35 #[iv p1, iv p2, iv p3, rv b1, .unset, .unset, .unset, .unset, .unset] [(.int (((p2.toUInt32 >>> ((16 : Int32) &&& 31).toUInt32).toInt32) &&& 255)), (.int 2), (.ref b1)])
  refine own_go (fun t k => XS.i2c X5.here hx rfl (hb hby at_35) rfl k) ?_
  show own_Go p e below _ T5 (mkF m 36 #[iv p1, iv p2, iv p3, rv b1, .unset, .unset, .unset, .unset, .unset] [(.int ((((p2.toUInt32 >>> ((16 : Int32) &&& 31).toUInt32).toInt32) &&& 255).toUInt32.toUInt16.toUInt32.toInt32)), (.int 2), (.ref b1)])
  obtain ⟨c6, hc6, ec6⟩ : ∃ c : Int32, (¬ c < 0 ∧ ¬ (255 : Int32) < c) ∧ (((p2.toUInt32 >>> ((16 : Int32) &&& 31).toUInt32).toInt32) &&& 255).toUInt32.toUInt16.toUInt32.toInt32 = c := ⟨_, own_ch _, i2c_mask _⟩
  rw [ec6]
  show own_Go p e below _ T5 (mkF m 36 #[iv p1, iv p2, iv p3, rv b1, .unset, .unset, .unset, .unset, .unset] [(.int c6), (.int 2), (.ref b1)])
  refine own_stC X5 hx hZ e5 A_b1_5 ⟨by decide, by decide⟩ 2 rfl (by show 2 < 4; decide) (hb hby at_36) ?_
  intro T7 h7 X7 e7 W7 A7
  have hk7 := Nat.le_trans hk5 (Keep.of_wr W7).1
  have sf7 := (Safe.arv (EL := own_EL) hZ.alike A_b1_5 (by decide))
  have C7 := C5.trans (CHr.wr W7 sf7 C5.1)
  have O7 := O5.wr W7 ge_b1
  have N7 := Fr.snoc X7 N5 ge_b1
  have A_b1_7 : Arv Z h7 b1 k1 .char 4 [(.int c2), (.int c4), (.int c6), (.int (0 : Int32))] (.int (0 : Int32)) := (by have q := A7; rw [show nar .char c6 = c6 from own_ic _ hc6] at q; exact q)
  show own_Go p e below _ T7 (mkF m 37 #[iv p1, iv p2, iv p3, rv b1, .unset, .unset, .unset, .unset, .unset] [])
  refine og_aloadN X7 hx (hb hby at_37) rfl rfl ?_
  refine og_iconst X7 hx (hb hby at_38) ?_
  refine og_iloadN X7 hx (hb hby at_39) rfl ?_
  refine og_bipush X7 hx (hb hby at_40) ?_
  refine own_go (fun t k => XS.iushr X7.here hx rfl (hb hby at_42) rfl k) ?_
  show own_Go p e below _ T7 (mkF m 43 #[iv p1, iv p2, iv p3, rv b1, .unset, .unset, .unset, .unset, .unset] [(.int ((p2.toUInt32 >>> ((24 : Int32) &&& 31).toUInt32).toInt32)), (.int 3), (.ref b1)])
  refine og_sipush X7 hx (hb hby at_43) ?_
  refine og_iand X7 hx (hb hby at_46) ?_
  show own_Go p e below _ T7 (mkF m 47 #[iv p1, iv p2, iv p3, rv b1, .unset, .unset, .unset, .unset, .unset] [(.int (((p2.toUInt32 >>> ((24 : Int32) &&& 31).toUInt32).toInt32) &&& 255)), (.int 3), (.ref b1)])
  refine own_go (fun t k => XS.i2c X7.here hx rfl (hb hby at_47) rfl k) ?_
  show own_Go p e below _ T7 (mkF m 48 #[iv p1, iv p2, iv p3, rv b1, .unset, .unset, .unset, .unset, .unset] [(.int ((((p2.toUInt32 >>> ((24 : Int32) &&& 31).toUInt32).toInt32) &&& 255).toUInt32.toUInt16.toUInt32.toInt32)), (.int 3), (.ref b1)])
  obtain ⟨c8, hc8, ec8⟩ : ∃ c : Int32, (¬ c < 0 ∧ ¬ (255 : Int32) < c) ∧ (((p2.toUInt32 >>> ((24 : Int32) &&& 31).toUInt32).toInt32) &&& 255).toUInt32.toUInt16.toUInt32.toInt32 = c := ⟨_, own_ch _, i2c_mask _⟩
  rw [ec8]
  show own_Go p e below _ T7 (mkF m 48 #[iv p1, iv p2, iv p3, rv b1, .unset, .unset, .unset, .unset, .unset] [(.int c8), (.int 3), (.ref b1)])
  refine own_stC X7 hx hZ e7 A_b1_7 ⟨by decide, by decide⟩ 3 rfl (by show 3 < 4; decide) (hb hby at_48) ?_
  intro T9 h9 X9 e9 W9 A9
  have hk9 := Nat.le_trans hk7 (Keep.of_wr W9).1
  have sf9 := (Safe.arv (EL := own_EL) hZ.alike A_b1_7 (by decide))
  have C9 := C7.trans (CHr.wr W9 sf9 C7.1)
  have O9 := O7.wr W9 ge_b1
  have N9 := Fr.snoc X9 N7 ge_b1
  have A_b1_9 : Arv Z h9 b1 k1 .char 4 [(.int c2), (.int c4), (.int c6), (.int c8)] (.int (0 : Int32)) := (by have q := A9; rw [show nar .char c8 = c8 from own_ic _ hc8] at q; exact q)
  show own_Go p e below _ T9 (mkF m 49 #[iv p1, iv p2, iv p3, rv b1, .unset, .unset, .unset, .unset, .unset] [])
  refine og_iloadN X9 hx (hb hby at_49) rfl ?_
  refine og_ldcI X9 hx hZ hown (own_hw hw 1 rfl) (hb hby at_50) ?_
  show own_Go p e below _ T9 (mkF m 52 #[iv p1, iv p2, iv p3, rv b1, .unset, .unset, .unset, .unset, .unset] [(.int 2147483647), (.int p3)])
  refine og_iand X9 hx (hb hby at_52) ?_
  refine og_iconst X9 hx (hb hby at_53) ?_
  refine og_iremM X9 hx (hb hby at_54) (by decide) ?_
  show own_Go p e below _ T9 (mkF m 55 #[iv p1, iv p2, iv p3, rv b1, .unset, .unset, .unset, .unset, .unset] [(.int ((p3 &&& 2147483647) % 5))])
  rcases own_cases _ (own_rem5 p3) with h | h | h | h | h
  · rw [h]
    show own_Go p e below _ T9 (mkF m 55 #[iv p1, iv p2, iv p3, rv b1, .unset, .unset, .unset, .unset, .unset] [(.int 0)])
    refine og_istore X9 hx #[iv p1, iv p2, iv p3, rv b1, iv 0, .unset, .unset, .unset, .unset] (hb hby at_55) rfl ?_
    refine own_newO X9 hx hZ hown (own_hw hw 2 rfl) (own_hw hw 3 rfl) (own_hw hw 4 rfl) e9 (hb hby at_57) (by decide) (by decide) ?_
    intro T10 h10 b10 g10 X10 e10 E10 A10 D10
    have ne_b1_b10 : b1 ≠ b10 := Nat.ne_of_lt (Nat.lt_of_lt_of_eq A_b1_9.lt g10.symm)
    have ge_b10 : n0 ≤ b10 := Nat.le_trans (own_oldle O9) (Nat.le_of_eq g10.symm)
    have S_b10 : Safe Z own_EL s.vm h9 b10 := Safe.new (Nat.le_of_eq g10.symm)
    have hk10 := Nat.le_trans hk9 E10.1
    have A_b1_10 := A_b1_9.ext E10
    have S_b10_10 := Safe.ext E10 C9.1 S_b10
    have C10 := C9.trans (CHr.ext E10 C9.1)
    have O10 := O9.ext E10
    have F_b10_coder_10 : Fld Z h10 b10 "java/lang/String" "coder" "B" (.int 0) := D10 (Or.inr (own_hw hw 28 rfl)) (ty := .byte) (by decide)
    have F_b10_value_10 : Fld Z h10 b10 "java/lang/String" "value" "[B" .null := D10 (Or.inr (own_hw hw 30 rfl)) (ty := (.array .byte)) (by decide)
    show own_Go p e below _ T10 (mkF m 60 #[iv p1, iv p2, iv p3, rv b1, iv 0, .unset, .unset, .unset, .unset] [(.ref b10)])
    refine og_dup X10 hx (hb hby at_60) rfl ?_
    refine og_aloadN X10 hx (hb hby at_61) rfl rfl ?_
    have hws : ∀ d ∈ StrChars.Road.words, d.before a0 Z = true := fun d hd => hw d ((by decide +kernel : ∀ d ∈ StrChars.Road.words, d ∈ tables_1) d hd)
    have hp11 : ∀ c ∈ ([c2, c4, c6, c8] : List Int32), ¬ c < 0 ∧ ¬ (255 : Int32) < c := by
      intro c hc; simp only [List.mem_cons, List.not_mem_nil, or_false] at hc; rcases hc with rfl | rfl | rfl | rfl <;> assumption
    refine own_callNB X10 hx hZ hown (own_hw hw 5 rfl) (own_hw hw 6 rfl) (own_hw hw 7 rfl) (own_hw hw 4 rfl) (by decide) rfl (b := b10) (argsL := [(.ref b1)]) (rest := [(.ref b10)]) (StrChars.Road.backV (W := 1) hZ hws (kI := 4) (own_hw hw 3 rfl) (cs := ([c2, c4, c6, c8] : List Int32)) (bs := (([c2, c4, c6, c8] : List Int32)).map (fun c => c.toInt8.toInt32)) (n := 4) ge_b10 (own_oldle O10) A10 F_b10_value_10 F_b10_coder_10 A_b1_10 (SC.ext O10.2) hz rfl rfl (by decide) (by decide) hp11 rfl (by decide) (by decide)) e10 (by rw [hml]; rfl) (lenOf own_pd46664 rfl) rfl (hb hby at_62) (Nat.le_of_eq rfl) (by decide) (by decide) ?_
    intro v11 T11 L11 X11 q11
    obtain ⟨rfl, N11q, K11q, E11q, C11q, vb11, kb11, ge11, z11q, ne11q, V11q, A11q⟩ := q11
    have N11 := Fr.app N9 N11q
    have ne_b1_vb11 : b1 ≠ vb11 := Nat.ne_of_lt (Nat.lt_of_lt_of_le A_b1_10.lt z11q)
    have ne_b10_vb11 : b10 ≠ vb11 := Nat.ne_of_lt (Nat.lt_of_lt_of_le A10.lt z11q)
    have hk11 := Nat.le_trans hk10 K11q.1
    have hs11 : ∀ x ∈ ([b10] : List Addr), Safe Z own_EL s.vm h10 x := (sfS S_b10_10 sf0)
    have C11 := C10.trans (CHr.keep K11q hs11 C10.1)
    have A_b1_11 := A_b1_10.keep K11q (ninS ne_b1_b10 nin0)
    have S_b10_11 := Safe.keep K11q hs11 C10.1 S_b10_10
    have E_b10_11 := A10.keep K11q
    have O11 := O10.keep K11q (allS ge_b10 all0)
    show own_Go p e below _ T11 (mkF m 65 #[iv p1, iv p2, iv p3, rv b1, iv 0, .unset, .unset, .unset, .unset] [(.ref b10)])
    refine og_astore X11 hx #[iv p1, iv p2, iv p3, rv b1, iv 0, rv b10, .unset, .unset, .unset] (hb hby at_65) rfl rfl ?_
    refine own_newO X11 hx hZ hown (own_hw hw 31 rfl) (own_hw hw 32 rfl) (own_hw hw 33 rfl) rfl (hb hby at_67) (by decide) (by decide) ?_
    intro T12 h12 b12 g12 X12 e12 E12 A12 D12
    have ne_b1_b12 : b1 ≠ b12 := Nat.ne_of_lt (Nat.lt_of_lt_of_eq A_b1_11.lt g12.symm)
    have ne_b10_b12 : b10 ≠ b12 := Nat.ne_of_lt (Nat.lt_of_lt_of_eq E_b10_11.lt g12.symm)
    have ne_vb11_b12 : vb11 ≠ b12 := Nat.ne_of_lt (Nat.lt_of_lt_of_eq A11q.lt g12.symm)
    have ge_b12 : n0 ≤ b12 := Nat.le_trans (own_oldle O11) (Nat.le_of_eq g12.symm)
    have hk12 := Nat.le_trans hk11 E12.1
    have A_b1_12 := A_b1_11.ext E12
    have E_b10_12 := E_b10_11.ext E12
    have F_b10_coder_12 := C11q.ext E12
    have F_b10_value_12 := V11q.ext E12
    have A_vb11_12 := A11q.ext E12
    have C12 := C11.trans (CHr.ext E12 C11.1)
    have O12 := O11.ext E12
    have F_b12_number_12 : Fld Z h12 b12 "com/example/winnow/winnow/contacts/ContentLine" "number" "I" (.int 0) := D12 (Or.inr (own_hw hw 66 rfl)) (ty := .int) (by decide)
    have F_b12_text_12 : Fld Z h12 b12 "com/example/winnow/winnow/contacts/ContentLine" "text" "Ljava/lang/String;" .null := D12 (Or.inr (own_hw hw 68 rfl)) (ty := (.object "java/lang/String")) (by decide)
    have F_b12_group_12 : Fld Z h12 b12 "com/example/winnow/winnow/contacts/ContentLine" "group" "Ljava/lang/String;" .null := D12 (Or.inr (own_hw hw 70 rfl)) (ty := (.object "java/lang/String")) (by decide)
    have F_b12_name_12 : Fld Z h12 b12 "com/example/winnow/winnow/contacts/ContentLine" "name" "Ljava/lang/String;" .null := D12 (Or.inr (own_hw hw 72 rfl)) (ty := (.object "java/lang/String")) (by decide)
    have F_b12_valueStart_12 : Fld Z h12 b12 "com/example/winnow/winnow/contacts/ContentLine" "valueStart" "I" (.int 0) := D12 (Or.inr (own_hw hw 74 rfl)) (ty := .int) (by decide)
    show own_Go p e below _ T12 (mkF m 70 #[iv p1, iv p2, iv p3, rv b1, iv 0, rv b10, .unset, .unset, .unset] [(.ref b12)])
    refine og_dup X12 hx (hb hby at_70) rfl ?_
    refine og_iloadN X12 hx (hb hby at_71) rfl ?_
    refine og_aload X12 hx (hb hby at_72) rfl rfl ?_
    refine own_ldcO X12 hx hZ hown (own_hw hw 34 rfl) hwS e12 hS hk12 (own_EW hw) C12.1 (hb hby at_74) 0 (by decide) (by decide) (by decide) (by decide) ?_
    intro s13 T13 h13 k13 X13 e13 E13 hS13 hk13 hZ13 hown13 C13q Lt13
    have A_b1_13 := A_b1_12.ext E13
    have E_b10_13 := E_b10_12.ext E13
    have F_b10_coder_13 := F_b10_coder_12.ext E13
    have F_b10_value_13 := F_b10_value_12.ext E13
    have A_vb11_13 := A_vb11_12.ext E13
    have E_b12_13 := A12.ext E13
    have F_b12_number_13 := F_b12_number_12.ext E13
    have F_b12_text_13 := F_b12_text_12.ext E13
    have F_b12_group_13 := F_b12_group_12.ext E13
    have F_b12_name_13 := F_b12_name_12.ext E13
    have F_b12_valueStart_13 := F_b12_valueStart_12.ext E13
    have C13 := C12.trans C13q
    have O13 := O12.ext E13
    show own_Go p e below _ T13 (mkF m 76 #[iv p1, iv p2, iv p3, rv b1, iv 0, rv b10, .unset, .unset, .unset] [(.ref s13), (.ref b10), (.int p1), (.ref b12), (.ref b12)])
    refine own_ldcO X13 hx hZ13 hown13 (own_hw hw 37 rfl) hwS e13 hS13 hk13 (own_EW hw) C13.1 (hb hby at_76) 4 (by decide) (by decide) (by decide) (by decide) ?_
    intro s14 T14 h14 k14 X14 e14 E14 hS14 hk14 hZ14 hown14 C14q Lt14
    have A_b1_14 := A_b1_13.ext E14
    have E_b10_14 := E_b10_13.ext E14
    have F_b10_coder_14 := F_b10_coder_13.ext E14
    have F_b10_value_14 := F_b10_value_13.ext E14
    have A_vb11_14 := A_vb11_13.ext E14
    have E_b12_14 := E_b12_13.ext E14
    have F_b12_number_14 := F_b12_number_13.ext E14
    have F_b12_text_14 := F_b12_text_13.ext E14
    have F_b12_group_14 := F_b12_group_13.ext E14
    have F_b12_name_14 := F_b12_name_13.ext E14
    have F_b12_valueStart_14 := F_b12_valueStart_13.ext E14
    have C14 := C13.trans C14q
    have O14 := O13.ext E14
    show own_Go p e below _ T14 (mkF m 78 #[iv p1, iv p2, iv p3, rv b1, iv 0, rv b10, .unset, .unset, .unset] [(.ref s14), (.ref s13), (.ref b10), (.int p1), (.ref b12), (.ref b12)])
    refine og_iload X14 hx (hb hby at_78) rfl ?_
    refine own_callN X14 hx hZ14 hown14 (own_hw hw 38 rfl) (own_hw hw 39 rfl) (own_hw hw 40 rfl) (own_hw hw 33 rfl) (by decide) rfl (b := b12) (argsL := [(.int p1), (.ref b10), (.ref s13), (.ref s14), (.int 0)]) (rest := [(.ref b12)]) (own_cl_0 l Z a0 hw z sf b10 vb11 _ _ (.int c2.toInt8.toInt32) (.int c4.toInt8.toInt32) (.int c6.toInt8.toInt32) (.int c8.toInt8.toInt32) b12 s13 s14 p1 _ _ _ _ _ h14 n0 O14 hG E_b10_14 F_b10_value_14 F_b10_coder_14 A_vb11_14 ge_b12 (Ne.symm ne_b10_b12) (Ne.symm ne_vb11_b12) E_b12_14 F_b12_number_14 F_b12_text_14 F_b12_group_14 F_b12_name_14 F_b12_valueStart_14) e14 (by rw [hml]; rfl) (lenOf own_pd51703 rfl) rfl (hb hby at_80) (W := 1) (Nat.le_of_eq rfl) (by decide) ?_
    intro v15 T15 L15 X15 q15
    obtain ⟨rfl, N15q, K15q, Ft15, Fs15⟩ := q15
    have N15 := Fr.app N11 N15q
    have hk15 := Nat.le_trans hk14 K15q.1
    have hs15 : ∀ x ∈ ([b12] : List Addr), Safe Z own_EL T14.vm h14 x := (sfS (Safe.exa (EL := own_EL) hZ14.alike E_b12_14 (by decide) (by decide)) sf0)
    have C15 := C14.trans (CHr.keep K15q hs15 C14.1)
    have A_b1_15 := A_b1_14.keep K15q (ninS ne_b1_b12 nin0)
    have E_b10_15 := E_b10_14.keep K15q
    have F_b10_coder_15 := F_b10_coder_14.keep K15q (ninS ne_b10_b12 nin0)
    have F_b10_value_15 := F_b10_value_14.keep K15q (ninS ne_b10_b12 nin0)
    have A_vb11_15 := A_vb11_14.keep K15q (ninS ne_vb11_b12 nin0)
    have E_b12_15 := E_b12_14.keep K15q
    have O15 := O14.keep K15q (allS ge_b12 all0)
    show own_Go p e below _ T15 (mkF m 83 #[iv p1, iv p2, iv p3, rv b1, iv 0, rv b10, .unset, .unset, .unset] [(.ref b12)])
    refine og_astore X15 hx #[iv p1, iv p2, iv p3, rv b1, iv 0, rv b10, rv b12, .unset, .unset] (hb hby at_83) rfl rfl ?_
    refine og_aload X15 hx (hb hby at_85) rfl rfl ?_
    refine own_callV X15 hx hZ14 hown14 (own_hw hw 75 rfl) (own_hw hw 76 rfl) (notFace_of_selects (args := #[]) (mvT hZ14 (own_hw hw 78 rfl))) (own_hw hw 78 rfl) (own_hw hw 77 rfl) (own_hw hw 79 rfl) (own_hw hw 33 rfl) (by decide) (b := b12) (argsL := []) (rest := []) (own_va_0 l Z a0 hw z sf b10 vb11 _ _ (.int c2.toInt8.toInt32) (.int c4.toInt8.toInt32) (.int c6.toInt8.toInt32) (.int c8.toInt8.toInt32) b12 T15.heap n0 O15 hG E_b10_15 F_b10_value_15 F_b10_coder_15 A_vb11_15 Ft15 Fs15) rfl E_b12_15 (by rw [hml]; rfl) (lenOf own_pd53479 rfl) rfl (hb hby at_87) (W := 0) (Nat.le_of_eq rfl) (by decide) ?_
    intro v16 T16 L16 X16 q16
    obtain ⟨rfl, N16q, e16⟩ := q16
    have N16 := Fr.app N15 N16q
    show own_Go p e below _ T16 (mkF m 90 #[iv p1, iv p2, iv p3, rv b1, iv 0, rv b10, rv b12, .unset, .unset] [(.ref b10)])
    refine og_astore X16 hx #[iv p1, iv p2, iv p3, rv b1, iv 0, rv b10, rv b12, rv b10, .unset] (hb hby at_90) rfl rfl ?_
    refine og_iconst X16 hx (hb hby at_92) ?_
    refine og_iload X16 hx (hb hby at_93) rfl ?_
    refine og_isub X16 hx (hb hby at_95) ?_
    refine og_istore X16 hx #[iv p1, iv p2, iv p3, rv b1, iv 0, rv b10, rv b12, rv b10, iv 4] (hb hby at_96) rfl ?_
    refine og_aload X16 hx (hb hby at_98) rfl rfl ?_
    refine own_callV X16 hx hZ14 hown14 (own_hw hw 129 rfl) (own_hw hw 48 rfl) (notFace_of_selects (args := #[]) (mvT hZ14 (own_hw hw 50 rfl))) (own_hw hw 50 rfl) (own_hw hw 49 rfl) (own_hw hw 51 rfl) (own_hw hw 4 rfl) (by decide) (b := b10) (argsL := []) (rest := []) (own_slen l Z a0 hw z sf b10 vb11 _ _ _ _ T15.heap n0 O15 hG E_b10_15 F_b10_value_15 F_b10_coder_15 A_vb11_15) e16 E_b10_15 (by rw [hml]; rfl) (lenOf own_pd13941 rfl) rfl (hb hby at_100) (W := 0) (Nat.le_of_eq rfl) (by decide) ?_
    intro v17 T17 L17 X17 q17
    obtain ⟨rfl, N17q, e17⟩ := q17
    have N17 := Fr.app N16 N17q
    show own_Go p e below _ T17 (mkF m 103 #[iv p1, iv p2, iv p3, rv b1, iv 0, rv b10, rv b12, rv b10, iv 4] [(.int (4 : Int32))])
    refine og_iload X17 hx (hb hby at_103) rfl ?_
    refine og_icY X17 hx 110 (hb hby at_105) (teq (by decide)).1 (by decide) (by decide) ?_
    refine og_aload X17 hx (hb hby at_110) rfl rfl ?_
    refine og_iconst X17 hx (hb hby at_112) ?_
    refine og_iload X17 hx (hb hby at_113) rfl ?_
    refine og_aloadN X17 hx (hb hby at_115) rfl rfl ?_
    refine og_iload X17 hx (hb hby at_116) rfl ?_
    refine own_callS X17 hx hZ14 hown14 (own_hw hw 130 rfl) (own_hw hw 131 rfl) (own_hw hw 132 rfl) (own_hw hw 133 rfl) (by decide) (argsL := [(.ref b10), (.int 0), (.int 4), (.ref b1), (.int 0)]) (rest := []) (own_at_0_0 l Z a0 hw z sf b10 vb11 _ _ b1 _ c2 c4 c6 c8 T15.heap n0 O15 hG hc2 E_b10_15 F_b10_value_15 F_b10_coder_15 A_vb11_15 A_b1_15) e17 (by rw [hml]; rfl) (lenOf own_pd39901 rfl) rfl (hb hby at_118) (W := 0) (Nat.le_of_eq rfl) (by decide) ?_
    intro v18 T18 L18 X18 q18
    obtain ⟨rfl, N18q, e18⟩ := q18
    have N18 := Fr.app N17 N18q
    show own_Go p e below _ T18 (mkF m 121 #[iv p1, iv p2, iv p3, rv b1, iv 0, rv b10, rv b12, rv b10, iv 4] [(.int (1 : Int32))])
    refine og_ifN X18 hx (hb hby at_121) (feq (by decide)).1 ?_
    refine og_aload X18 hx (hb hby at_124) rfl rfl ?_
    refine og_iconst X18 hx (hb hby at_126) ?_
    refine og_iload X18 hx (hb hby at_127) rfl ?_
    refine og_aloadN X18 hx (hb hby at_129) rfl rfl ?_
    refine og_iload X18 hx (hb hby at_130) rfl ?_
    refine own_callS X18 hx hZ14 hown14 (own_hw hw 130 rfl) (own_hw hw 131 rfl) (own_hw hw 132 rfl) (own_hw hw 133 rfl) (by decide) (argsL := [(.ref b10), (.int 1), (.int 4), (.ref b1), (.int 0)]) (rest := []) (own_at_1_0 l Z a0 hw z sf b10 vb11 _ _ b1 _ c2 c4 c6 c8 T15.heap n0 O15 hG hc4 E_b10_15 F_b10_value_15 F_b10_coder_15 A_vb11_15 A_b1_15) e18 (by rw [hml]; rfl) (lenOf own_pd39901 rfl) rfl (hb hby at_132) (W := 0) (Nat.le_of_eq rfl) (by decide) ?_
    intro v19 T19 L19 X19 q19
    obtain ⟨rfl, N19q, e19⟩ := q19
    have N19 := Fr.app N18 N19q
    show own_Go p e below _ T19 (mkF m 135 #[iv p1, iv p2, iv p3, rv b1, iv 0, rv b10, rv b12, rv b10, iv 4] [(.int (1 : Int32))])
    refine og_ifN X19 hx (hb hby at_135) (feq (by decide)).1 ?_
    refine og_aload X19 hx (hb hby at_138) rfl rfl ?_
    refine og_iconst X19 hx (hb hby at_140) ?_
    refine og_iload X19 hx (hb hby at_141) rfl ?_
    refine og_aloadN X19 hx (hb hby at_143) rfl rfl ?_
    refine og_iload X19 hx (hb hby at_144) rfl ?_
    refine own_callS X19 hx hZ14 hown14 (own_hw hw 130 rfl) (own_hw hw 131 rfl) (own_hw hw 132 rfl) (own_hw hw 133 rfl) (by decide) (argsL := [(.ref b10), (.int 2), (.int 4), (.ref b1), (.int 0)]) (rest := []) (own_at_2_0 l Z a0 hw z sf b10 vb11 _ _ b1 _ c2 c4 c6 c8 T15.heap n0 O15 hG hc6 E_b10_15 F_b10_value_15 F_b10_coder_15 A_vb11_15 A_b1_15) e19 (by rw [hml]; rfl) (lenOf own_pd39901 rfl) rfl (hb hby at_146) (W := 0) (Nat.le_of_eq rfl) (by decide) ?_
    intro v20 T20 L20 X20 q20
    obtain ⟨rfl, N20q, e20⟩ := q20
    have N20 := Fr.app N19 N20q
    show own_Go p e below _ T20 (mkF m 149 #[iv p1, iv p2, iv p3, rv b1, iv 0, rv b10, rv b12, rv b10, iv 4] [(.int (1 : Int32))])
    refine og_ifN X20 hx (hb hby at_149) (feq (by decide)).1 ?_
    refine og_aload X20 hx (hb hby at_152) rfl rfl ?_
    refine og_iconst X20 hx (hb hby at_154) ?_
    refine og_iload X20 hx (hb hby at_155) rfl ?_
    refine og_aloadN X20 hx (hb hby at_157) rfl rfl ?_
    refine og_iload X20 hx (hb hby at_158) rfl ?_
    refine own_callS X20 hx hZ14 hown14 (own_hw hw 130 rfl) (own_hw hw 131 rfl) (own_hw hw 132 rfl) (own_hw hw 133 rfl) (by decide) (argsL := [(.ref b10), (.int 3), (.int 4), (.ref b1), (.int 0)]) (rest := []) (own_at_3_0 l Z a0 hw z sf b10 vb11 _ _ b1 _ c2 c4 c6 c8 T15.heap n0 O15 hG hc8 E_b10_15 F_b10_value_15 F_b10_coder_15 A_vb11_15 A_b1_15) e20 (by rw [hml]; rfl) (lenOf own_pd39901 rfl) rfl (hb hby at_160) (W := 0) (Nat.le_of_eq rfl) (by decide) ?_
    intro v21 T21 L21 X21 q21
    obtain ⟨rfl, N21q, e21⟩ := q21
    have N21 := Fr.app N20 N21q
    show own_Go p e below _ T21 (mkF m 163 #[iv p1, iv p2, iv p3, rv b1, iv 0, rv b10, rv b12, rv b10, iv 4] [(.int (1 : Int32))])
    refine og_ifN X21 hx (hb hby at_163) (feq (by decide)).1 ?_
    refine og_iconst X21 hx (hb hby at_166) ?_
    refine og_goto X21 hx 171 (hb hby at_167) (by decide) (by decide) ?_
    exact own_retIH X21 hx hret hlk (hb hby at_171) rfl (by simp) hZ14 (own_EW hw) C15 e21 hS14 hk15 (by decide) (by decide) (⟨rfl, N21⟩)
  · rw [h]
    show own_Go p e below _ T9 (mkF m 55 #[iv p1, iv p2, iv p3, rv b1, .unset, .unset, .unset, .unset, .unset] [(.int 1)])
    refine og_istore X9 hx #[iv p1, iv p2, iv p3, rv b1, iv 1, .unset, .unset, .unset, .unset] (hb hby at_55) rfl ?_
    refine own_newO X9 hx hZ hown (own_hw hw 2 rfl) (own_hw hw 3 rfl) (own_hw hw 4 rfl) e9 (hb hby at_57) (by decide) (by decide) ?_
    intro T22 h22 b22 g22 X22 e22 E22 A22 D22
    have ne_b1_b22 : b1 ≠ b22 := Nat.ne_of_lt (Nat.lt_of_lt_of_eq A_b1_9.lt g22.symm)
    have ge_b22 : n0 ≤ b22 := Nat.le_trans (own_oldle O9) (Nat.le_of_eq g22.symm)
    have S_b22 : Safe Z own_EL s.vm h9 b22 := Safe.new (Nat.le_of_eq g22.symm)
    have hk22 := Nat.le_trans hk9 E22.1
    have A_b1_22 := A_b1_9.ext E22
    have S_b22_22 := Safe.ext E22 C9.1 S_b22
    have C22 := C9.trans (CHr.ext E22 C9.1)
    have O22 := O9.ext E22
    have F_b22_coder_22 : Fld Z h22 b22 "java/lang/String" "coder" "B" (.int 0) := D22 (Or.inr (own_hw hw 28 rfl)) (ty := .byte) (by decide)
    have F_b22_value_22 : Fld Z h22 b22 "java/lang/String" "value" "[B" .null := D22 (Or.inr (own_hw hw 30 rfl)) (ty := (.array .byte)) (by decide)
    show own_Go p e below _ T22 (mkF m 60 #[iv p1, iv p2, iv p3, rv b1, iv 1, .unset, .unset, .unset, .unset] [(.ref b22)])
    refine og_dup X22 hx (hb hby at_60) rfl ?_
    refine og_aloadN X22 hx (hb hby at_61) rfl rfl ?_
    have hws : ∀ d ∈ StrChars.Road.words, d.before a0 Z = true := fun d hd => hw d ((by decide +kernel : ∀ d ∈ StrChars.Road.words, d ∈ tables_1) d hd)
    have hp23 : ∀ c ∈ ([c2, c4, c6, c8] : List Int32), ¬ c < 0 ∧ ¬ (255 : Int32) < c := by
      intro c hc; simp only [List.mem_cons, List.not_mem_nil, or_false] at hc; rcases hc with rfl | rfl | rfl | rfl <;> assumption
    refine own_callNB X22 hx hZ hown (own_hw hw 5 rfl) (own_hw hw 6 rfl) (own_hw hw 7 rfl) (own_hw hw 4 rfl) (by decide) rfl (b := b22) (argsL := [(.ref b1)]) (rest := [(.ref b22)]) (StrChars.Road.backV (W := 1) hZ hws (kI := 4) (own_hw hw 3 rfl) (cs := ([c2, c4, c6, c8] : List Int32)) (bs := (([c2, c4, c6, c8] : List Int32)).map (fun c => c.toInt8.toInt32)) (n := 4) ge_b22 (own_oldle O22) A22 F_b22_value_22 F_b22_coder_22 A_b1_22 (SC.ext O22.2) hz rfl rfl (by decide) (by decide) hp23 rfl (by decide) (by decide)) e22 (by rw [hml]; rfl) (lenOf own_pd46664 rfl) rfl (hb hby at_62) (Nat.le_of_eq rfl) (by decide) (by decide) ?_
    intro v23 T23 L23 X23 q23
    obtain ⟨rfl, N23q, K23q, E23q, C23q, vb23, kb23, ge23, z23q, ne23q, V23q, A23q⟩ := q23
    have N23 := Fr.app N9 N23q
    have ne_b1_vb23 : b1 ≠ vb23 := Nat.ne_of_lt (Nat.lt_of_lt_of_le A_b1_22.lt z23q)
    have ne_b22_vb23 : b22 ≠ vb23 := Nat.ne_of_lt (Nat.lt_of_lt_of_le A22.lt z23q)
    have hk23 := Nat.le_trans hk22 K23q.1
    have hs23 : ∀ x ∈ ([b22] : List Addr), Safe Z own_EL s.vm h22 x := (sfS S_b22_22 sf0)
    have C23 := C22.trans (CHr.keep K23q hs23 C22.1)
    have A_b1_23 := A_b1_22.keep K23q (ninS ne_b1_b22 nin0)
    have S_b22_23 := Safe.keep K23q hs23 C22.1 S_b22_22
    have E_b22_23 := A22.keep K23q
    have O23 := O22.keep K23q (allS ge_b22 all0)
    show own_Go p e below _ T23 (mkF m 65 #[iv p1, iv p2, iv p3, rv b1, iv 1, .unset, .unset, .unset, .unset] [(.ref b22)])
    refine og_astore X23 hx #[iv p1, iv p2, iv p3, rv b1, iv 1, rv b22, .unset, .unset, .unset] (hb hby at_65) rfl rfl ?_
    refine own_newO X23 hx hZ hown (own_hw hw 31 rfl) (own_hw hw 32 rfl) (own_hw hw 33 rfl) rfl (hb hby at_67) (by decide) (by decide) ?_
    intro T24 h24 b24 g24 X24 e24 E24 A24 D24
    have ne_b1_b24 : b1 ≠ b24 := Nat.ne_of_lt (Nat.lt_of_lt_of_eq A_b1_23.lt g24.symm)
    have ne_b22_b24 : b22 ≠ b24 := Nat.ne_of_lt (Nat.lt_of_lt_of_eq E_b22_23.lt g24.symm)
    have ne_vb23_b24 : vb23 ≠ b24 := Nat.ne_of_lt (Nat.lt_of_lt_of_eq A23q.lt g24.symm)
    have ge_b24 : n0 ≤ b24 := Nat.le_trans (own_oldle O23) (Nat.le_of_eq g24.symm)
    have hk24 := Nat.le_trans hk23 E24.1
    have A_b1_24 := A_b1_23.ext E24
    have E_b22_24 := E_b22_23.ext E24
    have F_b22_coder_24 := C23q.ext E24
    have F_b22_value_24 := V23q.ext E24
    have A_vb23_24 := A23q.ext E24
    have C24 := C23.trans (CHr.ext E24 C23.1)
    have O24 := O23.ext E24
    have F_b24_number_24 : Fld Z h24 b24 "com/example/winnow/winnow/contacts/ContentLine" "number" "I" (.int 0) := D24 (Or.inr (own_hw hw 66 rfl)) (ty := .int) (by decide)
    have F_b24_text_24 : Fld Z h24 b24 "com/example/winnow/winnow/contacts/ContentLine" "text" "Ljava/lang/String;" .null := D24 (Or.inr (own_hw hw 68 rfl)) (ty := (.object "java/lang/String")) (by decide)
    have F_b24_group_24 : Fld Z h24 b24 "com/example/winnow/winnow/contacts/ContentLine" "group" "Ljava/lang/String;" .null := D24 (Or.inr (own_hw hw 70 rfl)) (ty := (.object "java/lang/String")) (by decide)
    have F_b24_name_24 : Fld Z h24 b24 "com/example/winnow/winnow/contacts/ContentLine" "name" "Ljava/lang/String;" .null := D24 (Or.inr (own_hw hw 72 rfl)) (ty := (.object "java/lang/String")) (by decide)
    have F_b24_valueStart_24 : Fld Z h24 b24 "com/example/winnow/winnow/contacts/ContentLine" "valueStart" "I" (.int 0) := D24 (Or.inr (own_hw hw 74 rfl)) (ty := .int) (by decide)
    show own_Go p e below _ T24 (mkF m 70 #[iv p1, iv p2, iv p3, rv b1, iv 1, rv b22, .unset, .unset, .unset] [(.ref b24)])
    refine og_dup X24 hx (hb hby at_70) rfl ?_
    refine og_iloadN X24 hx (hb hby at_71) rfl ?_
    refine og_aload X24 hx (hb hby at_72) rfl rfl ?_
    refine own_ldcO X24 hx hZ hown (own_hw hw 34 rfl) hwS e24 hS hk24 (own_EW hw) C24.1 (hb hby at_74) 0 (by decide) (by decide) (by decide) (by decide) ?_
    intro s25 T25 h25 k25 X25 e25 E25 hS25 hk25 hZ25 hown25 C25q Lt25
    have A_b1_25 := A_b1_24.ext E25
    have E_b22_25 := E_b22_24.ext E25
    have F_b22_coder_25 := F_b22_coder_24.ext E25
    have F_b22_value_25 := F_b22_value_24.ext E25
    have A_vb23_25 := A_vb23_24.ext E25
    have E_b24_25 := A24.ext E25
    have F_b24_number_25 := F_b24_number_24.ext E25
    have F_b24_text_25 := F_b24_text_24.ext E25
    have F_b24_group_25 := F_b24_group_24.ext E25
    have F_b24_name_25 := F_b24_name_24.ext E25
    have F_b24_valueStart_25 := F_b24_valueStart_24.ext E25
    have C25 := C24.trans C25q
    have O25 := O24.ext E25
    show own_Go p e below _ T25 (mkF m 76 #[iv p1, iv p2, iv p3, rv b1, iv 1, rv b22, .unset, .unset, .unset] [(.ref s25), (.ref b22), (.int p1), (.ref b24), (.ref b24)])
    refine own_ldcO X25 hx hZ25 hown25 (own_hw hw 37 rfl) hwS e25 hS25 hk25 (own_EW hw) C25.1 (hb hby at_76) 4 (by decide) (by decide) (by decide) (by decide) ?_
    intro s26 T26 h26 k26 X26 e26 E26 hS26 hk26 hZ26 hown26 C26q Lt26
    have A_b1_26 := A_b1_25.ext E26
    have E_b22_26 := E_b22_25.ext E26
    have F_b22_coder_26 := F_b22_coder_25.ext E26
    have F_b22_value_26 := F_b22_value_25.ext E26
    have A_vb23_26 := A_vb23_25.ext E26
    have E_b24_26 := E_b24_25.ext E26
    have F_b24_number_26 := F_b24_number_25.ext E26
    have F_b24_text_26 := F_b24_text_25.ext E26
    have F_b24_group_26 := F_b24_group_25.ext E26
    have F_b24_name_26 := F_b24_name_25.ext E26
    have F_b24_valueStart_26 := F_b24_valueStart_25.ext E26
    have C26 := C25.trans C26q
    have O26 := O25.ext E26
    show own_Go p e below _ T26 (mkF m 78 #[iv p1, iv p2, iv p3, rv b1, iv 1, rv b22, .unset, .unset, .unset] [(.ref s26), (.ref s25), (.ref b22), (.int p1), (.ref b24), (.ref b24)])
    refine og_iload X26 hx (hb hby at_78) rfl ?_
    refine own_callN X26 hx hZ26 hown26 (own_hw hw 38 rfl) (own_hw hw 39 rfl) (own_hw hw 40 rfl) (own_hw hw 33 rfl) (by decide) rfl (b := b24) (argsL := [(.int p1), (.ref b22), (.ref s25), (.ref s26), (.int 1)]) (rest := [(.ref b24)]) (own_cl_1 l Z a0 hw z sf b22 vb23 _ _ (.int c2.toInt8.toInt32) (.int c4.toInt8.toInt32) (.int c6.toInt8.toInt32) (.int c8.toInt8.toInt32) b24 s25 s26 p1 _ _ _ _ _ h26 n0 O26 hG E_b22_26 F_b22_value_26 F_b22_coder_26 A_vb23_26 ge_b24 (Ne.symm ne_b22_b24) (Ne.symm ne_vb23_b24) E_b24_26 F_b24_number_26 F_b24_text_26 F_b24_group_26 F_b24_name_26 F_b24_valueStart_26) e26 (by rw [hml]; rfl) (lenOf own_pd51703 rfl) rfl (hb hby at_80) (W := 1) (Nat.le_of_eq rfl) (by decide) ?_
    intro v27 T27 L27 X27 q27
    obtain ⟨rfl, N27q, K27q, Ft27, Fs27⟩ := q27
    have N27 := Fr.app N23 N27q
    have hk27 := Nat.le_trans hk26 K27q.1
    have hs27 : ∀ x ∈ ([b24] : List Addr), Safe Z own_EL T26.vm h26 x := (sfS (Safe.exa (EL := own_EL) hZ26.alike E_b24_26 (by decide) (by decide)) sf0)
    have C27 := C26.trans (CHr.keep K27q hs27 C26.1)
    have A_b1_27 := A_b1_26.keep K27q (ninS ne_b1_b24 nin0)
    have E_b22_27 := E_b22_26.keep K27q
    have F_b22_coder_27 := F_b22_coder_26.keep K27q (ninS ne_b22_b24 nin0)
    have F_b22_value_27 := F_b22_value_26.keep K27q (ninS ne_b22_b24 nin0)
    have A_vb23_27 := A_vb23_26.keep K27q (ninS ne_vb23_b24 nin0)
    have E_b24_27 := E_b24_26.keep K27q
    have O27 := O26.keep K27q (allS ge_b24 all0)
    show own_Go p e below _ T27 (mkF m 83 #[iv p1, iv p2, iv p3, rv b1, iv 1, rv b22, .unset, .unset, .unset] [(.ref b24)])
    refine og_astore X27 hx #[iv p1, iv p2, iv p3, rv b1, iv 1, rv b22, rv b24, .unset, .unset] (hb hby at_83) rfl rfl ?_
    refine og_aload X27 hx (hb hby at_85) rfl rfl ?_
    refine own_callV X27 hx hZ26 hown26 (own_hw hw 75 rfl) (own_hw hw 76 rfl) (notFace_of_selects (args := #[]) (mvT hZ26 (own_hw hw 78 rfl))) (own_hw hw 78 rfl) (own_hw hw 77 rfl) (own_hw hw 79 rfl) (own_hw hw 33 rfl) (by decide) (b := b24) (argsL := []) (rest := []) (own_va_1 l Z a0 hw z sf b22 vb23 _ _ (.int c2.toInt8.toInt32) (.int c4.toInt8.toInt32) (.int c6.toInt8.toInt32) (.int c8.toInt8.toInt32) b24 T27.heap n0 O27 hG E_b22_27 F_b22_value_27 F_b22_coder_27 A_vb23_27 Ft27 Fs27) rfl E_b24_27 (by rw [hml]; rfl) (lenOf own_pd53479 rfl) rfl (hb hby at_87) (W := 0) (Nat.le_of_eq rfl) (by decide) ?_
    intro v28 T28 L28 X28 q28
    obtain ⟨t28, vb28, k28, rfl, N28q, K28q, zt28, gt28, zb28, gb28, ne_t28_vb28, Et28, Ft28, Ct28, At28⟩ := q28
    have N28 := Fr.app N27 N28q
    have ne_b1_t28 : b1 ≠ t28 := Nat.ne_of_lt (Nat.lt_of_lt_of_le A_b1_27.lt zt28)
    have ne_b22_t28 : b22 ≠ t28 := Nat.ne_of_lt (Nat.lt_of_lt_of_le E_b22_27.lt zt28)
    have ne_b24_t28 : b24 ≠ t28 := Nat.ne_of_lt (Nat.lt_of_lt_of_le E_b24_27.lt zt28)
    have ne_vb23_t28 : vb23 ≠ t28 := Nat.ne_of_lt (Nat.lt_of_lt_of_le A_vb23_27.lt zt28)
    have ne_b1_vb28 : b1 ≠ vb28 := Nat.ne_of_lt (Nat.lt_of_lt_of_le A_b1_27.lt zb28)
    have ne_b22_vb28 : b22 ≠ vb28 := Nat.ne_of_lt (Nat.lt_of_lt_of_le E_b22_27.lt zb28)
    have ne_b24_vb28 : b24 ≠ vb28 := Nat.ne_of_lt (Nat.lt_of_lt_of_le E_b24_27.lt zb28)
    have ne_vb23_vb28 : vb23 ≠ vb28 := Nat.ne_of_lt (Nat.lt_of_lt_of_le A_vb23_27.lt zb28)
    have hk28 := Nat.le_trans hk27 K28q.1
    have hs28 : ∀ x ∈ ([] : List Addr), Safe Z own_EL T26.vm T27.heap x := sf0
    have C28 := C27.trans (CHr.keep K28q hs28 C27.1)
    have A_b1_28 := A_b1_27.keep K28q nin0
    have E_b22_28 := E_b22_27.keep K28q
    have F_b22_coder_28 := F_b22_coder_27.keep K28q nin0
    have F_b22_value_28 := F_b22_value_27.keep K28q nin0
    have A_vb23_28 := A_vb23_27.keep K28q nin0
    have E_b24_28 := E_b24_27.keep K28q
    have F_b24_text_28 := Ft27.keep K28q nin0
    have F_b24_valueStart_28 := Fs27.keep K28q nin0
    have O28 := O27.keep K28q all0
    show own_Go p e below _ T28 (mkF m 90 #[iv p1, iv p2, iv p3, rv b1, iv 1, rv b22, rv b24, .unset, .unset] [(.ref t28)])
    refine og_astore X28 hx #[iv p1, iv p2, iv p3, rv b1, iv 1, rv b22, rv b24, rv t28, .unset] (hb hby at_90) rfl rfl ?_
    refine og_iconst X28 hx (hb hby at_92) ?_
    refine og_iload X28 hx (hb hby at_93) rfl ?_
    refine og_isub X28 hx (hb hby at_95) ?_
    refine og_istore X28 hx #[iv p1, iv p2, iv p3, rv b1, iv 1, rv b22, rv b24, rv t28, iv 3] (hb hby at_96) rfl ?_
    refine og_aload X28 hx (hb hby at_98) rfl rfl ?_
    refine own_callV X28 hx hZ26 hown26 (own_hw hw 129 rfl) (own_hw hw 48 rfl) (notFace_of_selects (args := #[]) (mvT hZ26 (own_hw hw 50 rfl))) (own_hw hw 50 rfl) (own_hw hw 49 rfl) (own_hw hw 51 rfl) (own_hw hw 4 rfl) (by decide) (b := t28) (argsL := []) (rest := []) (own_slen l Z a0 hw z sf t28 vb28 _ _ _ _ T28.heap n0 O28 hG Et28 Ft28 Ct28 At28) rfl Et28 (by rw [hml]; rfl) (lenOf own_pd13941 rfl) rfl (hb hby at_100) (W := 0) (Nat.le_of_eq rfl) (by decide) ?_
    intro v29 T29 L29 X29 q29
    obtain ⟨rfl, N29q, e29⟩ := q29
    have N29 := Fr.app N28 N29q
    show own_Go p e below _ T29 (mkF m 103 #[iv p1, iv p2, iv p3, rv b1, iv 1, rv b22, rv b24, rv t28, iv 3] [(.int 3)])
    refine og_iload X29 hx (hb hby at_103) rfl ?_
    refine og_icY X29 hx 110 (hb hby at_105) (teq rfl).1 (by decide) (by decide) ?_
    refine og_aload X29 hx (hb hby at_110) rfl rfl ?_
    refine og_iconst X29 hx (hb hby at_112) ?_
    refine og_iload X29 hx (hb hby at_113) rfl ?_
    refine og_aloadN X29 hx (hb hby at_115) rfl rfl ?_
    refine og_iload X29 hx (hb hby at_116) rfl ?_
    refine own_callS X29 hx hZ26 hown26 (own_hw hw 130 rfl) (own_hw hw 131 rfl) (own_hw hw 132 rfl) (own_hw hw 133 rfl) (by decide) (argsL := [(.ref t28), (.int 0), (.int 3), (.ref b1), (.int 1)]) (rest := []) (own_at_0_1 l Z a0 hw z sf t28 vb28 _ _ b1 _ c2 c4 c6 c8 T28.heap n0 O28 hG hc4 Et28 Ft28 Ct28 At28 A_b1_28) e29 (by rw [hml]; rfl) (lenOf own_pd39901 rfl) rfl (hb hby at_118) (W := 0) (Nat.le_of_eq rfl) (by decide) ?_
    intro v30 T30 L30 X30 q30
    obtain ⟨rfl, N30q, e30⟩ := q30
    have N30 := Fr.app N29 N30q
    show own_Go p e below _ T30 (mkF m 121 #[iv p1, iv p2, iv p3, rv b1, iv 1, rv b22, rv b24, rv t28, iv 3] [(.int (1 : Int32))])
    refine og_ifN X30 hx (hb hby at_121) (feq (by decide)).1 ?_
    refine og_aload X30 hx (hb hby at_124) rfl rfl ?_
    refine og_iconst X30 hx (hb hby at_126) ?_
    refine og_iload X30 hx (hb hby at_127) rfl ?_
    refine og_aloadN X30 hx (hb hby at_129) rfl rfl ?_
    refine og_iload X30 hx (hb hby at_130) rfl ?_
    refine own_callS X30 hx hZ26 hown26 (own_hw hw 130 rfl) (own_hw hw 131 rfl) (own_hw hw 132 rfl) (own_hw hw 133 rfl) (by decide) (argsL := [(.ref t28), (.int 1), (.int 3), (.ref b1), (.int 1)]) (rest := []) (own_at_1_1 l Z a0 hw z sf t28 vb28 _ _ b1 _ c2 c4 c6 c8 T28.heap n0 O28 hG hc6 Et28 Ft28 Ct28 At28 A_b1_28) e30 (by rw [hml]; rfl) (lenOf own_pd39901 rfl) rfl (hb hby at_132) (W := 0) (Nat.le_of_eq rfl) (by decide) ?_
    intro v31 T31 L31 X31 q31
    obtain ⟨rfl, N31q, e31⟩ := q31
    have N31 := Fr.app N30 N31q
    show own_Go p e below _ T31 (mkF m 135 #[iv p1, iv p2, iv p3, rv b1, iv 1, rv b22, rv b24, rv t28, iv 3] [(.int (1 : Int32))])
    refine og_ifN X31 hx (hb hby at_135) (feq (by decide)).1 ?_
    refine og_aload X31 hx (hb hby at_138) rfl rfl ?_
    refine og_iconst X31 hx (hb hby at_140) ?_
    refine og_iload X31 hx (hb hby at_141) rfl ?_
    refine og_aloadN X31 hx (hb hby at_143) rfl rfl ?_
    refine og_iload X31 hx (hb hby at_144) rfl ?_
    refine own_callS X31 hx hZ26 hown26 (own_hw hw 130 rfl) (own_hw hw 131 rfl) (own_hw hw 132 rfl) (own_hw hw 133 rfl) (by decide) (argsL := [(.ref t28), (.int 2), (.int 3), (.ref b1), (.int 1)]) (rest := []) (own_at_2_1 l Z a0 hw z sf t28 vb28 _ _ b1 _ c2 c4 c6 c8 T28.heap n0 O28 hG hc8 Et28 Ft28 Ct28 At28 A_b1_28) e31 (by rw [hml]; rfl) (lenOf own_pd39901 rfl) rfl (hb hby at_146) (W := 0) (Nat.le_of_eq rfl) (by decide) ?_
    intro v32 T32 L32 X32 q32
    obtain ⟨rfl, N32q, e32⟩ := q32
    have N32 := Fr.app N31 N32q
    show own_Go p e below _ T32 (mkF m 149 #[iv p1, iv p2, iv p3, rv b1, iv 1, rv b22, rv b24, rv t28, iv 3] [(.int (1 : Int32))])
    refine og_ifN X32 hx (hb hby at_149) (feq (by decide)).1 ?_
    refine og_aload X32 hx (hb hby at_152) rfl rfl ?_
    refine og_iconst X32 hx (hb hby at_154) ?_
    refine og_iload X32 hx (hb hby at_155) rfl ?_
    refine og_aloadN X32 hx (hb hby at_157) rfl rfl ?_
    refine og_iload X32 hx (hb hby at_158) rfl ?_
    refine own_callS X32 hx hZ26 hown26 (own_hw hw 130 rfl) (own_hw hw 131 rfl) (own_hw hw 132 rfl) (own_hw hw 133 rfl) (by decide) (argsL := [(.ref t28), (.int 3), (.int 3), (.ref b1), (.int 1)]) (rest := []) (own_at_3_1 l Z a0 hw t28 b1 T28.heap n0) e32 (by rw [hml]; rfl) (lenOf own_pd39901 rfl) rfl (hb hby at_160) (W := 0) (Nat.le_of_eq rfl) (by decide) ?_
    intro v33 T33 L33 X33 q33
    obtain ⟨rfl, N33q, e33⟩ := q33
    have N33 := Fr.app N32 N33q
    show own_Go p e below _ T33 (mkF m 163 #[iv p1, iv p2, iv p3, rv b1, iv 1, rv b22, rv b24, rv t28, iv 3] [(.int (1 : Int32))])
    refine og_ifN X33 hx (hb hby at_163) (feq (by decide)).1 ?_
    refine og_iconst X33 hx (hb hby at_166) ?_
    refine og_goto X33 hx 171 (hb hby at_167) (by decide) (by decide) ?_
    exact own_retIH X33 hx hret hlk (hb hby at_171) rfl (by simp) hZ26 (own_EW hw) C28 e33 hS26 hk28 (by decide) (by decide) (⟨rfl, N33⟩)
  · rw [h]
    show own_Go p e below _ T9 (mkF m 55 #[iv p1, iv p2, iv p3, rv b1, .unset, .unset, .unset, .unset, .unset] [(.int 2)])
    refine og_istore X9 hx #[iv p1, iv p2, iv p3, rv b1, iv 2, .unset, .unset, .unset, .unset] (hb hby at_55) rfl ?_
    refine own_newO X9 hx hZ hown (own_hw hw 2 rfl) (own_hw hw 3 rfl) (own_hw hw 4 rfl) e9 (hb hby at_57) (by decide) (by decide) ?_
    intro T34 h34 b34 g34 X34 e34 E34 A34 D34
    have ne_b1_b34 : b1 ≠ b34 := Nat.ne_of_lt (Nat.lt_of_lt_of_eq A_b1_9.lt g34.symm)
    have ge_b34 : n0 ≤ b34 := Nat.le_trans (own_oldle O9) (Nat.le_of_eq g34.symm)
    have S_b34 : Safe Z own_EL s.vm h9 b34 := Safe.new (Nat.le_of_eq g34.symm)
    have hk34 := Nat.le_trans hk9 E34.1
    have A_b1_34 := A_b1_9.ext E34
    have S_b34_34 := Safe.ext E34 C9.1 S_b34
    have C34 := C9.trans (CHr.ext E34 C9.1)
    have O34 := O9.ext E34
    have F_b34_coder_34 : Fld Z h34 b34 "java/lang/String" "coder" "B" (.int 0) := D34 (Or.inr (own_hw hw 28 rfl)) (ty := .byte) (by decide)
    have F_b34_value_34 : Fld Z h34 b34 "java/lang/String" "value" "[B" .null := D34 (Or.inr (own_hw hw 30 rfl)) (ty := (.array .byte)) (by decide)
    show own_Go p e below _ T34 (mkF m 60 #[iv p1, iv p2, iv p3, rv b1, iv 2, .unset, .unset, .unset, .unset] [(.ref b34)])
    refine og_dup X34 hx (hb hby at_60) rfl ?_
    refine og_aloadN X34 hx (hb hby at_61) rfl rfl ?_
    have hws : ∀ d ∈ StrChars.Road.words, d.before a0 Z = true := fun d hd => hw d ((by decide +kernel : ∀ d ∈ StrChars.Road.words, d ∈ tables_1) d hd)
    have hp35 : ∀ c ∈ ([c2, c4, c6, c8] : List Int32), ¬ c < 0 ∧ ¬ (255 : Int32) < c := by
      intro c hc; simp only [List.mem_cons, List.not_mem_nil, or_false] at hc; rcases hc with rfl | rfl | rfl | rfl <;> assumption
    refine own_callNB X34 hx hZ hown (own_hw hw 5 rfl) (own_hw hw 6 rfl) (own_hw hw 7 rfl) (own_hw hw 4 rfl) (by decide) rfl (b := b34) (argsL := [(.ref b1)]) (rest := [(.ref b34)]) (StrChars.Road.backV (W := 1) hZ hws (kI := 4) (own_hw hw 3 rfl) (cs := ([c2, c4, c6, c8] : List Int32)) (bs := (([c2, c4, c6, c8] : List Int32)).map (fun c => c.toInt8.toInt32)) (n := 4) ge_b34 (own_oldle O34) A34 F_b34_value_34 F_b34_coder_34 A_b1_34 (SC.ext O34.2) hz rfl rfl (by decide) (by decide) hp35 rfl (by decide) (by decide)) e34 (by rw [hml]; rfl) (lenOf own_pd46664 rfl) rfl (hb hby at_62) (Nat.le_of_eq rfl) (by decide) (by decide) ?_
    intro v35 T35 L35 X35 q35
    obtain ⟨rfl, N35q, K35q, E35q, C35q, vb35, kb35, ge35, z35q, ne35q, V35q, A35q⟩ := q35
    have N35 := Fr.app N9 N35q
    have ne_b1_vb35 : b1 ≠ vb35 := Nat.ne_of_lt (Nat.lt_of_lt_of_le A_b1_34.lt z35q)
    have ne_b34_vb35 : b34 ≠ vb35 := Nat.ne_of_lt (Nat.lt_of_lt_of_le A34.lt z35q)
    have hk35 := Nat.le_trans hk34 K35q.1
    have hs35 : ∀ x ∈ ([b34] : List Addr), Safe Z own_EL s.vm h34 x := (sfS S_b34_34 sf0)
    have C35 := C34.trans (CHr.keep K35q hs35 C34.1)
    have A_b1_35 := A_b1_34.keep K35q (ninS ne_b1_b34 nin0)
    have S_b34_35 := Safe.keep K35q hs35 C34.1 S_b34_34
    have E_b34_35 := A34.keep K35q
    have O35 := O34.keep K35q (allS ge_b34 all0)
    show own_Go p e below _ T35 (mkF m 65 #[iv p1, iv p2, iv p3, rv b1, iv 2, .unset, .unset, .unset, .unset] [(.ref b34)])
    refine og_astore X35 hx #[iv p1, iv p2, iv p3, rv b1, iv 2, rv b34, .unset, .unset, .unset] (hb hby at_65) rfl rfl ?_
    refine own_newO X35 hx hZ hown (own_hw hw 31 rfl) (own_hw hw 32 rfl) (own_hw hw 33 rfl) rfl (hb hby at_67) (by decide) (by decide) ?_
    intro T36 h36 b36 g36 X36 e36 E36 A36 D36
    have ne_b1_b36 : b1 ≠ b36 := Nat.ne_of_lt (Nat.lt_of_lt_of_eq A_b1_35.lt g36.symm)
    have ne_b34_b36 : b34 ≠ b36 := Nat.ne_of_lt (Nat.lt_of_lt_of_eq E_b34_35.lt g36.symm)
    have ne_vb35_b36 : vb35 ≠ b36 := Nat.ne_of_lt (Nat.lt_of_lt_of_eq A35q.lt g36.symm)
    have ge_b36 : n0 ≤ b36 := Nat.le_trans (own_oldle O35) (Nat.le_of_eq g36.symm)
    have hk36 := Nat.le_trans hk35 E36.1
    have A_b1_36 := A_b1_35.ext E36
    have E_b34_36 := E_b34_35.ext E36
    have F_b34_coder_36 := C35q.ext E36
    have F_b34_value_36 := V35q.ext E36
    have A_vb35_36 := A35q.ext E36
    have C36 := C35.trans (CHr.ext E36 C35.1)
    have O36 := O35.ext E36
    have F_b36_number_36 : Fld Z h36 b36 "com/example/winnow/winnow/contacts/ContentLine" "number" "I" (.int 0) := D36 (Or.inr (own_hw hw 66 rfl)) (ty := .int) (by decide)
    have F_b36_text_36 : Fld Z h36 b36 "com/example/winnow/winnow/contacts/ContentLine" "text" "Ljava/lang/String;" .null := D36 (Or.inr (own_hw hw 68 rfl)) (ty := (.object "java/lang/String")) (by decide)
    have F_b36_group_36 : Fld Z h36 b36 "com/example/winnow/winnow/contacts/ContentLine" "group" "Ljava/lang/String;" .null := D36 (Or.inr (own_hw hw 70 rfl)) (ty := (.object "java/lang/String")) (by decide)
    have F_b36_name_36 : Fld Z h36 b36 "com/example/winnow/winnow/contacts/ContentLine" "name" "Ljava/lang/String;" .null := D36 (Or.inr (own_hw hw 72 rfl)) (ty := (.object "java/lang/String")) (by decide)
    have F_b36_valueStart_36 : Fld Z h36 b36 "com/example/winnow/winnow/contacts/ContentLine" "valueStart" "I" (.int 0) := D36 (Or.inr (own_hw hw 74 rfl)) (ty := .int) (by decide)
    show own_Go p e below _ T36 (mkF m 70 #[iv p1, iv p2, iv p3, rv b1, iv 2, rv b34, .unset, .unset, .unset] [(.ref b36)])
    refine og_dup X36 hx (hb hby at_70) rfl ?_
    refine og_iloadN X36 hx (hb hby at_71) rfl ?_
    refine og_aload X36 hx (hb hby at_72) rfl rfl ?_
    refine own_ldcO X36 hx hZ hown (own_hw hw 34 rfl) hwS e36 hS hk36 (own_EW hw) C36.1 (hb hby at_74) 0 (by decide) (by decide) (by decide) (by decide) ?_
    intro s37 T37 h37 k37 X37 e37 E37 hS37 hk37 hZ37 hown37 C37q Lt37
    have A_b1_37 := A_b1_36.ext E37
    have E_b34_37 := E_b34_36.ext E37
    have F_b34_coder_37 := F_b34_coder_36.ext E37
    have F_b34_value_37 := F_b34_value_36.ext E37
    have A_vb35_37 := A_vb35_36.ext E37
    have E_b36_37 := A36.ext E37
    have F_b36_number_37 := F_b36_number_36.ext E37
    have F_b36_text_37 := F_b36_text_36.ext E37
    have F_b36_group_37 := F_b36_group_36.ext E37
    have F_b36_name_37 := F_b36_name_36.ext E37
    have F_b36_valueStart_37 := F_b36_valueStart_36.ext E37
    have C37 := C36.trans C37q
    have O37 := O36.ext E37
    show own_Go p e below _ T37 (mkF m 76 #[iv p1, iv p2, iv p3, rv b1, iv 2, rv b34, .unset, .unset, .unset] [(.ref s37), (.ref b34), (.int p1), (.ref b36), (.ref b36)])
    refine own_ldcO X37 hx hZ37 hown37 (own_hw hw 37 rfl) hwS e37 hS37 hk37 (own_EW hw) C37.1 (hb hby at_76) 4 (by decide) (by decide) (by decide) (by decide) ?_
    intro s38 T38 h38 k38 X38 e38 E38 hS38 hk38 hZ38 hown38 C38q Lt38
    have A_b1_38 := A_b1_37.ext E38
    have E_b34_38 := E_b34_37.ext E38
    have F_b34_coder_38 := F_b34_coder_37.ext E38
    have F_b34_value_38 := F_b34_value_37.ext E38
    have A_vb35_38 := A_vb35_37.ext E38
    have E_b36_38 := E_b36_37.ext E38
    have F_b36_number_38 := F_b36_number_37.ext E38
    have F_b36_text_38 := F_b36_text_37.ext E38
    have F_b36_group_38 := F_b36_group_37.ext E38
    have F_b36_name_38 := F_b36_name_37.ext E38
    have F_b36_valueStart_38 := F_b36_valueStart_37.ext E38
    have C38 := C37.trans C38q
    have O38 := O37.ext E38
    show own_Go p e below _ T38 (mkF m 78 #[iv p1, iv p2, iv p3, rv b1, iv 2, rv b34, .unset, .unset, .unset] [(.ref s38), (.ref s37), (.ref b34), (.int p1), (.ref b36), (.ref b36)])
    refine og_iload X38 hx (hb hby at_78) rfl ?_
    refine own_callN X38 hx hZ38 hown38 (own_hw hw 38 rfl) (own_hw hw 39 rfl) (own_hw hw 40 rfl) (own_hw hw 33 rfl) (by decide) rfl (b := b36) (argsL := [(.int p1), (.ref b34), (.ref s37), (.ref s38), (.int 2)]) (rest := [(.ref b36)]) (own_cl_2 l Z a0 hw z sf b34 vb35 _ _ (.int c2.toInt8.toInt32) (.int c4.toInt8.toInt32) (.int c6.toInt8.toInt32) (.int c8.toInt8.toInt32) b36 s37 s38 p1 _ _ _ _ _ h38 n0 O38 hG E_b34_38 F_b34_value_38 F_b34_coder_38 A_vb35_38 ge_b36 (Ne.symm ne_b34_b36) (Ne.symm ne_vb35_b36) E_b36_38 F_b36_number_38 F_b36_text_38 F_b36_group_38 F_b36_name_38 F_b36_valueStart_38) e38 (by rw [hml]; rfl) (lenOf own_pd51703 rfl) rfl (hb hby at_80) (W := 1) (Nat.le_of_eq rfl) (by decide) ?_
    intro v39 T39 L39 X39 q39
    obtain ⟨rfl, N39q, K39q, Ft39, Fs39⟩ := q39
    have N39 := Fr.app N35 N39q
    have hk39 := Nat.le_trans hk38 K39q.1
    have hs39 : ∀ x ∈ ([b36] : List Addr), Safe Z own_EL T38.vm h38 x := (sfS (Safe.exa (EL := own_EL) hZ38.alike E_b36_38 (by decide) (by decide)) sf0)
    have C39 := C38.trans (CHr.keep K39q hs39 C38.1)
    have A_b1_39 := A_b1_38.keep K39q (ninS ne_b1_b36 nin0)
    have E_b34_39 := E_b34_38.keep K39q
    have F_b34_coder_39 := F_b34_coder_38.keep K39q (ninS ne_b34_b36 nin0)
    have F_b34_value_39 := F_b34_value_38.keep K39q (ninS ne_b34_b36 nin0)
    have A_vb35_39 := A_vb35_38.keep K39q (ninS ne_vb35_b36 nin0)
    have E_b36_39 := E_b36_38.keep K39q
    have O39 := O38.keep K39q (allS ge_b36 all0)
    show own_Go p e below _ T39 (mkF m 83 #[iv p1, iv p2, iv p3, rv b1, iv 2, rv b34, .unset, .unset, .unset] [(.ref b36)])
    refine og_astore X39 hx #[iv p1, iv p2, iv p3, rv b1, iv 2, rv b34, rv b36, .unset, .unset] (hb hby at_83) rfl rfl ?_
    refine og_aload X39 hx (hb hby at_85) rfl rfl ?_
    refine own_callV X39 hx hZ38 hown38 (own_hw hw 75 rfl) (own_hw hw 76 rfl) (notFace_of_selects (args := #[]) (mvT hZ38 (own_hw hw 78 rfl))) (own_hw hw 78 rfl) (own_hw hw 77 rfl) (own_hw hw 79 rfl) (own_hw hw 33 rfl) (by decide) (b := b36) (argsL := []) (rest := []) (own_va_2 l Z a0 hw z sf b34 vb35 _ _ (.int c2.toInt8.toInt32) (.int c4.toInt8.toInt32) (.int c6.toInt8.toInt32) (.int c8.toInt8.toInt32) b36 T39.heap n0 O39 hG E_b34_39 F_b34_value_39 F_b34_coder_39 A_vb35_39 Ft39 Fs39) rfl E_b36_39 (by rw [hml]; rfl) (lenOf own_pd53479 rfl) rfl (hb hby at_87) (W := 0) (Nat.le_of_eq rfl) (by decide) ?_
    intro v40 T40 L40 X40 q40
    obtain ⟨t40, vb40, k40, rfl, N40q, K40q, zt40, gt40, zb40, gb40, ne_t40_vb40, Et40, Ft40, Ct40, At40⟩ := q40
    have N40 := Fr.app N39 N40q
    have ne_b1_t40 : b1 ≠ t40 := Nat.ne_of_lt (Nat.lt_of_lt_of_le A_b1_39.lt zt40)
    have ne_b34_t40 : b34 ≠ t40 := Nat.ne_of_lt (Nat.lt_of_lt_of_le E_b34_39.lt zt40)
    have ne_b36_t40 : b36 ≠ t40 := Nat.ne_of_lt (Nat.lt_of_lt_of_le E_b36_39.lt zt40)
    have ne_vb35_t40 : vb35 ≠ t40 := Nat.ne_of_lt (Nat.lt_of_lt_of_le A_vb35_39.lt zt40)
    have ne_b1_vb40 : b1 ≠ vb40 := Nat.ne_of_lt (Nat.lt_of_lt_of_le A_b1_39.lt zb40)
    have ne_b34_vb40 : b34 ≠ vb40 := Nat.ne_of_lt (Nat.lt_of_lt_of_le E_b34_39.lt zb40)
    have ne_b36_vb40 : b36 ≠ vb40 := Nat.ne_of_lt (Nat.lt_of_lt_of_le E_b36_39.lt zb40)
    have ne_vb35_vb40 : vb35 ≠ vb40 := Nat.ne_of_lt (Nat.lt_of_lt_of_le A_vb35_39.lt zb40)
    have hk40 := Nat.le_trans hk39 K40q.1
    have hs40 : ∀ x ∈ ([] : List Addr), Safe Z own_EL T38.vm T39.heap x := sf0
    have C40 := C39.trans (CHr.keep K40q hs40 C39.1)
    have A_b1_40 := A_b1_39.keep K40q nin0
    have E_b34_40 := E_b34_39.keep K40q
    have F_b34_coder_40 := F_b34_coder_39.keep K40q nin0
    have F_b34_value_40 := F_b34_value_39.keep K40q nin0
    have A_vb35_40 := A_vb35_39.keep K40q nin0
    have E_b36_40 := E_b36_39.keep K40q
    have F_b36_text_40 := Ft39.keep K40q nin0
    have F_b36_valueStart_40 := Fs39.keep K40q nin0
    have O40 := O39.keep K40q all0
    show own_Go p e below _ T40 (mkF m 90 #[iv p1, iv p2, iv p3, rv b1, iv 2, rv b34, rv b36, .unset, .unset] [(.ref t40)])
    refine og_astore X40 hx #[iv p1, iv p2, iv p3, rv b1, iv 2, rv b34, rv b36, rv t40, .unset] (hb hby at_90) rfl rfl ?_
    refine og_iconst X40 hx (hb hby at_92) ?_
    refine og_iload X40 hx (hb hby at_93) rfl ?_
    refine og_isub X40 hx (hb hby at_95) ?_
    refine og_istore X40 hx #[iv p1, iv p2, iv p3, rv b1, iv 2, rv b34, rv b36, rv t40, iv 2] (hb hby at_96) rfl ?_
    refine og_aload X40 hx (hb hby at_98) rfl rfl ?_
    refine own_callV X40 hx hZ38 hown38 (own_hw hw 129 rfl) (own_hw hw 48 rfl) (notFace_of_selects (args := #[]) (mvT hZ38 (own_hw hw 50 rfl))) (own_hw hw 50 rfl) (own_hw hw 49 rfl) (own_hw hw 51 rfl) (own_hw hw 4 rfl) (by decide) (b := t40) (argsL := []) (rest := []) (own_slen l Z a0 hw z sf t40 vb40 _ _ _ _ T40.heap n0 O40 hG Et40 Ft40 Ct40 At40) rfl Et40 (by rw [hml]; rfl) (lenOf own_pd13941 rfl) rfl (hb hby at_100) (W := 0) (Nat.le_of_eq rfl) (by decide) ?_
    intro v41 T41 L41 X41 q41
    obtain ⟨rfl, N41q, e41⟩ := q41
    have N41 := Fr.app N40 N41q
    show own_Go p e below _ T41 (mkF m 103 #[iv p1, iv p2, iv p3, rv b1, iv 2, rv b34, rv b36, rv t40, iv 2] [(.int 2)])
    refine og_iload X41 hx (hb hby at_103) rfl ?_
    refine og_icY X41 hx 110 (hb hby at_105) (teq rfl).1 (by decide) (by decide) ?_
    refine og_aload X41 hx (hb hby at_110) rfl rfl ?_
    refine og_iconst X41 hx (hb hby at_112) ?_
    refine og_iload X41 hx (hb hby at_113) rfl ?_
    refine og_aloadN X41 hx (hb hby at_115) rfl rfl ?_
    refine og_iload X41 hx (hb hby at_116) rfl ?_
    refine own_callS X41 hx hZ38 hown38 (own_hw hw 130 rfl) (own_hw hw 131 rfl) (own_hw hw 132 rfl) (own_hw hw 133 rfl) (by decide) (argsL := [(.ref t40), (.int 0), (.int 2), (.ref b1), (.int 2)]) (rest := []) (own_at_0_2 l Z a0 hw z sf t40 vb40 _ _ b1 _ c2 c4 c6 c8 T40.heap n0 O40 hG hc6 Et40 Ft40 Ct40 At40 A_b1_40) e41 (by rw [hml]; rfl) (lenOf own_pd39901 rfl) rfl (hb hby at_118) (W := 0) (Nat.le_of_eq rfl) (by decide) ?_
    intro v42 T42 L42 X42 q42
    obtain ⟨rfl, N42q, e42⟩ := q42
    have N42 := Fr.app N41 N42q
    show own_Go p e below _ T42 (mkF m 121 #[iv p1, iv p2, iv p3, rv b1, iv 2, rv b34, rv b36, rv t40, iv 2] [(.int (1 : Int32))])
    refine og_ifN X42 hx (hb hby at_121) (feq (by decide)).1 ?_
    refine og_aload X42 hx (hb hby at_124) rfl rfl ?_
    refine og_iconst X42 hx (hb hby at_126) ?_
    refine og_iload X42 hx (hb hby at_127) rfl ?_
    refine og_aloadN X42 hx (hb hby at_129) rfl rfl ?_
    refine og_iload X42 hx (hb hby at_130) rfl ?_
    refine own_callS X42 hx hZ38 hown38 (own_hw hw 130 rfl) (own_hw hw 131 rfl) (own_hw hw 132 rfl) (own_hw hw 133 rfl) (by decide) (argsL := [(.ref t40), (.int 1), (.int 2), (.ref b1), (.int 2)]) (rest := []) (own_at_1_2 l Z a0 hw z sf t40 vb40 _ _ b1 _ c2 c4 c6 c8 T40.heap n0 O40 hG hc8 Et40 Ft40 Ct40 At40 A_b1_40) e42 (by rw [hml]; rfl) (lenOf own_pd39901 rfl) rfl (hb hby at_132) (W := 0) (Nat.le_of_eq rfl) (by decide) ?_
    intro v43 T43 L43 X43 q43
    obtain ⟨rfl, N43q, e43⟩ := q43
    have N43 := Fr.app N42 N43q
    show own_Go p e below _ T43 (mkF m 135 #[iv p1, iv p2, iv p3, rv b1, iv 2, rv b34, rv b36, rv t40, iv 2] [(.int (1 : Int32))])
    refine og_ifN X43 hx (hb hby at_135) (feq (by decide)).1 ?_
    refine og_aload X43 hx (hb hby at_138) rfl rfl ?_
    refine og_iconst X43 hx (hb hby at_140) ?_
    refine og_iload X43 hx (hb hby at_141) rfl ?_
    refine og_aloadN X43 hx (hb hby at_143) rfl rfl ?_
    refine og_iload X43 hx (hb hby at_144) rfl ?_
    refine own_callS X43 hx hZ38 hown38 (own_hw hw 130 rfl) (own_hw hw 131 rfl) (own_hw hw 132 rfl) (own_hw hw 133 rfl) (by decide) (argsL := [(.ref t40), (.int 2), (.int 2), (.ref b1), (.int 2)]) (rest := []) (own_at_2_2 l Z a0 hw t40 b1 T40.heap n0) e43 (by rw [hml]; rfl) (lenOf own_pd39901 rfl) rfl (hb hby at_146) (W := 0) (Nat.le_of_eq rfl) (by decide) ?_
    intro v44 T44 L44 X44 q44
    obtain ⟨rfl, N44q, e44⟩ := q44
    have N44 := Fr.app N43 N44q
    show own_Go p e below _ T44 (mkF m 149 #[iv p1, iv p2, iv p3, rv b1, iv 2, rv b34, rv b36, rv t40, iv 2] [(.int (1 : Int32))])
    refine og_ifN X44 hx (hb hby at_149) (feq (by decide)).1 ?_
    refine og_aload X44 hx (hb hby at_152) rfl rfl ?_
    refine og_iconst X44 hx (hb hby at_154) ?_
    refine og_iload X44 hx (hb hby at_155) rfl ?_
    refine og_aloadN X44 hx (hb hby at_157) rfl rfl ?_
    refine og_iload X44 hx (hb hby at_158) rfl ?_
    refine own_callS X44 hx hZ38 hown38 (own_hw hw 130 rfl) (own_hw hw 131 rfl) (own_hw hw 132 rfl) (own_hw hw 133 rfl) (by decide) (argsL := [(.ref t40), (.int 3), (.int 2), (.ref b1), (.int 2)]) (rest := []) (own_at_3_2 l Z a0 hw t40 b1 T40.heap n0) e44 (by rw [hml]; rfl) (lenOf own_pd39901 rfl) rfl (hb hby at_160) (W := 0) (Nat.le_of_eq rfl) (by decide) ?_
    intro v45 T45 L45 X45 q45
    obtain ⟨rfl, N45q, e45⟩ := q45
    have N45 := Fr.app N44 N45q
    show own_Go p e below _ T45 (mkF m 163 #[iv p1, iv p2, iv p3, rv b1, iv 2, rv b34, rv b36, rv t40, iv 2] [(.int (1 : Int32))])
    refine og_ifN X45 hx (hb hby at_163) (feq (by decide)).1 ?_
    refine og_iconst X45 hx (hb hby at_166) ?_
    refine og_goto X45 hx 171 (hb hby at_167) (by decide) (by decide) ?_
    exact own_retIH X45 hx hret hlk (hb hby at_171) rfl (by simp) hZ38 (own_EW hw) C40 e45 hS38 hk40 (by decide) (by decide) (⟨rfl, N45⟩)
  · rw [h]
    show own_Go p e below _ T9 (mkF m 55 #[iv p1, iv p2, iv p3, rv b1, .unset, .unset, .unset, .unset, .unset] [(.int 3)])
    refine og_istore X9 hx #[iv p1, iv p2, iv p3, rv b1, iv 3, .unset, .unset, .unset, .unset] (hb hby at_55) rfl ?_
    refine own_newO X9 hx hZ hown (own_hw hw 2 rfl) (own_hw hw 3 rfl) (own_hw hw 4 rfl) e9 (hb hby at_57) (by decide) (by decide) ?_
    intro T46 h46 b46 g46 X46 e46 E46 A46 D46
    have ne_b1_b46 : b1 ≠ b46 := Nat.ne_of_lt (Nat.lt_of_lt_of_eq A_b1_9.lt g46.symm)
    have ge_b46 : n0 ≤ b46 := Nat.le_trans (own_oldle O9) (Nat.le_of_eq g46.symm)
    have S_b46 : Safe Z own_EL s.vm h9 b46 := Safe.new (Nat.le_of_eq g46.symm)
    have hk46 := Nat.le_trans hk9 E46.1
    have A_b1_46 := A_b1_9.ext E46
    have S_b46_46 := Safe.ext E46 C9.1 S_b46
    have C46 := C9.trans (CHr.ext E46 C9.1)
    have O46 := O9.ext E46
    have F_b46_coder_46 : Fld Z h46 b46 "java/lang/String" "coder" "B" (.int 0) := D46 (Or.inr (own_hw hw 28 rfl)) (ty := .byte) (by decide)
    have F_b46_value_46 : Fld Z h46 b46 "java/lang/String" "value" "[B" .null := D46 (Or.inr (own_hw hw 30 rfl)) (ty := (.array .byte)) (by decide)
    show own_Go p e below _ T46 (mkF m 60 #[iv p1, iv p2, iv p3, rv b1, iv 3, .unset, .unset, .unset, .unset] [(.ref b46)])
    refine og_dup X46 hx (hb hby at_60) rfl ?_
    refine og_aloadN X46 hx (hb hby at_61) rfl rfl ?_
    have hws : ∀ d ∈ StrChars.Road.words, d.before a0 Z = true := fun d hd => hw d ((by decide +kernel : ∀ d ∈ StrChars.Road.words, d ∈ tables_1) d hd)
    have hp47 : ∀ c ∈ ([c2, c4, c6, c8] : List Int32), ¬ c < 0 ∧ ¬ (255 : Int32) < c := by
      intro c hc; simp only [List.mem_cons, List.not_mem_nil, or_false] at hc; rcases hc with rfl | rfl | rfl | rfl <;> assumption
    refine own_callNB X46 hx hZ hown (own_hw hw 5 rfl) (own_hw hw 6 rfl) (own_hw hw 7 rfl) (own_hw hw 4 rfl) (by decide) rfl (b := b46) (argsL := [(.ref b1)]) (rest := [(.ref b46)]) (StrChars.Road.backV (W := 1) hZ hws (kI := 4) (own_hw hw 3 rfl) (cs := ([c2, c4, c6, c8] : List Int32)) (bs := (([c2, c4, c6, c8] : List Int32)).map (fun c => c.toInt8.toInt32)) (n := 4) ge_b46 (own_oldle O46) A46 F_b46_value_46 F_b46_coder_46 A_b1_46 (SC.ext O46.2) hz rfl rfl (by decide) (by decide) hp47 rfl (by decide) (by decide)) e46 (by rw [hml]; rfl) (lenOf own_pd46664 rfl) rfl (hb hby at_62) (Nat.le_of_eq rfl) (by decide) (by decide) ?_
    intro v47 T47 L47 X47 q47
    obtain ⟨rfl, N47q, K47q, E47q, C47q, vb47, kb47, ge47, z47q, ne47q, V47q, A47q⟩ := q47
    have N47 := Fr.app N9 N47q
    have ne_b1_vb47 : b1 ≠ vb47 := Nat.ne_of_lt (Nat.lt_of_lt_of_le A_b1_46.lt z47q)
    have ne_b46_vb47 : b46 ≠ vb47 := Nat.ne_of_lt (Nat.lt_of_lt_of_le A46.lt z47q)
    have hk47 := Nat.le_trans hk46 K47q.1
    have hs47 : ∀ x ∈ ([b46] : List Addr), Safe Z own_EL s.vm h46 x := (sfS S_b46_46 sf0)
    have C47 := C46.trans (CHr.keep K47q hs47 C46.1)
    have A_b1_47 := A_b1_46.keep K47q (ninS ne_b1_b46 nin0)
    have S_b46_47 := Safe.keep K47q hs47 C46.1 S_b46_46
    have E_b46_47 := A46.keep K47q
    have O47 := O46.keep K47q (allS ge_b46 all0)
    show own_Go p e below _ T47 (mkF m 65 #[iv p1, iv p2, iv p3, rv b1, iv 3, .unset, .unset, .unset, .unset] [(.ref b46)])
    refine og_astore X47 hx #[iv p1, iv p2, iv p3, rv b1, iv 3, rv b46, .unset, .unset, .unset] (hb hby at_65) rfl rfl ?_
    refine own_newO X47 hx hZ hown (own_hw hw 31 rfl) (own_hw hw 32 rfl) (own_hw hw 33 rfl) rfl (hb hby at_67) (by decide) (by decide) ?_
    intro T48 h48 b48 g48 X48 e48 E48 A48 D48
    have ne_b1_b48 : b1 ≠ b48 := Nat.ne_of_lt (Nat.lt_of_lt_of_eq A_b1_47.lt g48.symm)
    have ne_b46_b48 : b46 ≠ b48 := Nat.ne_of_lt (Nat.lt_of_lt_of_eq E_b46_47.lt g48.symm)
    have ne_vb47_b48 : vb47 ≠ b48 := Nat.ne_of_lt (Nat.lt_of_lt_of_eq A47q.lt g48.symm)
    have ge_b48 : n0 ≤ b48 := Nat.le_trans (own_oldle O47) (Nat.le_of_eq g48.symm)
    have hk48 := Nat.le_trans hk47 E48.1
    have A_b1_48 := A_b1_47.ext E48
    have E_b46_48 := E_b46_47.ext E48
    have F_b46_coder_48 := C47q.ext E48
    have F_b46_value_48 := V47q.ext E48
    have A_vb47_48 := A47q.ext E48
    have C48 := C47.trans (CHr.ext E48 C47.1)
    have O48 := O47.ext E48
    have F_b48_number_48 : Fld Z h48 b48 "com/example/winnow/winnow/contacts/ContentLine" "number" "I" (.int 0) := D48 (Or.inr (own_hw hw 66 rfl)) (ty := .int) (by decide)
    have F_b48_text_48 : Fld Z h48 b48 "com/example/winnow/winnow/contacts/ContentLine" "text" "Ljava/lang/String;" .null := D48 (Or.inr (own_hw hw 68 rfl)) (ty := (.object "java/lang/String")) (by decide)
    have F_b48_group_48 : Fld Z h48 b48 "com/example/winnow/winnow/contacts/ContentLine" "group" "Ljava/lang/String;" .null := D48 (Or.inr (own_hw hw 70 rfl)) (ty := (.object "java/lang/String")) (by decide)
    have F_b48_name_48 : Fld Z h48 b48 "com/example/winnow/winnow/contacts/ContentLine" "name" "Ljava/lang/String;" .null := D48 (Or.inr (own_hw hw 72 rfl)) (ty := (.object "java/lang/String")) (by decide)
    have F_b48_valueStart_48 : Fld Z h48 b48 "com/example/winnow/winnow/contacts/ContentLine" "valueStart" "I" (.int 0) := D48 (Or.inr (own_hw hw 74 rfl)) (ty := .int) (by decide)
    show own_Go p e below _ T48 (mkF m 70 #[iv p1, iv p2, iv p3, rv b1, iv 3, rv b46, .unset, .unset, .unset] [(.ref b48)])
    refine og_dup X48 hx (hb hby at_70) rfl ?_
    refine og_iloadN X48 hx (hb hby at_71) rfl ?_
    refine og_aload X48 hx (hb hby at_72) rfl rfl ?_
    refine own_ldcO X48 hx hZ hown (own_hw hw 34 rfl) hwS e48 hS hk48 (own_EW hw) C48.1 (hb hby at_74) 0 (by decide) (by decide) (by decide) (by decide) ?_
    intro s49 T49 h49 k49 X49 e49 E49 hS49 hk49 hZ49 hown49 C49q Lt49
    have A_b1_49 := A_b1_48.ext E49
    have E_b46_49 := E_b46_48.ext E49
    have F_b46_coder_49 := F_b46_coder_48.ext E49
    have F_b46_value_49 := F_b46_value_48.ext E49
    have A_vb47_49 := A_vb47_48.ext E49
    have E_b48_49 := A48.ext E49
    have F_b48_number_49 := F_b48_number_48.ext E49
    have F_b48_text_49 := F_b48_text_48.ext E49
    have F_b48_group_49 := F_b48_group_48.ext E49
    have F_b48_name_49 := F_b48_name_48.ext E49
    have F_b48_valueStart_49 := F_b48_valueStart_48.ext E49
    have C49 := C48.trans C49q
    have O49 := O48.ext E49
    show own_Go p e below _ T49 (mkF m 76 #[iv p1, iv p2, iv p3, rv b1, iv 3, rv b46, .unset, .unset, .unset] [(.ref s49), (.ref b46), (.int p1), (.ref b48), (.ref b48)])
    refine own_ldcO X49 hx hZ49 hown49 (own_hw hw 37 rfl) hwS e49 hS49 hk49 (own_EW hw) C49.1 (hb hby at_76) 4 (by decide) (by decide) (by decide) (by decide) ?_
    intro s50 T50 h50 k50 X50 e50 E50 hS50 hk50 hZ50 hown50 C50q Lt50
    have A_b1_50 := A_b1_49.ext E50
    have E_b46_50 := E_b46_49.ext E50
    have F_b46_coder_50 := F_b46_coder_49.ext E50
    have F_b46_value_50 := F_b46_value_49.ext E50
    have A_vb47_50 := A_vb47_49.ext E50
    have E_b48_50 := E_b48_49.ext E50
    have F_b48_number_50 := F_b48_number_49.ext E50
    have F_b48_text_50 := F_b48_text_49.ext E50
    have F_b48_group_50 := F_b48_group_49.ext E50
    have F_b48_name_50 := F_b48_name_49.ext E50
    have F_b48_valueStart_50 := F_b48_valueStart_49.ext E50
    have C50 := C49.trans C50q
    have O50 := O49.ext E50
    show own_Go p e below _ T50 (mkF m 78 #[iv p1, iv p2, iv p3, rv b1, iv 3, rv b46, .unset, .unset, .unset] [(.ref s50), (.ref s49), (.ref b46), (.int p1), (.ref b48), (.ref b48)])
    refine og_iload X50 hx (hb hby at_78) rfl ?_
    refine own_callN X50 hx hZ50 hown50 (own_hw hw 38 rfl) (own_hw hw 39 rfl) (own_hw hw 40 rfl) (own_hw hw 33 rfl) (by decide) rfl (b := b48) (argsL := [(.int p1), (.ref b46), (.ref s49), (.ref s50), (.int 3)]) (rest := [(.ref b48)]) (own_cl_3 l Z a0 hw z sf b46 vb47 _ _ (.int c2.toInt8.toInt32) (.int c4.toInt8.toInt32) (.int c6.toInt8.toInt32) (.int c8.toInt8.toInt32) b48 s49 s50 p1 _ _ _ _ _ h50 n0 O50 hG E_b46_50 F_b46_value_50 F_b46_coder_50 A_vb47_50 ge_b48 (Ne.symm ne_b46_b48) (Ne.symm ne_vb47_b48) E_b48_50 F_b48_number_50 F_b48_text_50 F_b48_group_50 F_b48_name_50 F_b48_valueStart_50) e50 (by rw [hml]; rfl) (lenOf own_pd51703 rfl) rfl (hb hby at_80) (W := 1) (Nat.le_of_eq rfl) (by decide) ?_
    intro v51 T51 L51 X51 q51
    obtain ⟨rfl, N51q, K51q, Ft51, Fs51⟩ := q51
    have N51 := Fr.app N47 N51q
    have hk51 := Nat.le_trans hk50 K51q.1
    have hs51 : ∀ x ∈ ([b48] : List Addr), Safe Z own_EL T50.vm h50 x := (sfS (Safe.exa (EL := own_EL) hZ50.alike E_b48_50 (by decide) (by decide)) sf0)
    have C51 := C50.trans (CHr.keep K51q hs51 C50.1)
    have A_b1_51 := A_b1_50.keep K51q (ninS ne_b1_b48 nin0)
    have E_b46_51 := E_b46_50.keep K51q
    have F_b46_coder_51 := F_b46_coder_50.keep K51q (ninS ne_b46_b48 nin0)
    have F_b46_value_51 := F_b46_value_50.keep K51q (ninS ne_b46_b48 nin0)
    have A_vb47_51 := A_vb47_50.keep K51q (ninS ne_vb47_b48 nin0)
    have E_b48_51 := E_b48_50.keep K51q
    have O51 := O50.keep K51q (allS ge_b48 all0)
    show own_Go p e below _ T51 (mkF m 83 #[iv p1, iv p2, iv p3, rv b1, iv 3, rv b46, .unset, .unset, .unset] [(.ref b48)])
    refine og_astore X51 hx #[iv p1, iv p2, iv p3, rv b1, iv 3, rv b46, rv b48, .unset, .unset] (hb hby at_83) rfl rfl ?_
    refine og_aload X51 hx (hb hby at_85) rfl rfl ?_
    refine own_callV X51 hx hZ50 hown50 (own_hw hw 75 rfl) (own_hw hw 76 rfl) (notFace_of_selects (args := #[]) (mvT hZ50 (own_hw hw 78 rfl))) (own_hw hw 78 rfl) (own_hw hw 77 rfl) (own_hw hw 79 rfl) (own_hw hw 33 rfl) (by decide) (b := b48) (argsL := []) (rest := []) (own_va_3 l Z a0 hw z sf b46 vb47 _ _ (.int c2.toInt8.toInt32) (.int c4.toInt8.toInt32) (.int c6.toInt8.toInt32) (.int c8.toInt8.toInt32) b48 T51.heap n0 O51 hG E_b46_51 F_b46_value_51 F_b46_coder_51 A_vb47_51 Ft51 Fs51) rfl E_b48_51 (by rw [hml]; rfl) (lenOf own_pd53479 rfl) rfl (hb hby at_87) (W := 0) (Nat.le_of_eq rfl) (by decide) ?_
    intro v52 T52 L52 X52 q52
    obtain ⟨t52, vb52, k52, rfl, N52q, K52q, zt52, gt52, zb52, gb52, ne_t52_vb52, Et52, Ft52, Ct52, At52⟩ := q52
    have N52 := Fr.app N51 N52q
    have ne_b1_t52 : b1 ≠ t52 := Nat.ne_of_lt (Nat.lt_of_lt_of_le A_b1_51.lt zt52)
    have ne_b46_t52 : b46 ≠ t52 := Nat.ne_of_lt (Nat.lt_of_lt_of_le E_b46_51.lt zt52)
    have ne_b48_t52 : b48 ≠ t52 := Nat.ne_of_lt (Nat.lt_of_lt_of_le E_b48_51.lt zt52)
    have ne_vb47_t52 : vb47 ≠ t52 := Nat.ne_of_lt (Nat.lt_of_lt_of_le A_vb47_51.lt zt52)
    have ne_b1_vb52 : b1 ≠ vb52 := Nat.ne_of_lt (Nat.lt_of_lt_of_le A_b1_51.lt zb52)
    have ne_b46_vb52 : b46 ≠ vb52 := Nat.ne_of_lt (Nat.lt_of_lt_of_le E_b46_51.lt zb52)
    have ne_b48_vb52 : b48 ≠ vb52 := Nat.ne_of_lt (Nat.lt_of_lt_of_le E_b48_51.lt zb52)
    have ne_vb47_vb52 : vb47 ≠ vb52 := Nat.ne_of_lt (Nat.lt_of_lt_of_le A_vb47_51.lt zb52)
    have hk52 := Nat.le_trans hk51 K52q.1
    have hs52 : ∀ x ∈ ([] : List Addr), Safe Z own_EL T50.vm T51.heap x := sf0
    have C52 := C51.trans (CHr.keep K52q hs52 C51.1)
    have A_b1_52 := A_b1_51.keep K52q nin0
    have E_b46_52 := E_b46_51.keep K52q
    have F_b46_coder_52 := F_b46_coder_51.keep K52q nin0
    have F_b46_value_52 := F_b46_value_51.keep K52q nin0
    have A_vb47_52 := A_vb47_51.keep K52q nin0
    have E_b48_52 := E_b48_51.keep K52q
    have F_b48_text_52 := Ft51.keep K52q nin0
    have F_b48_valueStart_52 := Fs51.keep K52q nin0
    have O52 := O51.keep K52q all0
    show own_Go p e below _ T52 (mkF m 90 #[iv p1, iv p2, iv p3, rv b1, iv 3, rv b46, rv b48, .unset, .unset] [(.ref t52)])
    refine og_astore X52 hx #[iv p1, iv p2, iv p3, rv b1, iv 3, rv b46, rv b48, rv t52, .unset] (hb hby at_90) rfl rfl ?_
    refine og_iconst X52 hx (hb hby at_92) ?_
    refine og_iload X52 hx (hb hby at_93) rfl ?_
    refine og_isub X52 hx (hb hby at_95) ?_
    refine og_istore X52 hx #[iv p1, iv p2, iv p3, rv b1, iv 3, rv b46, rv b48, rv t52, iv 1] (hb hby at_96) rfl ?_
    refine og_aload X52 hx (hb hby at_98) rfl rfl ?_
    refine own_callV X52 hx hZ50 hown50 (own_hw hw 129 rfl) (own_hw hw 48 rfl) (notFace_of_selects (args := #[]) (mvT hZ50 (own_hw hw 50 rfl))) (own_hw hw 50 rfl) (own_hw hw 49 rfl) (own_hw hw 51 rfl) (own_hw hw 4 rfl) (by decide) (b := t52) (argsL := []) (rest := []) (own_slen l Z a0 hw z sf t52 vb52 _ _ _ _ T52.heap n0 O52 hG Et52 Ft52 Ct52 At52) rfl Et52 (by rw [hml]; rfl) (lenOf own_pd13941 rfl) rfl (hb hby at_100) (W := 0) (Nat.le_of_eq rfl) (by decide) ?_
    intro v53 T53 L53 X53 q53
    obtain ⟨rfl, N53q, e53⟩ := q53
    have N53 := Fr.app N52 N53q
    show own_Go p e below _ T53 (mkF m 103 #[iv p1, iv p2, iv p3, rv b1, iv 3, rv b46, rv b48, rv t52, iv 1] [(.int 1)])
    refine og_iload X53 hx (hb hby at_103) rfl ?_
    refine og_icY X53 hx 110 (hb hby at_105) (teq rfl).1 (by decide) (by decide) ?_
    refine og_aload X53 hx (hb hby at_110) rfl rfl ?_
    refine og_iconst X53 hx (hb hby at_112) ?_
    refine og_iload X53 hx (hb hby at_113) rfl ?_
    refine og_aloadN X53 hx (hb hby at_115) rfl rfl ?_
    refine og_iload X53 hx (hb hby at_116) rfl ?_
    refine own_callS X53 hx hZ50 hown50 (own_hw hw 130 rfl) (own_hw hw 131 rfl) (own_hw hw 132 rfl) (own_hw hw 133 rfl) (by decide) (argsL := [(.ref t52), (.int 0), (.int 1), (.ref b1), (.int 3)]) (rest := []) (own_at_0_3 l Z a0 hw z sf t52 vb52 _ _ b1 _ c2 c4 c6 c8 T52.heap n0 O52 hG hc8 Et52 Ft52 Ct52 At52 A_b1_52) e53 (by rw [hml]; rfl) (lenOf own_pd39901 rfl) rfl (hb hby at_118) (W := 0) (Nat.le_of_eq rfl) (by decide) ?_
    intro v54 T54 L54 X54 q54
    obtain ⟨rfl, N54q, e54⟩ := q54
    have N54 := Fr.app N53 N54q
    show own_Go p e below _ T54 (mkF m 121 #[iv p1, iv p2, iv p3, rv b1, iv 3, rv b46, rv b48, rv t52, iv 1] [(.int (1 : Int32))])
    refine og_ifN X54 hx (hb hby at_121) (feq (by decide)).1 ?_
    refine og_aload X54 hx (hb hby at_124) rfl rfl ?_
    refine og_iconst X54 hx (hb hby at_126) ?_
    refine og_iload X54 hx (hb hby at_127) rfl ?_
    refine og_aloadN X54 hx (hb hby at_129) rfl rfl ?_
    refine og_iload X54 hx (hb hby at_130) rfl ?_
    refine own_callS X54 hx hZ50 hown50 (own_hw hw 130 rfl) (own_hw hw 131 rfl) (own_hw hw 132 rfl) (own_hw hw 133 rfl) (by decide) (argsL := [(.ref t52), (.int 1), (.int 1), (.ref b1), (.int 3)]) (rest := []) (own_at_1_3 l Z a0 hw t52 b1 T52.heap n0) e54 (by rw [hml]; rfl) (lenOf own_pd39901 rfl) rfl (hb hby at_132) (W := 0) (Nat.le_of_eq rfl) (by decide) ?_
    intro v55 T55 L55 X55 q55
    obtain ⟨rfl, N55q, e55⟩ := q55
    have N55 := Fr.app N54 N55q
    show own_Go p e below _ T55 (mkF m 135 #[iv p1, iv p2, iv p3, rv b1, iv 3, rv b46, rv b48, rv t52, iv 1] [(.int (1 : Int32))])
    refine og_ifN X55 hx (hb hby at_135) (feq (by decide)).1 ?_
    refine og_aload X55 hx (hb hby at_138) rfl rfl ?_
    refine og_iconst X55 hx (hb hby at_140) ?_
    refine og_iload X55 hx (hb hby at_141) rfl ?_
    refine og_aloadN X55 hx (hb hby at_143) rfl rfl ?_
    refine og_iload X55 hx (hb hby at_144) rfl ?_
    refine own_callS X55 hx hZ50 hown50 (own_hw hw 130 rfl) (own_hw hw 131 rfl) (own_hw hw 132 rfl) (own_hw hw 133 rfl) (by decide) (argsL := [(.ref t52), (.int 2), (.int 1), (.ref b1), (.int 3)]) (rest := []) (own_at_2_3 l Z a0 hw t52 b1 T52.heap n0) e55 (by rw [hml]; rfl) (lenOf own_pd39901 rfl) rfl (hb hby at_146) (W := 0) (Nat.le_of_eq rfl) (by decide) ?_
    intro v56 T56 L56 X56 q56
    obtain ⟨rfl, N56q, e56⟩ := q56
    have N56 := Fr.app N55 N56q
    show own_Go p e below _ T56 (mkF m 149 #[iv p1, iv p2, iv p3, rv b1, iv 3, rv b46, rv b48, rv t52, iv 1] [(.int (1 : Int32))])
    refine og_ifN X56 hx (hb hby at_149) (feq (by decide)).1 ?_
    refine og_aload X56 hx (hb hby at_152) rfl rfl ?_
    refine og_iconst X56 hx (hb hby at_154) ?_
    refine og_iload X56 hx (hb hby at_155) rfl ?_
    refine og_aloadN X56 hx (hb hby at_157) rfl rfl ?_
    refine og_iload X56 hx (hb hby at_158) rfl ?_
    refine own_callS X56 hx hZ50 hown50 (own_hw hw 130 rfl) (own_hw hw 131 rfl) (own_hw hw 132 rfl) (own_hw hw 133 rfl) (by decide) (argsL := [(.ref t52), (.int 3), (.int 1), (.ref b1), (.int 3)]) (rest := []) (own_at_3_3 l Z a0 hw t52 b1 T52.heap n0) e56 (by rw [hml]; rfl) (lenOf own_pd39901 rfl) rfl (hb hby at_160) (W := 0) (Nat.le_of_eq rfl) (by decide) ?_
    intro v57 T57 L57 X57 q57
    obtain ⟨rfl, N57q, e57⟩ := q57
    have N57 := Fr.app N56 N57q
    show own_Go p e below _ T57 (mkF m 163 #[iv p1, iv p2, iv p3, rv b1, iv 3, rv b46, rv b48, rv t52, iv 1] [(.int (1 : Int32))])
    refine og_ifN X57 hx (hb hby at_163) (feq (by decide)).1 ?_
    refine og_iconst X57 hx (hb hby at_166) ?_
    refine og_goto X57 hx 171 (hb hby at_167) (by decide) (by decide) ?_
    exact own_retIH X57 hx hret hlk (hb hby at_171) rfl (by simp) hZ50 (own_EW hw) C52 e57 hS50 hk52 (by decide) (by decide) (⟨rfl, N57⟩)
  · rw [h]
    show own_Go p e below _ T9 (mkF m 55 #[iv p1, iv p2, iv p3, rv b1, .unset, .unset, .unset, .unset, .unset] [(.int 4)])
    refine og_istore X9 hx #[iv p1, iv p2, iv p3, rv b1, iv 4, .unset, .unset, .unset, .unset] (hb hby at_55) rfl ?_
    refine own_newO X9 hx hZ hown (own_hw hw 2 rfl) (own_hw hw 3 rfl) (own_hw hw 4 rfl) e9 (hb hby at_57) (by decide) (by decide) ?_
    intro T58 h58 b58 g58 X58 e58 E58 A58 D58
    have ne_b1_b58 : b1 ≠ b58 := Nat.ne_of_lt (Nat.lt_of_lt_of_eq A_b1_9.lt g58.symm)
    have ge_b58 : n0 ≤ b58 := Nat.le_trans (own_oldle O9) (Nat.le_of_eq g58.symm)
    have S_b58 : Safe Z own_EL s.vm h9 b58 := Safe.new (Nat.le_of_eq g58.symm)
    have hk58 := Nat.le_trans hk9 E58.1
    have A_b1_58 := A_b1_9.ext E58
    have S_b58_58 := Safe.ext E58 C9.1 S_b58
    have C58 := C9.trans (CHr.ext E58 C9.1)
    have O58 := O9.ext E58
    have F_b58_coder_58 : Fld Z h58 b58 "java/lang/String" "coder" "B" (.int 0) := D58 (Or.inr (own_hw hw 28 rfl)) (ty := .byte) (by decide)
    have F_b58_value_58 : Fld Z h58 b58 "java/lang/String" "value" "[B" .null := D58 (Or.inr (own_hw hw 30 rfl)) (ty := (.array .byte)) (by decide)
    show own_Go p e below _ T58 (mkF m 60 #[iv p1, iv p2, iv p3, rv b1, iv 4, .unset, .unset, .unset, .unset] [(.ref b58)])
    refine og_dup X58 hx (hb hby at_60) rfl ?_
    refine og_aloadN X58 hx (hb hby at_61) rfl rfl ?_
    have hws : ∀ d ∈ StrChars.Road.words, d.before a0 Z = true := fun d hd => hw d ((by decide +kernel : ∀ d ∈ StrChars.Road.words, d ∈ tables_1) d hd)
    have hp59 : ∀ c ∈ ([c2, c4, c6, c8] : List Int32), ¬ c < 0 ∧ ¬ (255 : Int32) < c := by
      intro c hc; simp only [List.mem_cons, List.not_mem_nil, or_false] at hc; rcases hc with rfl | rfl | rfl | rfl <;> assumption
    refine own_callNB X58 hx hZ hown (own_hw hw 5 rfl) (own_hw hw 6 rfl) (own_hw hw 7 rfl) (own_hw hw 4 rfl) (by decide) rfl (b := b58) (argsL := [(.ref b1)]) (rest := [(.ref b58)]) (StrChars.Road.backV (W := 1) hZ hws (kI := 4) (own_hw hw 3 rfl) (cs := ([c2, c4, c6, c8] : List Int32)) (bs := (([c2, c4, c6, c8] : List Int32)).map (fun c => c.toInt8.toInt32)) (n := 4) ge_b58 (own_oldle O58) A58 F_b58_value_58 F_b58_coder_58 A_b1_58 (SC.ext O58.2) hz rfl rfl (by decide) (by decide) hp59 rfl (by decide) (by decide)) e58 (by rw [hml]; rfl) (lenOf own_pd46664 rfl) rfl (hb hby at_62) (Nat.le_of_eq rfl) (by decide) (by decide) ?_
    intro v59 T59 L59 X59 q59
    obtain ⟨rfl, N59q, K59q, E59q, C59q, vb59, kb59, ge59, z59q, ne59q, V59q, A59q⟩ := q59
    have N59 := Fr.app N9 N59q
    have ne_b1_vb59 : b1 ≠ vb59 := Nat.ne_of_lt (Nat.lt_of_lt_of_le A_b1_58.lt z59q)
    have ne_b58_vb59 : b58 ≠ vb59 := Nat.ne_of_lt (Nat.lt_of_lt_of_le A58.lt z59q)
    have hk59 := Nat.le_trans hk58 K59q.1
    have hs59 : ∀ x ∈ ([b58] : List Addr), Safe Z own_EL s.vm h58 x := (sfS S_b58_58 sf0)
    have C59 := C58.trans (CHr.keep K59q hs59 C58.1)
    have A_b1_59 := A_b1_58.keep K59q (ninS ne_b1_b58 nin0)
    have S_b58_59 := Safe.keep K59q hs59 C58.1 S_b58_58
    have E_b58_59 := A58.keep K59q
    have O59 := O58.keep K59q (allS ge_b58 all0)
    show own_Go p e below _ T59 (mkF m 65 #[iv p1, iv p2, iv p3, rv b1, iv 4, .unset, .unset, .unset, .unset] [(.ref b58)])
    refine og_astore X59 hx #[iv p1, iv p2, iv p3, rv b1, iv 4, rv b58, .unset, .unset, .unset] (hb hby at_65) rfl rfl ?_
    refine own_newO X59 hx hZ hown (own_hw hw 31 rfl) (own_hw hw 32 rfl) (own_hw hw 33 rfl) rfl (hb hby at_67) (by decide) (by decide) ?_
    intro T60 h60 b60 g60 X60 e60 E60 A60 D60
    have ne_b1_b60 : b1 ≠ b60 := Nat.ne_of_lt (Nat.lt_of_lt_of_eq A_b1_59.lt g60.symm)
    have ne_b58_b60 : b58 ≠ b60 := Nat.ne_of_lt (Nat.lt_of_lt_of_eq E_b58_59.lt g60.symm)
    have ne_vb59_b60 : vb59 ≠ b60 := Nat.ne_of_lt (Nat.lt_of_lt_of_eq A59q.lt g60.symm)
    have ge_b60 : n0 ≤ b60 := Nat.le_trans (own_oldle O59) (Nat.le_of_eq g60.symm)
    have hk60 := Nat.le_trans hk59 E60.1
    have A_b1_60 := A_b1_59.ext E60
    have E_b58_60 := E_b58_59.ext E60
    have F_b58_coder_60 := C59q.ext E60
    have F_b58_value_60 := V59q.ext E60
    have A_vb59_60 := A59q.ext E60
    have C60 := C59.trans (CHr.ext E60 C59.1)
    have O60 := O59.ext E60
    have F_b60_number_60 : Fld Z h60 b60 "com/example/winnow/winnow/contacts/ContentLine" "number" "I" (.int 0) := D60 (Or.inr (own_hw hw 66 rfl)) (ty := .int) (by decide)
    have F_b60_text_60 : Fld Z h60 b60 "com/example/winnow/winnow/contacts/ContentLine" "text" "Ljava/lang/String;" .null := D60 (Or.inr (own_hw hw 68 rfl)) (ty := (.object "java/lang/String")) (by decide)
    have F_b60_group_60 : Fld Z h60 b60 "com/example/winnow/winnow/contacts/ContentLine" "group" "Ljava/lang/String;" .null := D60 (Or.inr (own_hw hw 70 rfl)) (ty := (.object "java/lang/String")) (by decide)
    have F_b60_name_60 : Fld Z h60 b60 "com/example/winnow/winnow/contacts/ContentLine" "name" "Ljava/lang/String;" .null := D60 (Or.inr (own_hw hw 72 rfl)) (ty := (.object "java/lang/String")) (by decide)
    have F_b60_valueStart_60 : Fld Z h60 b60 "com/example/winnow/winnow/contacts/ContentLine" "valueStart" "I" (.int 0) := D60 (Or.inr (own_hw hw 74 rfl)) (ty := .int) (by decide)
    show own_Go p e below _ T60 (mkF m 70 #[iv p1, iv p2, iv p3, rv b1, iv 4, rv b58, .unset, .unset, .unset] [(.ref b60)])
    refine og_dup X60 hx (hb hby at_70) rfl ?_
    refine og_iloadN X60 hx (hb hby at_71) rfl ?_
    refine og_aload X60 hx (hb hby at_72) rfl rfl ?_
    refine own_ldcO X60 hx hZ hown (own_hw hw 34 rfl) hwS e60 hS hk60 (own_EW hw) C60.1 (hb hby at_74) 0 (by decide) (by decide) (by decide) (by decide) ?_
    intro s61 T61 h61 k61 X61 e61 E61 hS61 hk61 hZ61 hown61 C61q Lt61
    have A_b1_61 := A_b1_60.ext E61
    have E_b58_61 := E_b58_60.ext E61
    have F_b58_coder_61 := F_b58_coder_60.ext E61
    have F_b58_value_61 := F_b58_value_60.ext E61
    have A_vb59_61 := A_vb59_60.ext E61
    have E_b60_61 := A60.ext E61
    have F_b60_number_61 := F_b60_number_60.ext E61
    have F_b60_text_61 := F_b60_text_60.ext E61
    have F_b60_group_61 := F_b60_group_60.ext E61
    have F_b60_name_61 := F_b60_name_60.ext E61
    have F_b60_valueStart_61 := F_b60_valueStart_60.ext E61
    have C61 := C60.trans C61q
    have O61 := O60.ext E61
    show own_Go p e below _ T61 (mkF m 76 #[iv p1, iv p2, iv p3, rv b1, iv 4, rv b58, .unset, .unset, .unset] [(.ref s61), (.ref b58), (.int p1), (.ref b60), (.ref b60)])
    refine own_ldcO X61 hx hZ61 hown61 (own_hw hw 37 rfl) hwS e61 hS61 hk61 (own_EW hw) C61.1 (hb hby at_76) 4 (by decide) (by decide) (by decide) (by decide) ?_
    intro s62 T62 h62 k62 X62 e62 E62 hS62 hk62 hZ62 hown62 C62q Lt62
    have A_b1_62 := A_b1_61.ext E62
    have E_b58_62 := E_b58_61.ext E62
    have F_b58_coder_62 := F_b58_coder_61.ext E62
    have F_b58_value_62 := F_b58_value_61.ext E62
    have A_vb59_62 := A_vb59_61.ext E62
    have E_b60_62 := E_b60_61.ext E62
    have F_b60_number_62 := F_b60_number_61.ext E62
    have F_b60_text_62 := F_b60_text_61.ext E62
    have F_b60_group_62 := F_b60_group_61.ext E62
    have F_b60_name_62 := F_b60_name_61.ext E62
    have F_b60_valueStart_62 := F_b60_valueStart_61.ext E62
    have C62 := C61.trans C62q
    have O62 := O61.ext E62
    show own_Go p e below _ T62 (mkF m 78 #[iv p1, iv p2, iv p3, rv b1, iv 4, rv b58, .unset, .unset, .unset] [(.ref s62), (.ref s61), (.ref b58), (.int p1), (.ref b60), (.ref b60)])
    refine og_iload X62 hx (hb hby at_78) rfl ?_
    refine own_callN X62 hx hZ62 hown62 (own_hw hw 38 rfl) (own_hw hw 39 rfl) (own_hw hw 40 rfl) (own_hw hw 33 rfl) (by decide) rfl (b := b60) (argsL := [(.int p1), (.ref b58), (.ref s61), (.ref s62), (.int 4)]) (rest := [(.ref b60)]) (own_cl_4 l Z a0 hw z sf b58 vb59 _ _ (.int c2.toInt8.toInt32) (.int c4.toInt8.toInt32) (.int c6.toInt8.toInt32) (.int c8.toInt8.toInt32) b60 s61 s62 p1 _ _ _ _ _ h62 n0 O62 hG E_b58_62 F_b58_value_62 F_b58_coder_62 A_vb59_62 ge_b60 (Ne.symm ne_b58_b60) (Ne.symm ne_vb59_b60) E_b60_62 F_b60_number_62 F_b60_text_62 F_b60_group_62 F_b60_name_62 F_b60_valueStart_62) e62 (by rw [hml]; rfl) (lenOf own_pd51703 rfl) rfl (hb hby at_80) (W := 1) (Nat.le_of_eq rfl) (by decide) ?_
    intro v63 T63 L63 X63 q63
    obtain ⟨rfl, N63q, K63q, Ft63, Fs63⟩ := q63
    have N63 := Fr.app N59 N63q
    have hk63 := Nat.le_trans hk62 K63q.1
    have hs63 : ∀ x ∈ ([b60] : List Addr), Safe Z own_EL T62.vm h62 x := (sfS (Safe.exa (EL := own_EL) hZ62.alike E_b60_62 (by decide) (by decide)) sf0)
    have C63 := C62.trans (CHr.keep K63q hs63 C62.1)
    have A_b1_63 := A_b1_62.keep K63q (ninS ne_b1_b60 nin0)
    have E_b58_63 := E_b58_62.keep K63q
    have F_b58_coder_63 := F_b58_coder_62.keep K63q (ninS ne_b58_b60 nin0)
    have F_b58_value_63 := F_b58_value_62.keep K63q (ninS ne_b58_b60 nin0)
    have A_vb59_63 := A_vb59_62.keep K63q (ninS ne_vb59_b60 nin0)
    have E_b60_63 := E_b60_62.keep K63q
    have O63 := O62.keep K63q (allS ge_b60 all0)
    show own_Go p e below _ T63 (mkF m 83 #[iv p1, iv p2, iv p3, rv b1, iv 4, rv b58, .unset, .unset, .unset] [(.ref b60)])
    refine og_astore X63 hx #[iv p1, iv p2, iv p3, rv b1, iv 4, rv b58, rv b60, .unset, .unset] (hb hby at_83) rfl rfl ?_
    refine og_aload X63 hx (hb hby at_85) rfl rfl ?_
    refine own_callVH X63 hx hZ62 hown62 (own_hw hw 75 rfl) (own_hw hw 76 rfl) (notFace_of_selects (args := #[]) (mvT hZ62 (own_hw hw 78 rfl))) (own_hw hw 78 rfl) (own_hw hw 77 rfl) (own_hw hw 79 rfl) (own_hw hw 33 rfl) (by decide) (b := b60) (argsL := []) (rest := []) (own_va_4 l Z a0 hw z sf b58 vb59 _ _ (.int c2.toInt8.toInt32) (.int c4.toInt8.toInt32) (.int c6.toInt8.toInt32) (.int c8.toInt8.toInt32) b60 T63.heap n0 O63 hG E_b58_63 F_b58_value_63 F_b58_coder_63 A_vb59_63 Ft63 Fs63) (own_EW hw) C63.1 hS62 hk63 rfl E_b60_63 (by rw [hml]; rfl) (lenOf own_pd53479 rfl) rfl (hb hby at_87) (W := 0) (Nat.le_of_eq rfl) (by decide) ?_
    intro v64 T64 L64 X64 hS64 hZ64 hown64 C64q q64
    obtain ⟨t64, vb64, k64, rfl, N64q, K64q, Et64, Ft64, Ct64, At64⟩ := q64
    have N64 := Fr.app N63 N64q
    have C64 := C63.trans C64q
    have A_b1_64 := A_b1_63.keep K64q nin0
    have E_b58_64 := E_b58_63.keep K64q
    have F_b58_coder_64 := F_b58_coder_63.keep K64q nin0
    have F_b58_value_64 := F_b58_value_63.keep K64q nin0
    have A_vb59_64 := A_vb59_63.keep K64q nin0
    have E_b60_64 := E_b60_63.keep K64q
    have F_b60_text_64 := Ft63.keep K64q nin0
    have F_b60_valueStart_64 := Fs63.keep K64q nin0
    have O64 := O63.keep K64q all0
    show own_Go p e below _ T64 (mkF m 90 #[iv p1, iv p2, iv p3, rv b1, iv 4, rv b58, rv b60, .unset, .unset] [(.ref t64)])
    refine og_astore X64 hx #[iv p1, iv p2, iv p3, rv b1, iv 4, rv b58, rv b60, rv t64, .unset] (hb hby at_90) rfl rfl ?_
    refine og_iconst X64 hx (hb hby at_92) ?_
    refine og_iload X64 hx (hb hby at_93) rfl ?_
    refine og_isub X64 hx (hb hby at_95) ?_
    refine og_istore X64 hx #[iv p1, iv p2, iv p3, rv b1, iv 4, rv b58, rv b60, rv t64, iv 0] (hb hby at_96) rfl ?_
    refine og_aload X64 hx (hb hby at_98) rfl rfl ?_
    refine own_callV X64 hx hZ64 hown64 (own_hw hw 129 rfl) (own_hw hw 48 rfl) (notFace_of_selects (args := #[]) (mvT hZ64 (own_hw hw 50 rfl))) (own_hw hw 50 rfl) (own_hw hw 49 rfl) (own_hw hw 51 rfl) (own_hw hw 4 rfl) (by decide) (b := t64) (argsL := []) (rest := []) (own_slen l Z a0 hw z sf t64 vb64 _ _ _ _ T64.heap n0 O64 hG Et64 Ft64 Ct64 At64) rfl Et64 (by rw [hml]; rfl) (lenOf own_pd13941 rfl) rfl (hb hby at_100) (W := 0) (Nat.le_of_eq rfl) (by decide) ?_
    intro v65 T65 L65 X65 q65
    obtain ⟨rfl, N65q, e65⟩ := q65
    have N65 := Fr.app N64 N65q
    show own_Go p e below _ T65 (mkF m 103 #[iv p1, iv p2, iv p3, rv b1, iv 4, rv b58, rv b60, rv t64, iv 0] [(.int 0)])
    refine og_iload X65 hx (hb hby at_103) rfl ?_
    refine og_icY X65 hx 110 (hb hby at_105) (teq rfl).1 (by decide) (by decide) ?_
    refine og_aload X65 hx (hb hby at_110) rfl rfl ?_
    refine og_iconst X65 hx (hb hby at_112) ?_
    refine og_iload X65 hx (hb hby at_113) rfl ?_
    refine og_aloadN X65 hx (hb hby at_115) rfl rfl ?_
    refine og_iload X65 hx (hb hby at_116) rfl ?_
    refine own_callS X65 hx hZ64 hown64 (own_hw hw 130 rfl) (own_hw hw 131 rfl) (own_hw hw 132 rfl) (own_hw hw 133 rfl) (by decide) (argsL := [(.ref t64), (.int 0), (.int 0), (.ref b1), (.int 4)]) (rest := []) (own_at_0_4 l Z a0 hw t64 b1 T64.heap n0) e65 (by rw [hml]; rfl) (lenOf own_pd39901 rfl) rfl (hb hby at_118) (W := 0) (Nat.le_of_eq rfl) (by decide) ?_
    intro v66 T66 L66 X66 q66
    obtain ⟨rfl, N66q, e66⟩ := q66
    have N66 := Fr.app N65 N66q
    show own_Go p e below _ T66 (mkF m 121 #[iv p1, iv p2, iv p3, rv b1, iv 4, rv b58, rv b60, rv t64, iv 0] [(.int (1 : Int32))])
    refine og_ifN X66 hx (hb hby at_121) (feq (by decide)).1 ?_
    refine og_aload X66 hx (hb hby at_124) rfl rfl ?_
    refine og_iconst X66 hx (hb hby at_126) ?_
    refine og_iload X66 hx (hb hby at_127) rfl ?_
    refine og_aloadN X66 hx (hb hby at_129) rfl rfl ?_
    refine og_iload X66 hx (hb hby at_130) rfl ?_
    refine own_callS X66 hx hZ64 hown64 (own_hw hw 130 rfl) (own_hw hw 131 rfl) (own_hw hw 132 rfl) (own_hw hw 133 rfl) (by decide) (argsL := [(.ref t64), (.int 1), (.int 0), (.ref b1), (.int 4)]) (rest := []) (own_at_1_4 l Z a0 hw t64 b1 T64.heap n0) e66 (by rw [hml]; rfl) (lenOf own_pd39901 rfl) rfl (hb hby at_132) (W := 0) (Nat.le_of_eq rfl) (by decide) ?_
    intro v67 T67 L67 X67 q67
    obtain ⟨rfl, N67q, e67⟩ := q67
    have N67 := Fr.app N66 N67q
    show own_Go p e below _ T67 (mkF m 135 #[iv p1, iv p2, iv p3, rv b1, iv 4, rv b58, rv b60, rv t64, iv 0] [(.int (1 : Int32))])
    refine og_ifN X67 hx (hb hby at_135) (feq (by decide)).1 ?_
    refine og_aload X67 hx (hb hby at_138) rfl rfl ?_
    refine og_iconst X67 hx (hb hby at_140) ?_
    refine og_iload X67 hx (hb hby at_141) rfl ?_
    refine og_aloadN X67 hx (hb hby at_143) rfl rfl ?_
    refine og_iload X67 hx (hb hby at_144) rfl ?_
    refine own_callS X67 hx hZ64 hown64 (own_hw hw 130 rfl) (own_hw hw 131 rfl) (own_hw hw 132 rfl) (own_hw hw 133 rfl) (by decide) (argsL := [(.ref t64), (.int 2), (.int 0), (.ref b1), (.int 4)]) (rest := []) (own_at_2_4 l Z a0 hw t64 b1 T64.heap n0) e67 (by rw [hml]; rfl) (lenOf own_pd39901 rfl) rfl (hb hby at_146) (W := 0) (Nat.le_of_eq rfl) (by decide) ?_
    intro v68 T68 L68 X68 q68
    obtain ⟨rfl, N68q, e68⟩ := q68
    have N68 := Fr.app N67 N68q
    show own_Go p e below _ T68 (mkF m 149 #[iv p1, iv p2, iv p3, rv b1, iv 4, rv b58, rv b60, rv t64, iv 0] [(.int (1 : Int32))])
    refine og_ifN X68 hx (hb hby at_149) (feq (by decide)).1 ?_
    refine og_aload X68 hx (hb hby at_152) rfl rfl ?_
    refine og_iconst X68 hx (hb hby at_154) ?_
    refine og_iload X68 hx (hb hby at_155) rfl ?_
    refine og_aloadN X68 hx (hb hby at_157) rfl rfl ?_
    refine og_iload X68 hx (hb hby at_158) rfl ?_
    refine own_callS X68 hx hZ64 hown64 (own_hw hw 130 rfl) (own_hw hw 131 rfl) (own_hw hw 132 rfl) (own_hw hw 133 rfl) (by decide) (argsL := [(.ref t64), (.int 3), (.int 0), (.ref b1), (.int 4)]) (rest := []) (own_at_3_4 l Z a0 hw t64 b1 T64.heap n0) e68 (by rw [hml]; rfl) (lenOf own_pd39901 rfl) rfl (hb hby at_160) (W := 0) (Nat.le_of_eq rfl) (by decide) ?_
    intro v69 T69 L69 X69 q69
    obtain ⟨rfl, N69q, e69⟩ := q69
    have N69 := Fr.app N68 N69q
    show own_Go p e below _ T69 (mkF m 163 #[iv p1, iv p2, iv p3, rv b1, iv 4, rv b58, rv b60, rv t64, iv 0] [(.int (1 : Int32))])
    refine og_ifN X69 hx (hb hby at_163) (feq (by decide)).1 ?_
    refine og_iconst X69 hx (hb hby at_166) ?_
    refine og_goto X69 hx 171 (hb hby at_167) (by decide) (by decide) ?_
    exact own_retIH X69 hx hret hlk (hb hby at_171) rfl (by simp) hZ64 (own_EW hw) C64 e69 hS64 (Nat.le_refl _) (by decide) (by decide) (⟨rfl, N69⟩)
set_option maxRecDepth 65536 in
set_option maxHeartbeats 40000000 in
theorem comes_1 {Post : Tables → Env → Array Value → State → Outcome → State → Prop} (hpost : ∀ tb e args s v u, (limb_1_1.after args s (.returned v) u = true ∧ limb_1_2.after args s (.returned v) u = true ∧ True) → ReturnedEndW s (.returned v) u (Jvm.fieldLocs frame_1_writes args s ++ Jvm.arrayLocs frame_1_arrays args s ++ Jvm.staticLocs frame_1_statics s) 32 3200 → Post tb e args s (.returned v) u) :
    ArmFor flags0 classFile x code maxLocals ret World_1 tables_1 room_1 Calls_1 rest_1 Pre_1 Post := by
  intro l hfl _ _ p e ha hc hk s m args below hf hA hF happ hP
  obtain ⟨hcalls, hrest, hpre⟩ := hP
  obtain ⟨-, -, -, hnamed, -, -, -, hat⟩ := (Spec.applies_iff hf).mp happ
  obtain ⟨hg, hn⟩ := and_e (Cond.before_iff.mp (show (Jvm.Cond.and given_1 narrow_1).before args s = true from hpre))
  obtain ⟨hcount, hk0⟩ := and_e hg
  obtain ⟨w0, w1, w2, rfl⟩ : ∃ w0 w1 w2 : Value, args = #[w0, w1, w2] := by
    have hs : args.size = 3 := by simpa [Cond.value, given_1] using hcount
    obtain ⟨L⟩ := args
    match L, hs with
    | [w0, w1, w2], _ => exact ⟨w0, w1, w2, rfl⟩
  have hw := fun d (hd : d ∈ tables_1) => atoms_spec (ws := Jvm.Cond.code x code maxLocals ret :: tables_1) hat d (List.mem_cons_of_mem _ hd)
  have hfit : Fit s := fun {y c} hc i hi => by
    obtain ⟨ha, rfl⟩ := Array.getElem?_eq_some_iff.mp hc
    have q := List.all_eq_true.mp ((Array.all_eq_true_iff_forall_mem.mp hF) _ (Array.getElem_mem ha)) i (List.mem_range.mpr hi)
    simpa [Array.getElem?_eq_getElem hi] using q
  obtain ⟨hi0, hk1⟩ := and_e hk0
  obtain ⟨i0, ei0⟩ := is_v hi0
  obtain rfl : w0 = (.int i0) := Option.some.inj ei0
  obtain ⟨hi1, hk2⟩ := and_e hk1
  obtain ⟨i1, ei1⟩ := is_v hi1
  obtain rfl : w1 = (.int i1) := Option.some.inj ei1
  obtain ⟨i2, ei2⟩ := is_v hk2
  obtain rfl : w2 = (.int i2) := Option.some.inj ei2
  obtain ⟨hsets, hown0⟩ := atoms_of _ (rest_1_c_eq ▸ (show rest_1_c.before _ s = true from hrest))
  have z1 := not_v (Cond.before_iff.mp (hsets _ (List.mem_of_getElem? (i := 2) rfl)))
  obtain ⟨z, ez⟩ := is_v (Cond.before_iff.mp (hsets _ (List.mem_of_getElem? (i := 1) rfl)))
  have SC : Sta s s.heap "java/lang/String" "COMPACT_STRINGS" "Z" (.int z) := Sta.start ez (Or.inl (hsets _ (List.mem_of_getElem? (i := 0) rfl)))
  have hz : ¬ (z = (0 : Int32)) := gotF (Cond.eq_ints ez (Term.int_eval (0))) z1
  obtain ⟨sf, ef, rf⟩ := isR_v (Cond.before_iff.mp (hsets _ (List.mem_of_getElem? (i := 8) rfl)))
  have SF : Sta s s.heap "jdk/internal/util/Preconditions" "SIOOBE_FORMATTER" "Ljava/util/function/BiFunction;" sf := Sta.start ef (Or.inl (hsets _ (List.mem_of_getElem? (i := 7) rfl)))
  have hG : own_Gs s z sf := ⟨SC, hz, SF, rf⟩
  have CH0 : CHv s own_EL s.vm s.heap := CHv.start (own_EW hw) (fun p hp => hcalls.1 p ((by decide +kernel : ∀ p ∈ own_EL, p ∈ consts_1) p hp)) (hsets _ (List.mem_of_getElem? (i := 2) rfl)) (own_hw hw 20 rfl) (own_hw hw 3 rfl)
  obtain ⟨n, o, h1, h2, h3, _, L, rfl, ⟨rfl, N⟩, -, hq⟩ := (own_rm0 l s _ hw i0 i1 i2 z sf s.heap s.heap.size (Old.start s) hG) tables_1 p e ha hc hk s m _ below hf ((Spec.applies_iff_loose hf).mp happ).1 ⟨rfl, State.Warmed39.refl s, rfl, CH0⟩ trivial
  refine ⟨n, _, h1, h2, h3, hpost _ _ _ _ _ _ ⟨Cond.after_iff.mpr rfl, Cond.after_iff.mpr (eq_i res_at (Term.int_eval (1)) rfl), trivial⟩ ⟨hq.1, hq.2.1, hq.2.2.1, (hq.2.2.2.sift fun y hy => Or.inr (N y hy)).mono (by decide) (by decide)⟩⟩
theorem main_1_1 : Claimed_1_1 := comes_1 fun _ _ _ _ _ _ h hF => ⟨h.1, hF⟩
theorem main_1_2 : Claimed_1_2 := comes_1 fun _ _ _ _ _ _ h hF => ⟨h.2.1, hF⟩
end Jvm.Pilot.@@N@@
namespace Jvm.Pilot.@@N@@
open Jvm Jvm.ClassFile Sem Op Lib Jvm.Free Jvm.Stand Jvm.Pilot.@@N@@.Jvm.D
/-! MADE BY PROGRAM (witnessworld.py) out of the Statement's table words and the real class files: 25 classes; the members and pool entries that the words name. The judged class is class 1, her method 1. -/
namespace start1
open Jvm.ClassFile
def u (s : String) : CpInfo := .utf8 (stringToUtf16 s)
/-- a pool by its gaps: so many unusable entries, then the entry; so many at the end -/
def gap : Nat → List CpInfo → List CpInfo
  | 0, r => r
  | n + 1, r => .unusable :: gap n r
def poolList (es : List (Nat × CpInfo)) (last : Nat) : List CpInfo := es.foldr (fun e r => gap e.1 (e.2 :: r)) (gap last [])
def pool (es : List (Nat × CpInfo)) (last : Nat) : Array CpInfo := ⟨poolList es last⟩
def fileOf (pool : Array CpInfo) (this : Nat) (attrs : Array Attribute := #[]) (ms : Array MethodInfo := #[]) (fl : Nat := 33) (sup : Nat := 0) (ifs : Array Nat := #[]) (fds : Array FieldInfo := #[]) : ClassFile where
  minorVersion := 0
  majorVersion := 65
  constantPool := pool
  accessFlags := fl
  thisClass := this
  superClass := sup
  interfaces := ifs
  fields := fds
  methods := ms
  attributes := attrs
def plain (name : String) (sup : Option ClassId) : Class where
  name := name
  kind := .ordinary
  loader := none
  accessFlags := 33
  super := sup
  interfaces := #[]
  cf := none
  fields := #[]
  methods := #[]
  instanceTypes := #[]
  staticTypes := #[]
  resolved := #[]
  callSites := []
  init := .initialized
  statics := none
  mirror := none

def pool0 : Array CpInfo := pool [(5, u "<init>"), (0, u "()V"), (1, .class_ 10), (1, u "java/lang/Object")] 113

def k0c0 : Code := { maxStack := 0, maxLocals := 1, code := object_method_1_code, exceptionTable := #[], attributes := #[] }
def k0m0 : Method := { name := "<init>", desc := "()V", sig := { parameters := [], returnType := none }, accessFlags := 1, code := some k0c0 }
/-- java/lang/Object -/
def k0 : Class := { plain "java/lang/Object" none with
  accessFlags := 33
  interfaces := #[]
  cf := some (fileOf pool0 8 #[] #[{ accessFlags := 1, nameIndex := 5, descriptorIndex := 6, attributes := #[] }] 33 0 #[] #[])
  fields := #[]
  methods := #[k0m0]
  instanceTypes := #[]
  staticTypes := #[]
  resolved := Array.replicate 124 none
  statics := none }

def pool1 : Array CpInfo := pool [(2, .class_ 4), (1, u "java/lang/Object"), (0, u "<init>"), (0, u "()V"), (0, .integer 2147483647), (0, .class_ 9), (0, u "java/lang/String"), (0, .methodref 8 11), (0, .nameAndType 5 12), (0, u "([C)V"), (0, .class_ 14), (0, u "com/example/winnow/winnow/contacts/ContentLine"), (0, .string 16), (0, u ""), (0, .string 18), (0, u "N"), (0, .methodref 13 20), (0, .nameAndType 5 21), (0, u "(ILjava/lang/String;Ljava/lang/String;Ljava/lang/String;I)V"), (0, .methodref 13 23), (0, .nameAndType 24 25), (0, u "value"), (0, u "()Ljava/lang/String;"), (0, .methodref 8 27), (0, .nameAndType 28 29), (0, u "length"), (0, u "()I"), (0, .methodref 31 32), (0, .class_ 33), (0, .nameAndType 34 35), (0, u "com/example/winnow/winnow/contacts/ContentLineValuePinLaw"), (0, u "at"), (0, u "(Ljava/lang/String;II[CI)Z"), (0, .methodref 8 37), (0, .nameAndType 38 39), (0, u "charAt"), (0, u "(I)C"), (2, u "law"), (0, u "(III)Z")] 5

def k1m0 : Method := { name := "<init>", desc := "()V", sig := { parameters := [], returnType := none }, accessFlags := 1, code := none }
def k1c1 : Code := { maxStack := 7, maxLocals := 9, code := code, exceptionTable := #[], attributes := #[] }
def k1m1 : Method := { name := "law", desc := "(III)Z", sig := { parameters := [.int, .int, .int], returnType := some .boolean }, accessFlags := 9, code := some k1c1 }
def k1c2 : Code := { maxStack := 4, maxLocals := 5, code := method_3_code, exceptionTable := #[], attributes := #[] }
def k1m2 : Method := { name := "at", desc := "(Ljava/lang/String;II[CI)Z", sig := { parameters := [(.object "java/lang/String"), .int, .int, (.array .char), .int], returnType := some .boolean }, accessFlags := 10, code := some k1c2 }
/-- com/example/winnow/winnow/contacts/ContentLineValuePinLaw -/
def k1 : Class := { plain "com/example/winnow/winnow/contacts/ContentLineValuePinLaw" (some 0) with
  accessFlags := 49
  interfaces := #[]
  cf := some (fileOf pool1 31 #[] #[{ accessFlags := 1, nameIndex := 5, descriptorIndex := 6, attributes := #[] }, { accessFlags := 9, nameIndex := 42, descriptorIndex := 43, attributes := #[] }, { accessFlags := 10, nameIndex := 34, descriptorIndex := 35, attributes := #[] }] 49 2 #[] #[])
  fields := #[]
  methods := #[k1m0, k1m1, k1m2]
  instanceTypes := #[]
  staticTypes := #[]
  resolved := Array.replicate 49 none
  statics := none }

def pool2 : Array CpInfo := pool [(1, .class_ 2), (0, u "java/io/Serializable"), (0, .class_ 4), (0, u "java/lang/Object")] 2

/-- java/io/Serializable -/
def k2 : Class := { plain "java/io/Serializable" (some 0) with
  accessFlags := 1537
  interfaces := #[]
  cf := some (fileOf pool2 1 #[] #[] 1537 3 #[] #[])
  fields := #[]
  methods := #[]
  instanceTypes := #[]
  staticTypes := #[]
  resolved := Array.replicate 7 none
  statics := none }

def pool3 : Array CpInfo := pool [(1, .class_ 2), (0, u "java/lang/Comparable"), (0, .class_ 4), (0, u "java/lang/Object")] 7

/-- java/lang/Comparable -/
def k3 : Class := { plain "java/lang/Comparable" (some 0) with
  accessFlags := 1537
  interfaces := #[]
  cf := some (fileOf pool3 1 #[] #[] 1537 3 #[] #[])
  fields := #[]
  methods := #[]
  instanceTypes := #[]
  staticTypes := #[]
  resolved := Array.replicate 12 none
  statics := none }

def pool4 : Array CpInfo := pool [(2, .class_ 4), (1, u "java/lang/CharSequence"), (42, .class_ 48), (0, u "java/lang/CharSequence$1CodePointIterator"), (10, .class_ 60), (0, u "java/lang/CharSequence$1CharIterator"), (5, .class_ 67), (0, u "java/lang/Object")] 63

/-- java/lang/CharSequence -/
def k4 : Class := { plain "java/lang/CharSequence" (some 0) with
  accessFlags := 1537
  interfaces := #[]
  cf := some (fileOf pool4 2 #[.nestMembers #[47, 59]] #[] 1537 66 #[] #[])
  fields := #[]
  methods := #[]
  instanceTypes := #[]
  staticTypes := #[]
  resolved := Array.replicate 131 none
  statics := none }

def pool5 : Array CpInfo := pool [(1, .class_ 2), (0, u "java/lang/constant/Constable"), (0, .class_ 4), (0, u "java/lang/Object")] 6

/-- java/lang/constant/Constable -/
def k5 : Class := { plain "java/lang/constant/Constable" (some 0) with
  accessFlags := 1537
  interfaces := #[]
  cf := some (fileOf pool5 1 #[] #[] 1537 3 #[] #[])
  fields := #[]
  methods := #[]
  instanceTypes := #[]
  staticTypes := #[]
  resolved := Array.replicate 11 none
  statics := none }

def pool6 : Array CpInfo := pool [(1, .class_ 2), (0, u "java/lang/constant/ConstantDesc"), (0, .class_ 4), (0, u "java/lang/Object")] 32

/-- java/lang/constant/ConstantDesc -/
def k6 : Class := { plain "java/lang/constant/ConstantDesc" (some 0) with
  accessFlags := 1537
  interfaces := #[]
  cf := some (fileOf pool6 1 #[] #[] 1537 3 #[] #[])
  fields := #[]
  methods := #[]
  instanceTypes := #[]
  staticTypes := #[]
  resolved := Array.replicate 37 none
  statics := none }

def pool7 : Array CpInfo := pool [(1, .methodref 2 3), (0, .class_ 4), (0, .nameAndType 5 6), (0, u "java/lang/Object"), (0, u "<init>"), (0, u "()V"), (2, .fieldref 10 11), (0, .class_ 12), (0, .nameAndType 13 14), (0, u "java/lang/String"), (0, u "value"), (0, u "[B"), (0, .fieldref 10 16), (0, .nameAndType 17 18), (0, u "coder"), (0, u "B"), (2, u "hash"), (0, u "I"), (2, u "hashIsZero"), (0, u "Z"), (0, .methodref 10 28), (0, .nameAndType 5 29), (0, u "([CIILjava/lang/Void;)V"), (8, .fieldref 10 39), (0, .nameAndType 40 26), (0, u "COMPACT_STRINGS"), (1, .class_ 44), (1, u "java/lang/StringUTF16"), (0, u "compress"), (1, .methodref 42 48), (0, .nameAndType 49 50), (0, u "coderFromArrayLen"), (0, u "([BI)B"), (56, .class_ 109), (1, u "java/lang/StringLatin1"), (32, u "()Z"), (34, .methodref 42 178), (0, .nameAndType 45 179), (0, u "([CII)[B"), (31, u "([BB)V"), (122, u "()I"), (0, .methodref 10 336), (0, .nameAndType 17 337), (0, u "()B"), (25, u "([BI)C"), (27, u "(II)V"), (35, u "(I)C"), (64, .methodref 10 493), (0, .nameAndType 494 142), (0, u "isLatin1"), (0, .methodref 107 496), (0, .nameAndType 497 363), (0, u "charAt"), (3, u "checkIndex"), (3, .methodref 10 506), (0, .nameAndType 507 334), (0, u "length"), (5, u "checkFromToIndex"), (7, .methodref 10 522), (0, .nameAndType 523 524), (0, u "checkBoundsBeginEnd"), (0, u "(III)V"), (50, .class_ 576), (0, u "java/lang/CharSequence"), (22, u "CASE_INSENSITIVE_ORDER"), (0, u "Ljava/util/Comparator;"), (80, .methodref 10 682), (0, .nameAndType 683 684), (0, u "substring"), (0, u "(II)Ljava/lang/String;"), (0, .methodref 107 686), (0, .nameAndType 687 688), (0, u "newString"), (0, u "([BII)Ljava/lang/String;"), (203, u "(I)Ljava/lang/String;"), (117, u "([C)V"), (42, .fieldref 1054 1055), (0, .class_ 1056), (0, .nameAndType 1057 1058), (0, u "jdk/internal/util/Preconditions"), (0, u "SIOOBE_FORMATTER"), (0, u "Ljava/util/function/BiFunction;"), (0, .methodref 1054 1060), (0, .nameAndType 501 1061), (0, u "(IILjava/util/function/BiFunction;)I"), (0, .methodref 1054 1063), (0, .nameAndType 513 1064), (0, u "(IIILjava/util/function/BiFunction;)I"), (36, u "serialPersistentFields"), (0, u "[Ljava/io/ObjectStreamField;"), (0, .class_ 1104), (0, u "java/lang/String$CaseInsensitiveComparator"), (1, .class_ 1107), (0, u "java/io/Serializable"), (0, .class_ 1109), (0, u "java/lang/Comparable"), (0, .class_ 1111), (0, u "java/lang/constant/Constable"), (0, .class_ 1113), (0, u "java/lang/constant/ConstantDesc"), (2, u "serialVersionUID"), (0, u "J"), (3, u "REPL"), (0, u "C"), (2, u "LATIN1"), (1, u "UTF16")] 323

def k7m0 : Method := { name := "<init>", desc := "()V", sig := { parameters := [], returnType := none }, accessFlags := 1, code := none }
def k7c1 : Code := { maxStack := 5, maxLocals := 2, code := jdk_42_method_3_code, exceptionTable := #[], attributes := #[] }
def k7m1 : Method := { name := "<init>", desc := "([C)V", sig := { parameters := [(.array .char)], returnType := none }, accessFlags := 1, code := some k7c1 }
def k7c2 : Code := { maxStack := 2, maxLocals := 1, code := jdk_42_method_54_code, exceptionTable := #[], attributes := #[] }
def k7m2 : Method := { name := "length", desc := "()I", sig := { parameters := [], returnType := some .int }, accessFlags := 1, code := some k7c2 }
def k7c3 : Code := { maxStack := 2, maxLocals := 2, code := jdk_42_method_56_code, exceptionTable := #[], attributes := #[] }
def k7m3 : Method := { name := "charAt", desc := "(I)C", sig := { parameters := [.int], returnType := some .char }, accessFlags := 1, code := some k7c3 }
def k7c4 : Code := { maxStack := 3, maxLocals := 2, code := jdk_42_method_91_code, exceptionTable := #[], attributes := #[] }
def k7m4 : Method := { name := "substring", desc := "(I)Ljava/lang/String;", sig := { parameters := [.int], returnType := some (.object "java/lang/String") }, accessFlags := 1, code := some k7c4 }
def k7c5 : Code := { maxStack := 3, maxLocals := 5, code := jdk_42_method_92_code, exceptionTable := #[], attributes := #[] }
def k7m5 : Method := { name := "substring", desc := "(II)Ljava/lang/String;", sig := { parameters := [.int, .int], returnType := some (.object "java/lang/String") }, accessFlags := 1, code := some k7c5 }
def k7c6 : Code := { maxStack := 4, maxLocals := 6, code := jdk_42_method_149_code, exceptionTable := #[], attributes := #[] }
def k7m6 : Method := { name := "<init>", desc := "([CIILjava/lang/Void;)V", sig := { parameters := [(.array .char), .int, .int, (.object "java/lang/Void")], returnType := none }, accessFlags := 2, code := some k7c6 }
def k7c7 : Code := { maxStack := 2, maxLocals := 3, code := jdk_42_method_151_code, exceptionTable := #[], attributes := #[] }
def k7m7 : Method := { name := "<init>", desc := "([BB)V", sig := { parameters := [(.array .byte), .byte], returnType := none }, accessFlags := 0, code := some k7c7 }
def k7c8 : Code := { maxStack := 1, maxLocals := 1, code := jdk_42_method_152_code, exceptionTable := #[], attributes := #[] }
def k7m8 : Method := { name := "coder", desc := "()B", sig := { parameters := [], returnType := some .byte }, accessFlags := 0, code := some k7c8 }
def k7c9 : Code := { maxStack := 1, maxLocals := 1, code := jdk_42_method_154_code, exceptionTable := #[], attributes := #[] }
def k7m9 : Method := { name := "isLatin1", desc := "()Z", sig := { parameters := [], returnType := some .boolean }, accessFlags := 0, code := some k7c9 }
def k7c10 : Code := { maxStack := 3, maxLocals := 2, code := jdk_42_method_155_code, exceptionTable := #[], attributes := #[] }
def k7m10 : Method := { name := "checkIndex", desc := "(II)V", sig := { parameters := [.int, .int], returnType := none }, accessFlags := 8, code := some k7c10 }
def k7c11 : Code := { maxStack := 4, maxLocals := 3, code := jdk_42_method_158_code, exceptionTable := #[], attributes := #[] }
def k7m11 : Method := { name := "checkBoundsBeginEnd", desc := "(III)V", sig := { parameters := [.int, .int, .int], returnType := none }, accessFlags := 8, code := some k7c11 }
/-- java/lang/String -/
def k7 : Class := { plain "java/lang/String" (some 0) with
  accessFlags := 49
  interfaces := #[2, 3, 4, 5, 6]
  cf := some (fileOf pool7 10 #[.nestMembers #[1103]] #[{ accessFlags := 1, nameIndex := 5, descriptorIndex := 6, attributes := #[] }, { accessFlags := 1, nameIndex := 5, descriptorIndex := 1010, attributes := #[] }, { accessFlags := 1, nameIndex := 507, descriptorIndex := 334, attributes := #[] }, { accessFlags := 1, nameIndex := 497, descriptorIndex := 427, attributes := #[] }, { accessFlags := 1, nameIndex := 683, descriptorIndex := 892, attributes := #[] }, { accessFlags := 1, nameIndex := 683, descriptorIndex := 684, attributes := #[] }, { accessFlags := 2, nameIndex := 5, descriptorIndex := 29, attributes := #[] }, { accessFlags := 0, nameIndex := 5, descriptorIndex := 211, attributes := #[] }, { accessFlags := 0, nameIndex := 17, descriptorIndex := 337, attributes := #[] }, { accessFlags := 0, nameIndex := 494, descriptorIndex := 142, attributes := #[] }, { accessFlags := 8, nameIndex := 501, descriptorIndex := 391, attributes := #[] }, { accessFlags := 8, nameIndex := 523, descriptorIndex := 524, attributes := #[] }] 49 2 #[1106, 1108, 575, 1110, 1112] #[{ accessFlags := 18, nameIndex := 13, descriptorIndex := 14, attributes := #[] }, { accessFlags := 18, nameIndex := 17, descriptorIndex := 18, attributes := #[] }, { accessFlags := 2, nameIndex := 21, descriptorIndex := 22, attributes := #[] }, { accessFlags := 2, nameIndex := 25, descriptorIndex := 26, attributes := #[] }, { accessFlags := 26, nameIndex := 1116, descriptorIndex := 1117, attributes := #[] }, { accessFlags := 24, nameIndex := 40, descriptorIndex := 26, attributes := #[] }, { accessFlags := 26, nameIndex := 1101, descriptorIndex := 1102, attributes := #[] }, { accessFlags := 26, nameIndex := 1121, descriptorIndex := 1122, attributes := #[] }, { accessFlags := 25, nameIndex := 599, descriptorIndex := 600, attributes := #[] }, { accessFlags := 24, nameIndex := 1125, descriptorIndex := 18, attributes := #[] }, { accessFlags := 24, nameIndex := 1127, descriptorIndex := 18, attributes := #[] }])
  fields := #[{ name := "value", type := (.array .byte), accessFlags := 18, slot := 0, constantValue := 0 }, { name := "coder", type := .byte, accessFlags := 18, slot := 1, constantValue := 0 }, { name := "hash", type := .int, accessFlags := 2, slot := 2, constantValue := 0 }, { name := "hashIsZero", type := .boolean, accessFlags := 2, slot := 3, constantValue := 0 }, { name := "serialVersionUID", type := .long, accessFlags := 26, slot := 0, constantValue := 0 }, { name := "COMPACT_STRINGS", type := .boolean, accessFlags := 24, slot := 1, constantValue := 0 }, { name := "serialPersistentFields", type := (.array (.object "java/io/ObjectStreamField")), accessFlags := 26, slot := 2, constantValue := 0 }, { name := "REPL", type := .char, accessFlags := 26, slot := 3, constantValue := 0 }, { name := "CASE_INSENSITIVE_ORDER", type := (.object "java/util/Comparator"), accessFlags := 25, slot := 4, constantValue := 0 }, { name := "LATIN1", type := .byte, accessFlags := 24, slot := 5, constantValue := 0 }, { name := "UTF16", type := .byte, accessFlags := 24, slot := 6, constantValue := 0 }]
  methods := #[k7m0, k7m1, k7m2, k7m3, k7m4, k7m5, k7m6, k7m7, k7m8, k7m9, k7m10, k7m11]
  instanceTypes := #[(.array .byte), .byte, .int, .boolean]
  staticTypes := #[.long, .boolean, (.array (.object "java/io/ObjectStreamField")), .char, (.object "java/util/Comparator"), .byte, .byte]
  resolved := Array.replicate 1451 none
  statics := some 0 }

def pool8 : Array CpInfo := pool [(6, .class_ 8), (1, u "java/lang/Object"), (0, u "<init>"), (0, u "()V"), (1, .class_ 14), (1, u "java/lang/StringUTF16"), (31, u "$assertionsDisabled"), (0, u "Z"), (13, u "HI_BYTE_SHIFT"), (0, u "I"), (2, u "LO_BYTE_SHIFT"), (49, .methodref 12 116), (0, .nameAndType 117 118), (0, u "compress"), (0, u "([CI[BII)I"), (3, u "([CII)[B"), (138, u "coderFromArrayLen"), (0, u "([BI)B"), (106, .class_ 371), (1, u "java/lang/StringUTF16$LinesSpliterator"), (58, u "MAX_LENGTH"), (196, .class_ 628), (0, u "java/lang/StringUTF16$CodePointsSpliterator"), (0, .class_ 630), (0, u "java/lang/StringUTF16$CharsSpliterator")] 4

def k8m0 : Method := { name := "<init>", desc := "()V", sig := { parameters := [], returnType := none }, accessFlags := 0, code := none }
def k8c1 : Code := { maxStack := 2, maxLocals := 2, code := jdk_52_method_15_code, exceptionTable := #[], attributes := #[] }
def k8m1 : Method := { name := "coderFromArrayLen", desc := "([BI)B", sig := { parameters := [(.array .byte), .int], returnType := some .byte }, accessFlags := 8, code := some k8c1 }
def k8c2 : Code := { maxStack := 5, maxLocals := 6, code := jdk_52_method_16_code, exceptionTable := #[], attributes := #[] }
def k8m2 : Method := { name := "compress", desc := "([CII)[B", sig := { parameters := [(.array .char), .int, .int], returnType := some (.array .byte) }, accessFlags := 9, code := some k8c2 }
def k8c3 : Code := { maxStack := 3, maxLocals := 7, code := jdk_52_method_21_code, exceptionTable := #[], attributes := #[] }
def k8m3 : Method := { name := "compress", desc := "([CI[BII)I", sig := { parameters := [(.array .char), .int, (.array .byte), .int, .int], returnType := some .int }, accessFlags := 9, code := some k8c3 }
/-- java/lang/StringUTF16 -/
def k8 : Class := { plain "java/lang/StringUTF16" (some 0) with
  accessFlags := 48
  interfaces := #[]
  cf := some (fileOf pool8 12 #[.nestMembers #[627, 629, 369]] #[{ accessFlags := 0, nameIndex := 9, descriptorIndex := 10, attributes := #[] }, { accessFlags := 8, nameIndex := 261, descriptorIndex := 262, attributes := #[] }, { accessFlags := 9, nameIndex := 117, descriptorIndex := 122, attributes := #[] }, { accessFlags := 9, nameIndex := 117, descriptorIndex := 118, attributes := #[] }] 48 6 #[] #[{ accessFlags := 26, nameIndex := 61, descriptorIndex := 62, attributes := #[] }, { accessFlags := 26, nameIndex := 65, descriptorIndex := 62, attributes := #[] }, { accessFlags := 24, nameIndex := 430, descriptorIndex := 62, attributes := #[] }, { accessFlags := 4120, nameIndex := 46, descriptorIndex := 47, attributes := #[] }])
  fields := #[{ name := "HI_BYTE_SHIFT", type := .int, accessFlags := 26, slot := 0, constantValue := 0 }, { name := "LO_BYTE_SHIFT", type := .int, accessFlags := 26, slot := 1, constantValue := 0 }, { name := "MAX_LENGTH", type := .int, accessFlags := 24, slot := 2, constantValue := 0 }, { name := "$assertionsDisabled", type := .boolean, accessFlags := 4120, slot := 3, constantValue := 0 }]
  methods := #[k8m0, k8m1, k8m2, k8m3]
  instanceTypes := #[]
  staticTypes := #[.int, .int, .int, .boolean]
  resolved := Array.replicate 635 none
  statics := none }

def pool9 : Array CpInfo := pool [(1, .methodref 2 3), (0, .class_ 4), (0, .nameAndType 5 6), (0, u "java/lang/Object"), (0, u "<init>"), (0, u "()V"), (0, .class_ 8), (0, u "java/lang/Record")] 13

def k9c0 : Code := { maxStack := 1, maxLocals := 1, code := jdk_30_method_1_code, exceptionTable := #[], attributes := #[] }
def k9m0 : Method := { name := "<init>", desc := "()V", sig := { parameters := [], returnType := none }, accessFlags := 4, code := some k9c0 }
/-- java/lang/Record -/
def k9 : Class := { plain "java/lang/Record" (some 0) with
  accessFlags := 1057
  interfaces := #[]
  cf := some (fileOf pool9 7 #[] #[{ accessFlags := 4, nameIndex := 5, descriptorIndex := 6, attributes := #[] }] 1057 2 #[] #[])
  fields := #[]
  methods := #[k9m0]
  instanceTypes := #[]
  staticTypes := #[]
  resolved := Array.replicate 22 none
  statics := none }

def pool10 : Array CpInfo := pool [(1, .methodref 2 3), (0, .class_ 4), (0, .nameAndType 5 6), (0, u "java/lang/Record"), (0, u "<init>"), (0, u "()V"), (0, .methodref 8 9), (0, .class_ 10), (0, .nameAndType 11 12), (0, u "java/lang/String"), (0, u "length"), (0, u "()I"), (0, .methodref 14 15), (0, .class_ 16), (0, .nameAndType 17 18), (0, u "java/util/Objects"), (0, u "checkIndex"), (0, u "(II)I"), (0, .fieldref 20 21), (0, .class_ 22), (0, .nameAndType 23 24), (0, u "com/example/winnow/winnow/contacts/ContentLine"), (0, u "number"), (0, u "I"), (0, .fieldref 20 26), (0, .nameAndType 27 28), (0, u "text"), (0, u "Ljava/lang/String;"), (0, .fieldref 20 30), (0, .nameAndType 31 28), (0, u "group"), (0, .fieldref 20 33), (0, .nameAndType 34 28), (0, u "name"), (0, .fieldref 20 36), (0, .nameAndType 37 24), (0, u "valueStart"), (5, u "(ILjava/lang/String;Ljava/lang/String;Ljava/lang/String;I)V"), (0, .methodref 8 45), (0, .nameAndType 46 47), (0, u "substring"), (0, u "(I)Ljava/lang/String;"), (29, u "value"), (0, u "()Ljava/lang/String;")] 34

def k10c0 : Code := { maxStack := 3, maxLocals := 6, code := prog_25_method_1_code, exceptionTable := #[], attributes := #[] }
def k10m0 : Method := { name := "<init>", desc := "(ILjava/lang/String;Ljava/lang/String;Ljava/lang/String;I)V", sig := { parameters := [.int, (.object "java/lang/String"), (.object "java/lang/String"), (.object "java/lang/String"), .int], returnType := none }, accessFlags := 1, code := some k10c0 }
def k10c1 : Code := { maxStack := 2, maxLocals := 1, code := prog_25_method_3_code, exceptionTable := #[], attributes := #[] }
def k10m1 : Method := { name := "value", desc := "()Ljava/lang/String;", sig := { parameters := [], returnType := some (.object "java/lang/String") }, accessFlags := 1, code := some k10c1 }
/-- com/example/winnow/winnow/contacts/ContentLine -/
def k10 : Class := { plain "com/example/winnow/winnow/contacts/ContentLine" (some 9) with
  accessFlags := 49
  interfaces := #[]
  cf := some (fileOf pool10 20 #[] #[{ accessFlags := 1, nameIndex := 5, descriptorIndex := 43, attributes := #[] }, { accessFlags := 1, nameIndex := 77, descriptorIndex := 78, attributes := #[] }] 49 2 #[] #[{ accessFlags := 18, nameIndex := 23, descriptorIndex := 24, attributes := #[] }, { accessFlags := 18, nameIndex := 27, descriptorIndex := 28, attributes := #[] }, { accessFlags := 18, nameIndex := 31, descriptorIndex := 28, attributes := #[] }, { accessFlags := 18, nameIndex := 34, descriptorIndex := 28, attributes := #[] }, { accessFlags := 18, nameIndex := 37, descriptorIndex := 24, attributes := #[] }])
  fields := #[{ name := "number", type := .int, accessFlags := 18, slot := 0, constantValue := 0 }, { name := "text", type := (.object "java/lang/String"), accessFlags := 18, slot := 1, constantValue := 0 }, { name := "group", type := (.object "java/lang/String"), accessFlags := 18, slot := 2, constantValue := 0 }, { name := "name", type := (.object "java/lang/String"), accessFlags := 18, slot := 3, constantValue := 0 }, { name := "valueStart", type := .int, accessFlags := 18, slot := 4, constantValue := 0 }]
  methods := #[k10m0, k10m1]
  instanceTypes := #[.int, (.object "java/lang/String"), (.object "java/lang/String"), (.object "java/lang/String"), .int]
  staticTypes := #[]
  resolved := Array.replicate 113 none
  statics := none }

def pool11 : Array CpInfo := pool [(2, .class_ 4), (1, u "java/lang/Object"), (0, u "<init>"), (0, u "()V"), (35, .class_ 44), (1, u "java/util/Objects"), (60, .methodref 106 107), (0, .class_ 108), (0, .nameAndType 109 110), (0, u "jdk/internal/util/Preconditions"), (0, u "checkIndex"), (0, u "(IILjava/util/function/BiFunction;)I"), (60, u "(II)I")] 12

def k11m0 : Method := { name := "<init>", desc := "()V", sig := { parameters := [], returnType := none }, accessFlags := 2, code := none }
def k11c1 : Code := { maxStack := 3, maxLocals := 2, code := jdk_31_method_17_code, exceptionTable := #[], attributes := #[] }
def k11m1 : Method := { name := "checkIndex", desc := "(II)I", sig := { parameters := [.int, .int], returnType := some .int }, accessFlags := 9, code := some k11c1 }
/-- java/util/Objects -/
def k11 : Class := { plain "java/util/Objects" (some 0) with
  accessFlags := 49
  interfaces := #[]
  cf := some (fileOf pool11 42 #[] #[{ accessFlags := 2, nameIndex := 5, descriptorIndex := 6, attributes := #[] }, { accessFlags := 9, nameIndex := 109, descriptorIndex := 171, attributes := #[] }] 49 2 #[] #[])
  fields := #[]
  methods := #[k11m0, k11m1]
  instanceTypes := #[]
  staticTypes := #[]
  resolved := Array.replicate 184 none
  statics := none }

def pool12 : Array CpInfo := pool [(2, .class_ 4), (1, u "java/lang/Object"), (0, u "<init>"), (0, u "()V"), (17, .class_ 26), (1, u "jdk/internal/util/Preconditions"), (6, u "checkIndex"), (13, u "checkFromToIndex"), (7, .class_ 56), (0, u "jdk/internal/util/Preconditions$4"), (57, .class_ 115), (0, u "jdk/internal/util/Preconditions$1"), (7, u "SIOOBE_FORMATTER"), (0, u "Ljava/util/function/BiFunction;"), (0, .class_ 126), (0, u "jdk/internal/util/Preconditions$2"), (3, u "AIOOBE_FORMATTER"), (0, .class_ 132), (0, u "jdk/internal/util/Preconditions$3"), (3, u "IOOBE_FORMATTER"), (41, u "(IILjava/util/function/BiFunction;)I"), (4, u "(IIILjava/util/function/BiFunction;)I")] 10

def k12m0 : Method := { name := "<init>", desc := "()V", sig := { parameters := [], returnType := none }, accessFlags := 1, code := none }
def k12c1 : Code := { maxStack := 3, maxLocals := 3, code := jdk_41_method_11_code, exceptionTable := #[], attributes := #[] }
def k12m1 : Method := { name := "checkIndex", desc := "(IILjava/util/function/BiFunction;)I", sig := { parameters := [.int, .int, (.object "java/util/function/BiFunction")], returnType := some .int }, accessFlags := 9, code := some k12c1 }
def k12c2 : Code := { maxStack := 4, maxLocals := 4, code := jdk_41_method_12_code, exceptionTable := #[], attributes := #[] }
def k12m2 : Method := { name := "checkFromToIndex", desc := "(IIILjava/util/function/BiFunction;)I", sig := { parameters := [.int, .int, .int, (.object "java/util/function/BiFunction")], returnType := some .int }, accessFlags := 9, code := some k12c2 }
/-- jdk/internal/util/Preconditions -/
def k12 : Class := { plain "jdk/internal/util/Preconditions" (some 0) with
  accessFlags := 33
  interfaces := #[]
  cf := some (fileOf pool12 24 #[.nestMembers #[55, 131, 125, 114]] #[{ accessFlags := 1, nameIndex := 5, descriptorIndex := 6, attributes := #[] }, { accessFlags := 9, nameIndex := 33, descriptorIndex := 178, attributes := #[] }, { accessFlags := 9, nameIndex := 47, descriptorIndex := 183, attributes := #[] }] 33 2 #[] #[{ accessFlags := 25, nameIndex := 123, descriptorIndex := 124, attributes := #[] }, { accessFlags := 25, nameIndex := 130, descriptorIndex := 124, attributes := #[] }, { accessFlags := 25, nameIndex := 136, descriptorIndex := 124, attributes := #[] }])
  fields := #[{ name := "SIOOBE_FORMATTER", type := (.object "java/util/function/BiFunction"), accessFlags := 25, slot := 0, constantValue := 0 }, { name := "AIOOBE_FORMATTER", type := (.object "java/util/function/BiFunction"), accessFlags := 25, slot := 1, constantValue := 0 }, { name := "IOOBE_FORMATTER", type := (.object "java/util/function/BiFunction"), accessFlags := 25, slot := 2, constantValue := 0 }]
  methods := #[k12m0, k12m1, k12m2]
  instanceTypes := #[]
  staticTypes := #[(.object "java/util/function/BiFunction"), (.object "java/util/function/BiFunction"), (.object "java/util/function/BiFunction")]
  resolved := Array.replicate 194 none
  statics := some 1 }

def pool13 : Array CpInfo := pool [(1, .class_ 2), (0, u "java/lang/String"), (1, .class_ 6), (1, u "java/lang/Object"), (0, u "<init>"), (0, u "()V"), (0, .methodref 1 10), (0, .nameAndType 11 12), (0, u "checkIndex"), (0, u "(II)V"), (1, .class_ 16), (1, u "java/lang/StringLatin1"), (36, u "([BI)C"), (58, .methodref 1 113), (0, .nameAndType 7 114), (0, u "([BB)V"), (6, u "$assertionsDisabled"), (0, u "Z"), (8, .class_ 133), (1, u "java/util/Arrays"), (17, .string 152), (0, u ""), (43, u "newString"), (0, u "([BII)Ljava/lang/String;"), (23, .class_ 223), (1, u "java/lang/StringLatin1$LinesSpliterator"), (8, .methodref 131 233), (0, .nameAndType 234 235), (0, u "copyOfRange"), (0, u "([BII)[B"), (16, u "charAt"), (137, .class_ 391), (0, u "java/lang/StringLatin1$CharsSpliterator")] 3

def k13m0 : Method := { name := "<init>", desc := "()V", sig := { parameters := [], returnType := none }, accessFlags := 0, code := none }
def k13c1 : Code := { maxStack := 2, maxLocals := 2, code := jdk_43_method_2_code, exceptionTable := #[], attributes := #[] }
def k13m1 : Method := { name := "charAt", desc := "([BI)C", sig := { parameters := [(.array .byte), .int], returnType := some .char }, accessFlags := 9, code := some k13c1 }
def k13c2 : Code := { maxStack := 6, maxLocals := 3, code := jdk_43_method_47_code, exceptionTable := #[], attributes := #[] }
def k13m2 : Method := { name := "newString", desc := "([BII)Ljava/lang/String;", sig := { parameters := [(.array .byte), .int, .int], returnType := some (.object "java/lang/String") }, accessFlags := 9, code := some k13c2 }
/-- java/lang/StringLatin1 -/
def k13 : Class := { plain "java/lang/StringLatin1" (some 0) with
  accessFlags := 48
  interfaces := #[]
  cf := some (fileOf pool13 14 #[.nestMembers #[390, 221]] #[{ accessFlags := 0, nameIndex := 7, descriptorIndex := 8, attributes := #[] }, { accessFlags := 9, nameIndex := 252, descriptorIndex := 53, attributes := #[] }, { accessFlags := 9, nameIndex := 196, descriptorIndex := 197, attributes := #[] }] 48 4 #[] #[{ accessFlags := 4120, nameIndex := 121, descriptorIndex := 122, attributes := #[] }])
  fields := #[{ name := "$assertionsDisabled", type := .boolean, accessFlags := 4120, slot := 0, constantValue := 0 }]
  methods := #[k13m0, k13m1, k13m2]
  instanceTypes := #[]
  staticTypes := #[.boolean]
  resolved := Array.replicate 395 none
  statics := none }

def pool14 : Array CpInfo := pool [(2, .class_ 4), (1, u "java/lang/Object"), (0, u "<init>"), (0, u "()V"), (7, .class_ 16), (1, u "java/util/Arrays"), (57, .class_ 76), (1, u "java/util/Arrays$NaturalOrder"), (36, .class_ 115), (1, u "java/util/Arrays$LegacyMergeSort"), (1, u "Z"), (21, u "copyOfRange"), (10, .methodref 151 152), (0, .class_ 153), (0, .nameAndType 154 155), (0, u "java/lang/System"), (0, u "arraycopy"), (0, u "(Ljava/lang/Object;ILjava/lang/Object;II)V"), (148, .methodref 305 306), (0, .class_ 307), (0, .nameAndType 308 309), (0, u "java/lang/Math"), (0, u "min"), (0, u "(II)I"), (29, .methodref 14 340), (0, .nameAndType 341 342), (0, u "copyOfRangeByte"), (0, u "([BII)[B"), (0, .methodref 14 344), (0, .nameAndType 345 346), (0, u "checkLength"), (0, u "(II)V"), (28, .class_ 376), (0, u "java/util/Arrays$ArrayList"), (68, u "$assertionsDisabled"), (269, u "MIN_ARRAY_SORT_GRAN"), (0, u "I"), (2, u "INSERTIONSORT_THRESHOLD"), (255, .class_ 976), (0, u "java/util/Arrays$ArrayItr")] 52

def k14m0 : Method := { name := "<init>", desc := "()V", sig := { parameters := [], returnType := none }, accessFlags := 2, code := none }
def k14c1 : Code := { maxStack := 4, maxLocals := 2, code := jdk_65_method_131_code, exceptionTable := #[], attributes := #[] }
def k14m1 : Method := { name := "checkLength", desc := "(II)V", sig := { parameters := [.int, .int], returnType := none }, accessFlags := 10, code := some k14c1 }
def k14c2 : Code := { maxStack := 3, maxLocals := 3, code := jdk_65_method_132_code, exceptionTable := #[], attributes := #[] }
def k14m2 : Method := { name := "copyOfRange", desc := "([BII)[B", sig := { parameters := [(.array .byte), .int, .int], returnType := some (.array .byte) }, accessFlags := 9, code := some k14c2 }
def k14c3 : Code := { maxStack := 6, maxLocals := 5, code := jdk_65_method_133_code, exceptionTable := #[], attributes := #[] }
def k14m3 : Method := { name := "copyOfRangeByte", desc := "([BII)[B", sig := { parameters := [(.array .byte), .int, .int], returnType := some (.array .byte) }, accessFlags := 10, code := some k14c3 }
/-- java/util/Arrays -/
def k14 : Class := { plain "java/util/Arrays" (some 0) with
  accessFlags := 49
  interfaces := #[]
  cf := some (fileOf pool14 14 #[.nestMembers #[975, 375, 113, 74]] #[{ accessFlags := 2, nameIndex := 5, descriptorIndex := 6, attributes := #[] }, { accessFlags := 10, nameIndex := 345, descriptorIndex := 346, attributes := #[] }, { accessFlags := 9, nameIndex := 139, descriptorIndex := 342, attributes := #[] }, { accessFlags := 10, nameIndex := 341, descriptorIndex := 342, attributes := #[] }] 49 2 #[] #[{ accessFlags := 26, nameIndex := 715, descriptorIndex := 716, attributes := #[] }, { accessFlags := 26, nameIndex := 719, descriptorIndex := 716, attributes := #[] }, { accessFlags := 4120, nameIndex := 445, descriptorIndex := 117, attributes := #[] }])
  fields := #[{ name := "MIN_ARRAY_SORT_GRAN", type := .int, accessFlags := 26, slot := 0, constantValue := 0 }, { name := "INSERTIONSORT_THRESHOLD", type := .int, accessFlags := 26, slot := 1, constantValue := 0 }, { name := "$assertionsDisabled", type := .boolean, accessFlags := 4120, slot := 2, constantValue := 0 }]
  methods := #[k14m0, k14m1, k14m2, k14m3]
  instanceTypes := #[]
  staticTypes := #[.int, .int, .boolean]
  resolved := Array.replicate 1029 none
  statics := none }

def pool15 : Array CpInfo := pool [(1, .class_ 2), (0, u "java/lang/Math"), (1, .class_ 6), (1, u "java/lang/Object"), (0, u "<init>"), (0, u "()V"), (89, .class_ 100), (1, u "java/lang/Math$RandomNumberGeneratorHolder"), (71, u "negativeZeroFloatBits"), (0, u "J"), (2, u "negativeZeroDoubleBits"), (24, u "min"), (43, u "$assertionsDisabled"), (0, u "Z"), (88, u "(II)I"), (2, u "twoToTheDoubleScaleDown"), (0, u "D"), (4, u "twoToTheDoubleScaleUp"), (9, u "E"), (3, u "PI"), (2, u "TAU"), (2, u "DEGREES_TO_RADIANS"), (0, u "RADIANS_TO_DEGREES")] 94

def k15m0 : Method := { name := "<init>", desc := "()V", sig := { parameters := [], returnType := none }, accessFlags := 2, code := none }
def k15c1 : Code := { maxStack := 2, maxLocals := 2, code := jdk_29_method_69_code, exceptionTable := #[], attributes := #[] }
def k15m1 : Method := { name := "min", desc := "(II)I", sig := { parameters := [.int, .int], returnType := some .int }, accessFlags := 9, code := some k15c1 }
/-- java/lang/Math -/
def k15 : Class := { plain "java/lang/Math" (some 0) with
  accessFlags := 49
  interfaces := #[]
  cf := some (fileOf pool15 1 #[.nestMembers #[98]] #[{ accessFlags := 2, nameIndex := 7, descriptorIndex := 8, attributes := #[] }, { accessFlags := 9, nameIndex := 201, descriptorIndex := 335, attributes := #[] }] 49 4 #[] #[{ accessFlags := 25, nameIndex := 354, descriptorIndex := 339, attributes := #[] }, { accessFlags := 25, nameIndex := 358, descriptorIndex := 339, attributes := #[] }, { accessFlags := 25, nameIndex := 361, descriptorIndex := 339, attributes := #[] }, { accessFlags := 26, nameIndex := 364, descriptorIndex := 339, attributes := #[] }, { accessFlags := 26, nameIndex := 365, descriptorIndex := 339, attributes := #[] }, { accessFlags := 26, nameIndex := 172, descriptorIndex := 173, attributes := #[] }, { accessFlags := 26, nameIndex := 176, descriptorIndex := 173, attributes := #[] }, { accessFlags := 8, nameIndex := 344, descriptorIndex := 339, attributes := #[] }, { accessFlags := 8, nameIndex := 338, descriptorIndex := 339, attributes := #[] }, { accessFlags := 4120, nameIndex := 245, descriptorIndex := 246, attributes := #[] }])
  fields := #[{ name := "E", type := .double, accessFlags := 25, slot := 0, constantValue := 0 }, { name := "PI", type := .double, accessFlags := 25, slot := 1, constantValue := 0 }, { name := "TAU", type := .double, accessFlags := 25, slot := 2, constantValue := 0 }, { name := "DEGREES_TO_RADIANS", type := .double, accessFlags := 26, slot := 3, constantValue := 0 }, { name := "RADIANS_TO_DEGREES", type := .double, accessFlags := 26, slot := 4, constantValue := 0 }, { name := "negativeZeroFloatBits", type := .long, accessFlags := 26, slot := 5, constantValue := 0 }, { name := "negativeZeroDoubleBits", type := .long, accessFlags := 26, slot := 6, constantValue := 0 }, { name := "twoToTheDoubleScaleUp", type := .double, accessFlags := 8, slot := 7, constantValue := 0 }, { name := "twoToTheDoubleScaleDown", type := .double, accessFlags := 8, slot := 8, constantValue := 0 }, { name := "$assertionsDisabled", type := .boolean, accessFlags := 4120, slot := 9, constantValue := 0 }]
  methods := #[k15m0, k15m1]
  instanceTypes := #[]
  staticTypes := #[.double, .double, .double, .double, .double, .long, .long, .double, .double, .boolean]
  resolved := Array.replicate 460 none
  statics := none }

def pool16 : Array CpInfo := pool [(2, .class_ 4), (1, u "java/lang/Object"), (0, u "<init>"), (0, u "()V"), (1, .class_ 10), (1, u "java/lang/System"), (0, u "allowSecurityManager"), (0, u "I"), (16, u "cons"), (0, u "Ljava/io/Console;"), (77, .class_ 110), (1, u "java/lang/System$CallersHolder"), (43, u "initialErrStream"), (0, u "Ljava/io/PrintStream;"), (19, u "security"), (0, u "Ljava/lang/SecurityManager;"), (31, .class_ 209), (0, u "java/lang/System$1"), (7, u "props"), (0, u "Ljava/util/Properties;"), (2, u "lineSeparator"), (0, u "Ljava/lang/String;"), (96, .class_ 321), (1, u "java/lang/System$LoggerFinder"), (5, .class_ 328), (0, u "java/lang/System$Logger"), (67, u "err"), (2, u "out"), (91, u "notSupportedJnuEncoding"), (15, u "in"), (17, u "initialIn"), (0, u "Ljava/io/InputStream;"), (35, u "bootLayer"), (0, u "Ljava/lang/ModuleLayer;"), (99, .class_ 664), (0, u "java/lang/System$2"), (9, u "NEVER"), (2, u "MAYBE"), (49, u "arraycopy"), (0, u "(Ljava/lang/Object;ILjava/lang/Object;II)V"), (72, .class_ 802), (0, u "java/lang/System$Logger$Level")] 31

def k16m0 : Method := { name := "<init>", desc := "()V", sig := { parameters := [], returnType := none }, accessFlags := 2, code := none }
def k16m1 : Method := { name := "arraycopy", desc := "(Ljava/lang/Object;ILjava/lang/Object;II)V", sig := { parameters := [(.object "java/lang/Object"), .int, (.object "java/lang/Object"), .int, .int], returnType := none }, accessFlags := 265, code := none }
/-- java/lang/System -/
def k16 : Class := { plain "java/lang/System" (some 0) with
  accessFlags := 49
  interfaces := #[]
  cf := some (fileOf pool16 8 #[.nestMembers #[319, 327, 801, 108, 663, 208]] #[{ accessFlags := 2, nameIndex := 5, descriptorIndex := 6, attributes := #[] }, { accessFlags := 265, nameIndex := 727, descriptorIndex := 728, attributes := #[] }] 49 2 #[] #[{ accessFlags := 25, nameIndex := 507, descriptorIndex := 526, attributes := #[] }, { accessFlags := 25, nameIndex := 399, descriptorIndex := 155, attributes := #[] }, { accessFlags := 25, nameIndex := 396, descriptorIndex := 155, attributes := #[] }, { accessFlags := 10, nameIndex := 525, descriptorIndex := 526, attributes := #[] }, { accessFlags := 26, nameIndex := 674, descriptorIndex := 12, attributes := #[] }, { accessFlags := 26, nameIndex := 677, descriptorIndex := 12, attributes := #[] }, { accessFlags := 10, nameIndex := 11, descriptorIndex := 12, attributes := #[] }, { accessFlags := 74, nameIndex := 175, descriptorIndex := 176, attributes := #[] }, { accessFlags := 10, nameIndex := 491, descriptorIndex := 222, attributes := #[] }, { accessFlags := 74, nameIndex := 29, descriptorIndex := 30, attributes := #[] }, { accessFlags := 74, nameIndex := 154, descriptorIndex := 155, attributes := #[] }, { accessFlags := 10, nameIndex := 217, descriptorIndex := 218, attributes := #[] }, { accessFlags := 10, nameIndex := 221, descriptorIndex := 222, attributes := #[] }, { accessFlags := 8, nameIndex := 562, descriptorIndex := 563, attributes := #[] }])
  fields := #[{ name := "in", type := (.object "java/io/InputStream"), accessFlags := 25, slot := 0, constantValue := 0 }, { name := "out", type := (.object "java/io/PrintStream"), accessFlags := 25, slot := 1, constantValue := 0 }, { name := "err", type := (.object "java/io/PrintStream"), accessFlags := 25, slot := 2, constantValue := 0 }, { name := "initialIn", type := (.object "java/io/InputStream"), accessFlags := 10, slot := 3, constantValue := 0 }, { name := "NEVER", type := .int, accessFlags := 26, slot := 4, constantValue := 0 }, { name := "MAYBE", type := .int, accessFlags := 26, slot := 5, constantValue := 0 }, { name := "allowSecurityManager", type := .int, accessFlags := 10, slot := 6, constantValue := 0 }, { name := "security", type := (.object "java/lang/SecurityManager"), accessFlags := 74, slot := 7, constantValue := 0 }, { name := "notSupportedJnuEncoding", type := (.object "java/lang/String"), accessFlags := 10, slot := 8, constantValue := 0 }, { name := "cons", type := (.object "java/io/Console"), accessFlags := 74, slot := 9, constantValue := 0 }, { name := "initialErrStream", type := (.object "java/io/PrintStream"), accessFlags := 74, slot := 10, constantValue := 0 }, { name := "props", type := (.object "java/util/Properties"), accessFlags := 10, slot := 11, constantValue := 0 }, { name := "lineSeparator", type := (.object "java/lang/String"), accessFlags := 10, slot := 12, constantValue := 0 }, { name := "bootLayer", type := (.object "java/lang/ModuleLayer"), accessFlags := 8, slot := 13, constantValue := 0 }]
  methods := #[k16m0, k16m1]
  instanceTypes := #[]
  staticTypes := #[(.object "java/io/InputStream"), (.object "java/io/PrintStream"), (.object "java/io/PrintStream"), (.object "java/io/InputStream"), .int, .int, .int, (.object "java/lang/SecurityManager"), (.object "java/lang/String"), (.object "java/io/Console"), (.object "java/io/PrintStream"), (.object "java/util/Properties"), (.object "java/lang/String"), (.object "java/lang/ModuleLayer")]
  resolved := Array.replicate 834 none
  statics := none }

def pool17 : Array CpInfo := pool [(9, u "<init>"), (6, .class_ 18), (1, u "java/lang/Object"), (0, u "()V"), (1, .class_ 23), (1, u "jdk/internal/util/ArraysSupport"), (0, u "LOG2_ARRAY_LONG_INDEX_SCALE"), (0, u "I"), (2, u "U"), (0, u "Ljdk/internal/misc/Unsafe;"), (8, u "BIG_ENDIAN"), (0, u "Z"), (8, u "LOG2_BYTE_BIT_SIZE"), (4, u "LOG2_ARRAY_INT_INDEX_SCALE"), (54, u "JLA"), (0, u "Ljdk/internal/access/JavaLangAccess;"), (11, u "LOG2_ARRAY_BOOLEAN_INDEX_SCALE"), (9, u "LOG2_ARRAY_BYTE_INDEX_SCALE"), (5, u "LOG2_ARRAY_CHAR_INDEX_SCALE"), (5, u "LOG2_ARRAY_SHORT_INDEX_SCALE"), (18, u "LOG2_ARRAY_FLOAT_INDEX_SCALE"), (24, u "LOG2_ARRAY_DOUBLE_INDEX_SCALE"), (89, u "T_BOOLEAN"), (2, u "T_CHAR"), (1, u "T_FLOAT"), (1, u "T_DOUBLE"), (1, u "T_BYTE"), (1, u "T_SHORT"), (1, u "T_INT"), (1, u "T_LONG"), (1, u "SOFT_MAX_ARRAY_LENGTH")] 83

def k17m0 : Method := { name := "<init>", desc := "()V", sig := { parameters := [], returnType := none }, accessFlags := 2, code := none }
/-- jdk/internal/util/ArraysSupport -/
def k17 : Class := { plain "jdk/internal/util/ArraysSupport" (some 0) with
  accessFlags := 33
  interfaces := #[]
  cf := some (fileOf pool17 21 #[] #[{ accessFlags := 2, nameIndex := 9, descriptorIndex := 19, attributes := #[] }] 33 16 #[] #[{ accessFlags := 24, nameIndex := 28, descriptorIndex := 29, attributes := #[] }, { accessFlags := 26, nameIndex := 38, descriptorIndex := 39, attributes := #[] }, { accessFlags := 25, nameIndex := 121, descriptorIndex := 25, attributes := #[] }, { accessFlags := 25, nameIndex := 131, descriptorIndex := 25, attributes := #[] }, { accessFlags := 25, nameIndex := 137, descriptorIndex := 25, attributes := #[] }, { accessFlags := 25, nameIndex := 143, descriptorIndex := 25, attributes := #[] }, { accessFlags := 25, nameIndex := 53, descriptorIndex := 25, attributes := #[] }, { accessFlags := 25, nameIndex := 24, descriptorIndex := 25, attributes := #[] }, { accessFlags := 25, nameIndex := 162, descriptorIndex := 25, attributes := #[] }, { accessFlags := 25, nameIndex := 187, descriptorIndex := 25, attributes := #[] }, { accessFlags := 26, nameIndex := 48, descriptorIndex := 25, attributes := #[] }, { accessFlags := 25, nameIndex := 277, descriptorIndex := 25, attributes := #[] }, { accessFlags := 25, nameIndex := 280, descriptorIndex := 25, attributes := #[] }, { accessFlags := 25, nameIndex := 282, descriptorIndex := 25, attributes := #[] }, { accessFlags := 25, nameIndex := 284, descriptorIndex := 25, attributes := #[] }, { accessFlags := 25, nameIndex := 286, descriptorIndex := 25, attributes := #[] }, { accessFlags := 25, nameIndex := 288, descriptorIndex := 25, attributes := #[] }, { accessFlags := 25, nameIndex := 290, descriptorIndex := 25, attributes := #[] }, { accessFlags := 25, nameIndex := 292, descriptorIndex := 25, attributes := #[] }, { accessFlags := 26, nameIndex := 108, descriptorIndex := 109, attributes := #[] }, { accessFlags := 25, nameIndex := 294, descriptorIndex := 25, attributes := #[] }])
  fields := #[{ name := "U", type := (.object "jdk/internal/misc/Unsafe"), accessFlags := 24, slot := 0, constantValue := 0 }, { name := "BIG_ENDIAN", type := .boolean, accessFlags := 26, slot := 1, constantValue := 0 }, { name := "LOG2_ARRAY_BOOLEAN_INDEX_SCALE", type := .int, accessFlags := 25, slot := 2, constantValue := 0 }, { name := "LOG2_ARRAY_BYTE_INDEX_SCALE", type := .int, accessFlags := 25, slot := 3, constantValue := 0 }, { name := "LOG2_ARRAY_CHAR_INDEX_SCALE", type := .int, accessFlags := 25, slot := 4, constantValue := 0 }, { name := "LOG2_ARRAY_SHORT_INDEX_SCALE", type := .int, accessFlags := 25, slot := 5, constantValue := 0 }, { name := "LOG2_ARRAY_INT_INDEX_SCALE", type := .int, accessFlags := 25, slot := 6, constantValue := 0 }, { name := "LOG2_ARRAY_LONG_INDEX_SCALE", type := .int, accessFlags := 25, slot := 7, constantValue := 0 }, { name := "LOG2_ARRAY_FLOAT_INDEX_SCALE", type := .int, accessFlags := 25, slot := 8, constantValue := 0 }, { name := "LOG2_ARRAY_DOUBLE_INDEX_SCALE", type := .int, accessFlags := 25, slot := 9, constantValue := 0 }, { name := "LOG2_BYTE_BIT_SIZE", type := .int, accessFlags := 26, slot := 10, constantValue := 0 }, { name := "T_BOOLEAN", type := .int, accessFlags := 25, slot := 11, constantValue := 0 }, { name := "T_CHAR", type := .int, accessFlags := 25, slot := 12, constantValue := 0 }, { name := "T_FLOAT", type := .int, accessFlags := 25, slot := 13, constantValue := 0 }, { name := "T_DOUBLE", type := .int, accessFlags := 25, slot := 14, constantValue := 0 }, { name := "T_BYTE", type := .int, accessFlags := 25, slot := 15, constantValue := 0 }, { name := "T_SHORT", type := .int, accessFlags := 25, slot := 16, constantValue := 0 }, { name := "T_INT", type := .int, accessFlags := 25, slot := 17, constantValue := 0 }, { name := "T_LONG", type := .int, accessFlags := 25, slot := 18, constantValue := 0 }, { name := "JLA", type := (.object "jdk/internal/access/JavaLangAccess"), accessFlags := 26, slot := 19, constantValue := 0 }, { name := "SOFT_MAX_ARRAY_LENGTH", type := .int, accessFlags := 25, slot := 20, constantValue := 0 }]
  methods := #[k17m0]
  instanceTypes := #[]
  staticTypes := #[(.object "jdk/internal/misc/Unsafe"), .boolean, .int, .int, .int, .int, .int, .int, .int, .int, .int, .int, .int, .int, .int, .int, .int, .int, .int, (.object "jdk/internal/access/JavaLangAccess"), .int]
  resolved := Array.replicate 378 none
  statics := none }

def pool18 : Array CpInfo := pool [(1, u "java/lang/Cloneable"), (0, .class_ 1), (0, u "java/lang/Object"), (0, .class_ 3)] 3

/-- java/lang/Cloneable -/
def k18 : Class := { plain "java/lang/Cloneable" (some 0) with
  accessFlags := 1537
  interfaces := #[]
  cf := some (fileOf pool18 2 #[] #[] 1537 4 #[] #[])
  fields := #[]
  methods := #[]
  instanceTypes := #[]
  staticTypes := #[]
  resolved := Array.replicate 8 none
  statics := none }

/-- the primitive byte -/
def k19 : Class := { plain "byte" none with kind := .primitive 'B', accessFlags := 0x411 }
/-- [B -/
def k20 : Class := { plain "[B" (some 0) with kind := .array 19 .byte, interfaces := #[18, 2], accessFlags := 1041 }

/-- the primitive char -/
def k21 : Class := { plain "char" none with kind := .primitive 'C', accessFlags := 0x411 }
/-- [C -/
def k22 : Class := { plain "[C" (some 0) with kind := .array 21 .char, interfaces := #[18, 2], accessFlags := 1041 }

/-- the primitive int -/
def k23 : Class := { plain "int" none with kind := .primitive 'I', accessFlags := 0x411 }
/-- [I -/
def k24 : Class := { plain "[I" (some 0) with kind := .array 23 .int, interfaces := #[18, 2], accessFlags := 1041 }

def heap : Heap := #[{ cls := 7, slots := #[.long 0, .int 1, .null, .int 0, .null, .int 0, .int 0], vm := .statics 7 },
  { cls := 12, slots := #[.null, .null, .null], vm := .statics 12 }]
def classes : Array Class := #[k0, k1, k2, k3, k4, k5, k6, k7, k8, k9, k10, k11, k12, k13, k14, k15, k16, k17, k18, k19, k20, k21, k22, k23, k24]
def interned : List (Array UInt16 × Addr) := []
def slotsUsed : Nat := 10
def theMethod : MethodId := ⟨1, 1⟩
def args0 : Array Value := #[.int 5, .int 6, .int 7]
def aboutOver (below : List Frame) : State where
  vm := { classes := classes, interned := interned.toArray }
  heap := heap
  slotsUsed := slotsUsed
  threads := #[{ frames := .invoking theMethod args0 :: below }]
def below0 : List Frame := [.native { method := ⟨0, 0⟩, args := #[] }]
def about1 : State := aboutOver below0
def p0 : Program := .bare "" "" ""
def e0 : Env := launch0.env 0 0 0
theorem w_frames : about1.frames = Frame.invoking theMethod args0 :: below0 := rfl
set_option maxRecDepth 65536 in
theorem w_args : argsFit about1.vm theMethod args0 = true := by decide +kernel
set_option maxRecDepth 65536 in
theorem w_heap : heapFits about1 = true := by decide +kernel
set_option maxRecDepth 65536 in
theorem w_runnable : about1.curStatus? = some .runnable := by decide +kernel
set_option maxRecDepth 65536 in
theorem w_alone : about1.alone = true := by decide +kernel
set_option maxRecDepth 65536 in
theorem w_named : about1.methodNamed? x = some theMethod := by decide +kernel
set_option maxRecDepth 65536 in
theorem w_hears : about1.hears theMethod below0 = true := by decide +kernel
set_option maxRecDepth 65536 in
theorem w_ripe : about1.ripe theMethod args0 below0 = true := by decide +kernel
theorem w_running : about1.status = .running := rfl
set_option maxRecDepth 65536 in
theorem w_room : about1.hasRoom e0.platform room_1 = true :=
  launch0.hasRoom_least _ room_1 (by decide +kernel) (by decide +kernel) (by decide +kernel) (by decide +kernel) (by decide +kernel) (by decide +kernel)
theorem allAtoms_all (ts : List Jvm.Cond) (a : Array Jvm.Value) (st : Jvm.State) : (allAtoms ts).before a st = ts.all (fun c => c.before a st) := by
  induction ts with
  | nil => rfl
  | cons c t ih =>
    show (Jvm.Cond.and c (allAtoms t)).before a st = _
    rw [Jvm.Cond.before_and, ih, List.all_cons]
def words1 : List Jvm.Cond := Jvm.Cond.code x code maxLocals ret :: tables_1
/-- a 'code' word, met by the world's own term for the bytes: nothing is compared byte by byte -/
theorem code_word {y : MethodName} {bytes : ByteArray} {mx : Nat} {rt : Option FieldType} {a : Array Value} {s : State} {m : MethodId} {meth : Method} {c : Code} (h1 : s.methodNamed? y = some m) (h2 : s.vm.method? m = some meth) (h3 : meth.code = some c) (h4 : c.code = bytes)
    (h5 : (c.maxLocals == mx && c.exceptionTable.isEmpty && decide (c.maxStack ≤ mostOperands) && decide (meth.sig.returnType = rt) && !meth.locks && decide (parseMethodDescriptor y.desc = some meth.sig)) = true) : (Jvm.Cond.code y bytes mx rt).before a s = true := by
  simp only [Bool.and_eq_true, beq_iff_eq, Bool.not_eq_true', decide_eq_true_eq] at h5
  obtain ⟨⟨⟨⟨⟨g1, g2⟩, g3⟩, g4⟩, g5⟩, g6⟩ := h5
  simp [Cond.before, Cond.holds, Cond.value, h1, h2, h3, h4, g1, g2, g3, g4, g5, g6]
def isCode : Jvm.Cond → Bool
  | .code _ _ _ _ => true
  | _ => false
theorem all_split {L : List Jvm.Cond} {P : Jvm.Cond → Bool} (h1 : L.all (fun c => isCode c || P c) = true) (h2 : ∀ c ∈ L.filter isCode, P c = true) : L.all P = true := by
  refine List.all_eq_true.mpr fun c hc => ?_
  have h := List.all_eq_true.mp h1 c hc
  rcases Bool.eq_false_or_eq_true (isCode c) with hi | hi
  · exact h2 c (List.mem_filter.mpr ⟨hc, hi⟩)
  · simpa [hi] using h
set_option maxRecDepth 65536 in
theorem w_c0 : (Jvm.Cond.code x code maxLocals ret).before args0 about1 = true := code_word (m := ⟨1, 1⟩) (meth := k1m1) (c := k1c1) (by decide +kernel) rfl rfl rfl (by decide +kernel)
set_option maxRecDepth 65536 in
theorem w_c1 : (Jvm.Cond.code ({ cls := "java/lang/String", name := "<init>", desc := "([C)V" } : Jvm.MethodName) jdk_42_method_3_code (2 : Nat) (Option.none : Option Jvm.ClassFile.FieldType)).before args0 about1 = true := code_word (m := ⟨7, 1⟩) (meth := k7m1) (c := k7c1) (by decide +kernel) rfl rfl rfl (by decide +kernel)
set_option maxRecDepth 65536 in
theorem w_c2 : (Jvm.Cond.code ({ cls := "java/lang/String", name := "<init>", desc := "([CIILjava/lang/Void;)V" } : Jvm.MethodName) jdk_42_method_149_code (6 : Nat) (Option.none : Option Jvm.ClassFile.FieldType)).before args0 about1 = true := code_word (m := ⟨7, 6⟩) (meth := k7m6) (c := k7c6) (by decide +kernel) rfl rfl rfl (by decide +kernel)
set_option maxRecDepth 65536 in
theorem w_c3 : (Jvm.Cond.code ({ cls := "java/lang/Object", name := "<init>", desc := "()V" } : Jvm.MethodName) object_method_1_code (1 : Nat) (Option.none : Option Jvm.ClassFile.FieldType)).before args0 about1 = true := code_word (m := ⟨0, 0⟩) (meth := k0m0) (c := k0c0) (by decide +kernel) rfl rfl rfl (by decide +kernel)
set_option maxRecDepth 65536 in
theorem w_c4 : (Jvm.Cond.code ({ cls := "java/lang/StringUTF16", name := "compress", desc := "([CII)[B" } : Jvm.MethodName) jdk_52_method_16_code (6 : Nat) (Option.some (Jvm.ClassFile.FieldType.array Jvm.ClassFile.FieldType.byte))).before args0 about1 = true := code_word (m := ⟨8, 2⟩) (meth := k8m2) (c := k8c2) (by decide +kernel) rfl rfl rfl (by decide +kernel)
set_option maxRecDepth 65536 in
theorem w_c5 : (Jvm.Cond.code ({ cls := "java/lang/StringUTF16", name := "compress", desc := "([CI[BII)I" } : Jvm.MethodName) jdk_52_method_21_code (7 : Nat) (Option.some Jvm.ClassFile.FieldType.int)).before args0 about1 = true := code_word (m := ⟨8, 3⟩) (meth := k8m3) (c := k8c3) (by decide +kernel) rfl rfl rfl (by decide +kernel)
set_option maxRecDepth 65536 in
theorem w_c6 : (Jvm.Cond.code ({ cls := "java/lang/StringUTF16", name := "coderFromArrayLen", desc := "([BI)B" } : Jvm.MethodName) jdk_52_method_15_code (2 : Nat) (Option.some Jvm.ClassFile.FieldType.byte)).before args0 about1 = true := code_word (m := ⟨8, 1⟩) (meth := k8m1) (c := k8c1) (by decide +kernel) rfl rfl rfl (by decide +kernel)
set_option maxRecDepth 65536 in
theorem w_c7 : (Jvm.Cond.code ({ cls := "com/example/winnow/winnow/contacts/ContentLine", name := "<init>", desc := "(ILjava/lang/String;Ljava/lang/String;Ljava/lang/String;I)V" } : Jvm.MethodName) prog_25_method_1_code (6 : Nat) (Option.none : Option Jvm.ClassFile.FieldType)).before args0 about1 = true := code_word (m := ⟨10, 0⟩) (meth := k10m0) (c := k10c0) (by decide +kernel) rfl rfl rfl (by decide +kernel)
set_option maxRecDepth 65536 in
theorem w_c8 : (Jvm.Cond.code ({ cls := "java/lang/Record", name := "<init>", desc := "()V" } : Jvm.MethodName) jdk_30_method_1_code (1 : Nat) (Option.none : Option Jvm.ClassFile.FieldType)).before args0 about1 = true := code_word (m := ⟨9, 0⟩) (meth := k9m0) (c := k9c0) (by decide +kernel) rfl rfl rfl (by decide +kernel)
set_option maxRecDepth 65536 in
theorem w_c9 : (Jvm.Cond.code ({ cls := "java/lang/String", name := "length", desc := "()I" } : Jvm.MethodName) jdk_42_method_54_code (1 : Nat) (Option.some Jvm.ClassFile.FieldType.int)).before args0 about1 = true := code_word (m := ⟨7, 2⟩) (meth := k7m2) (c := k7c2) (by decide +kernel) rfl rfl rfl (by decide +kernel)
set_option maxRecDepth 65536 in
theorem w_c10 : (Jvm.Cond.code ({ cls := "java/lang/String", name := "coder", desc := "()B" } : Jvm.MethodName) jdk_42_method_152_code (1 : Nat) (Option.some Jvm.ClassFile.FieldType.byte)).before args0 about1 = true := code_word (m := ⟨7, 8⟩) (meth := k7m8) (c := k7c8) (by decide +kernel) rfl rfl rfl (by decide +kernel)
set_option maxRecDepth 65536 in
theorem w_c11 : (Jvm.Cond.code ({ cls := "java/util/Objects", name := "checkIndex", desc := "(II)I" } : Jvm.MethodName) jdk_31_method_17_code (2 : Nat) (Option.some Jvm.ClassFile.FieldType.int)).before args0 about1 = true := code_word (m := ⟨11, 1⟩) (meth := k11m1) (c := k11c1) (by decide +kernel) rfl rfl rfl (by decide +kernel)
set_option maxRecDepth 65536 in
theorem w_c12 : (Jvm.Cond.code ({ cls := "jdk/internal/util/Preconditions", name := "checkIndex", desc := "(IILjava/util/function/BiFunction;)I" } : Jvm.MethodName) jdk_41_method_11_code (3 : Nat) (Option.some Jvm.ClassFile.FieldType.int)).before args0 about1 = true := code_word (m := ⟨12, 1⟩) (meth := k12m1) (c := k12c1) (by decide +kernel) rfl rfl rfl (by decide +kernel)
set_option maxRecDepth 65536 in
theorem w_c13 : (Jvm.Cond.code ({ cls := "com/example/winnow/winnow/contacts/ContentLine", name := "value", desc := "()Ljava/lang/String;" } : Jvm.MethodName) prog_25_method_3_code (1 : Nat) (Option.some (Jvm.ClassFile.FieldType.object "java/lang/String"))).before args0 about1 = true := code_word (m := ⟨10, 1⟩) (meth := k10m1) (c := k10c1) (by decide +kernel) rfl rfl rfl (by decide +kernel)
set_option maxRecDepth 65536 in
theorem w_c14 : (Jvm.Cond.code ({ cls := "java/lang/String", name := "substring", desc := "(I)Ljava/lang/String;" } : Jvm.MethodName) jdk_42_method_91_code (2 : Nat) (Option.some (Jvm.ClassFile.FieldType.object "java/lang/String"))).before args0 about1 = true := code_word (m := ⟨7, 4⟩) (meth := k7m4) (c := k7c4) (by decide +kernel) rfl rfl rfl (by decide +kernel)
set_option maxRecDepth 65536 in
theorem w_c15 : (Jvm.Cond.code ({ cls := "java/lang/String", name := "substring", desc := "(II)Ljava/lang/String;" } : Jvm.MethodName) jdk_42_method_92_code (5 : Nat) (Option.some (Jvm.ClassFile.FieldType.object "java/lang/String"))).before args0 about1 = true := code_word (m := ⟨7, 5⟩) (meth := k7m5) (c := k7c5) (by decide +kernel) rfl rfl rfl (by decide +kernel)
set_option maxRecDepth 65536 in
theorem w_c16 : (Jvm.Cond.code ({ cls := "java/lang/String", name := "checkBoundsBeginEnd", desc := "(III)V" } : Jvm.MethodName) jdk_42_method_158_code (3 : Nat) (Option.none : Option Jvm.ClassFile.FieldType)).before args0 about1 = true := code_word (m := ⟨7, 11⟩) (meth := k7m11) (c := k7c11) (by decide +kernel) rfl rfl rfl (by decide +kernel)
set_option maxRecDepth 65536 in
theorem w_c17 : (Jvm.Cond.code ({ cls := "jdk/internal/util/Preconditions", name := "checkFromToIndex", desc := "(IIILjava/util/function/BiFunction;)I" } : Jvm.MethodName) jdk_41_method_12_code (4 : Nat) (Option.some Jvm.ClassFile.FieldType.int)).before args0 about1 = true := code_word (m := ⟨12, 2⟩) (meth := k12m2) (c := k12c2) (by decide +kernel) rfl rfl rfl (by decide +kernel)
set_option maxRecDepth 65536 in
theorem w_c18 : (Jvm.Cond.code ({ cls := "java/lang/String", name := "isLatin1", desc := "()Z" } : Jvm.MethodName) jdk_42_method_154_code (1 : Nat) (Option.some Jvm.ClassFile.FieldType.boolean)).before args0 about1 = true := code_word (m := ⟨7, 9⟩) (meth := k7m9) (c := k7c9) (by decide +kernel) rfl rfl rfl (by decide +kernel)
set_option maxRecDepth 65536 in
theorem w_c19 : (Jvm.Cond.code ({ cls := "java/lang/StringLatin1", name := "newString", desc := "([BII)Ljava/lang/String;" } : Jvm.MethodName) jdk_43_method_47_code (3 : Nat) (Option.some (Jvm.ClassFile.FieldType.object "java/lang/String"))).before args0 about1 = true := code_word (m := ⟨13, 2⟩) (meth := k13m2) (c := k13c2) (by decide +kernel) rfl rfl rfl (by decide +kernel)
set_option maxRecDepth 65536 in
theorem w_c20 : (Jvm.Cond.code ({ cls := "java/util/Arrays", name := "copyOfRange", desc := "([BII)[B" } : Jvm.MethodName) jdk_65_method_132_code (3 : Nat) (Option.some (Jvm.ClassFile.FieldType.array Jvm.ClassFile.FieldType.byte))).before args0 about1 = true := code_word (m := ⟨14, 2⟩) (meth := k14m2) (c := k14c2) (by decide +kernel) rfl rfl rfl (by decide +kernel)
set_option maxRecDepth 65536 in
theorem w_c21 : (Jvm.Cond.code ({ cls := "java/util/Arrays", name := "copyOfRangeByte", desc := "([BII)[B" } : Jvm.MethodName) jdk_65_method_133_code (5 : Nat) (Option.some (Jvm.ClassFile.FieldType.array Jvm.ClassFile.FieldType.byte))).before args0 about1 = true := code_word (m := ⟨14, 3⟩) (meth := k14m3) (c := k14c3) (by decide +kernel) rfl rfl rfl (by decide +kernel)
set_option maxRecDepth 65536 in
theorem w_c22 : (Jvm.Cond.code ({ cls := "java/util/Arrays", name := "checkLength", desc := "(II)V" } : Jvm.MethodName) jdk_65_method_131_code (2 : Nat) (Option.none : Option Jvm.ClassFile.FieldType)).before args0 about1 = true := code_word (m := ⟨14, 1⟩) (meth := k14m1) (c := k14c1) (by decide +kernel) rfl rfl rfl (by decide +kernel)
set_option maxRecDepth 65536 in
theorem w_c23 : (Jvm.Cond.code ({ cls := "java/lang/Math", name := "min", desc := "(II)I" } : Jvm.MethodName) jdk_29_method_69_code (2 : Nat) (Option.some Jvm.ClassFile.FieldType.int)).before args0 about1 = true := code_word (m := ⟨15, 1⟩) (meth := k15m1) (c := k15c1) (by decide +kernel) rfl rfl rfl (by decide +kernel)
set_option maxRecDepth 65536 in
theorem w_c24 : (Jvm.Cond.code ({ cls := "java/lang/String", name := "<init>", desc := "([BB)V" } : Jvm.MethodName) jdk_42_method_151_code (3 : Nat) (Option.none : Option Jvm.ClassFile.FieldType)).before args0 about1 = true := code_word (m := ⟨7, 7⟩) (meth := k7m7) (c := k7c7) (by decide +kernel) rfl rfl rfl (by decide +kernel)
set_option maxRecDepth 65536 in
theorem w_c25 : (Jvm.Cond.code ({ cls := "com/example/winnow/winnow/contacts/ContentLineValuePinLaw", name := "at", desc := "(Ljava/lang/String;II[CI)Z" } : Jvm.MethodName) method_3_code (5 : Nat) (Option.some Jvm.ClassFile.FieldType.boolean)).before args0 about1 = true := code_word (m := ⟨1, 2⟩) (meth := k1m2) (c := k1c2) (by decide +kernel) rfl rfl rfl (by decide +kernel)
set_option maxRecDepth 65536 in
theorem w_c26 : (Jvm.Cond.code ({ cls := "java/lang/String", name := "charAt", desc := "(I)C" } : Jvm.MethodName) jdk_42_method_56_code (2 : Nat) (Option.some Jvm.ClassFile.FieldType.char)).before args0 about1 = true := code_word (m := ⟨7, 3⟩) (meth := k7m3) (c := k7c3) (by decide +kernel) rfl rfl rfl (by decide +kernel)
set_option maxRecDepth 65536 in
theorem w_c27 : (Jvm.Cond.code ({ cls := "java/lang/StringLatin1", name := "charAt", desc := "([BI)C" } : Jvm.MethodName) jdk_43_method_2_code (2 : Nat) (Option.some Jvm.ClassFile.FieldType.char)).before args0 about1 = true := code_word (m := ⟨13, 1⟩) (meth := k13m1) (c := k13c1) (by decide +kernel) rfl rfl rfl (by decide +kernel)
set_option maxRecDepth 65536 in
theorem w_c28 : (Jvm.Cond.code ({ cls := "java/lang/String", name := "checkIndex", desc := "(II)V" } : Jvm.MethodName) jdk_42_method_155_code (2 : Nat) (Option.none : Option Jvm.ClassFile.FieldType)).before args0 about1 = true := code_word (m := ⟨7, 10⟩) (meth := k7m10) (c := k7c10) (by decide +kernel) rfl rfl rfl (by decide +kernel)
def codes1 : List Jvm.Cond := [Jvm.Cond.code x code maxLocals ret, Jvm.Cond.code ({ cls := "java/lang/String", name := "<init>", desc := "([C)V" } : Jvm.MethodName) jdk_42_method_3_code (2 : Nat) (Option.none : Option Jvm.ClassFile.FieldType), Jvm.Cond.code ({ cls := "java/lang/String", name := "<init>", desc := "([CIILjava/lang/Void;)V" } : Jvm.MethodName) jdk_42_method_149_code (6 : Nat) (Option.none : Option Jvm.ClassFile.FieldType), Jvm.Cond.code ({ cls := "java/lang/Object", name := "<init>", desc := "()V" } : Jvm.MethodName) object_method_1_code (1 : Nat) (Option.none : Option Jvm.ClassFile.FieldType), Jvm.Cond.code ({ cls := "java/lang/StringUTF16", name := "compress", desc := "([CII)[B" } : Jvm.MethodName) jdk_52_method_16_code (6 : Nat) (Option.some (Jvm.ClassFile.FieldType.array Jvm.ClassFile.FieldType.byte)), Jvm.Cond.code ({ cls := "java/lang/StringUTF16", name := "compress", desc := "([CI[BII)I" } : Jvm.MethodName) jdk_52_method_21_code (7 : Nat) (Option.some Jvm.ClassFile.FieldType.int), Jvm.Cond.code ({ cls := "java/lang/StringUTF16", name := "coderFromArrayLen", desc := "([BI)B" } : Jvm.MethodName) jdk_52_method_15_code (2 : Nat) (Option.some Jvm.ClassFile.FieldType.byte), Jvm.Cond.code ({ cls := "com/example/winnow/winnow/contacts/ContentLine", name := "<init>", desc := "(ILjava/lang/String;Ljava/lang/String;Ljava/lang/String;I)V" } : Jvm.MethodName) prog_25_method_1_code (6 : Nat) (Option.none : Option Jvm.ClassFile.FieldType), Jvm.Cond.code ({ cls := "java/lang/Record", name := "<init>", desc := "()V" } : Jvm.MethodName) jdk_30_method_1_code (1 : Nat) (Option.none : Option Jvm.ClassFile.FieldType), Jvm.Cond.code ({ cls := "java/lang/String", name := "length", desc := "()I" } : Jvm.MethodName) jdk_42_method_54_code (1 : Nat) (Option.some Jvm.ClassFile.FieldType.int), Jvm.Cond.code ({ cls := "java/lang/String", name := "coder", desc := "()B" } : Jvm.MethodName) jdk_42_method_152_code (1 : Nat) (Option.some Jvm.ClassFile.FieldType.byte), Jvm.Cond.code ({ cls := "java/util/Objects", name := "checkIndex", desc := "(II)I" } : Jvm.MethodName) jdk_31_method_17_code (2 : Nat) (Option.some Jvm.ClassFile.FieldType.int), Jvm.Cond.code ({ cls := "jdk/internal/util/Preconditions", name := "checkIndex", desc := "(IILjava/util/function/BiFunction;)I" } : Jvm.MethodName) jdk_41_method_11_code (3 : Nat) (Option.some Jvm.ClassFile.FieldType.int), Jvm.Cond.code ({ cls := "com/example/winnow/winnow/contacts/ContentLine", name := "value", desc := "()Ljava/lang/String;" } : Jvm.MethodName) prog_25_method_3_code (1 : Nat) (Option.some (Jvm.ClassFile.FieldType.object "java/lang/String")), Jvm.Cond.code ({ cls := "java/lang/String", name := "substring", desc := "(I)Ljava/lang/String;" } : Jvm.MethodName) jdk_42_method_91_code (2 : Nat) (Option.some (Jvm.ClassFile.FieldType.object "java/lang/String")), Jvm.Cond.code ({ cls := "java/lang/String", name := "substring", desc := "(II)Ljava/lang/String;" } : Jvm.MethodName) jdk_42_method_92_code (5 : Nat) (Option.some (Jvm.ClassFile.FieldType.object "java/lang/String")), Jvm.Cond.code ({ cls := "java/lang/String", name := "checkBoundsBeginEnd", desc := "(III)V" } : Jvm.MethodName) jdk_42_method_158_code (3 : Nat) (Option.none : Option Jvm.ClassFile.FieldType), Jvm.Cond.code ({ cls := "jdk/internal/util/Preconditions", name := "checkFromToIndex", desc := "(IIILjava/util/function/BiFunction;)I" } : Jvm.MethodName) jdk_41_method_12_code (4 : Nat) (Option.some Jvm.ClassFile.FieldType.int), Jvm.Cond.code ({ cls := "java/lang/String", name := "isLatin1", desc := "()Z" } : Jvm.MethodName) jdk_42_method_154_code (1 : Nat) (Option.some Jvm.ClassFile.FieldType.boolean), Jvm.Cond.code ({ cls := "java/lang/StringLatin1", name := "newString", desc := "([BII)Ljava/lang/String;" } : Jvm.MethodName) jdk_43_method_47_code (3 : Nat) (Option.some (Jvm.ClassFile.FieldType.object "java/lang/String")), Jvm.Cond.code ({ cls := "java/util/Arrays", name := "copyOfRange", desc := "([BII)[B" } : Jvm.MethodName) jdk_65_method_132_code (3 : Nat) (Option.some (Jvm.ClassFile.FieldType.array Jvm.ClassFile.FieldType.byte)), Jvm.Cond.code ({ cls := "java/util/Arrays", name := "copyOfRangeByte", desc := "([BII)[B" } : Jvm.MethodName) jdk_65_method_133_code (5 : Nat) (Option.some (Jvm.ClassFile.FieldType.array Jvm.ClassFile.FieldType.byte)), Jvm.Cond.code ({ cls := "java/util/Arrays", name := "checkLength", desc := "(II)V" } : Jvm.MethodName) jdk_65_method_131_code (2 : Nat) (Option.none : Option Jvm.ClassFile.FieldType), Jvm.Cond.code ({ cls := "java/lang/Math", name := "min", desc := "(II)I" } : Jvm.MethodName) jdk_29_method_69_code (2 : Nat) (Option.some Jvm.ClassFile.FieldType.int), Jvm.Cond.code ({ cls := "java/lang/String", name := "<init>", desc := "([BB)V" } : Jvm.MethodName) jdk_42_method_151_code (3 : Nat) (Option.none : Option Jvm.ClassFile.FieldType), Jvm.Cond.code ({ cls := "com/example/winnow/winnow/contacts/ContentLineValuePinLaw", name := "at", desc := "(Ljava/lang/String;II[CI)Z" } : Jvm.MethodName) method_3_code (5 : Nat) (Option.some Jvm.ClassFile.FieldType.boolean), Jvm.Cond.code ({ cls := "java/lang/String", name := "charAt", desc := "(I)C" } : Jvm.MethodName) jdk_42_method_56_code (2 : Nat) (Option.some Jvm.ClassFile.FieldType.char), Jvm.Cond.code ({ cls := "java/lang/StringLatin1", name := "charAt", desc := "([BI)C" } : Jvm.MethodName) jdk_43_method_2_code (2 : Nat) (Option.some Jvm.ClassFile.FieldType.char), Jvm.Cond.code ({ cls := "java/lang/String", name := "checkIndex", desc := "(II)V" } : Jvm.MethodName) jdk_42_method_155_code (2 : Nat) (Option.none : Option Jvm.ClassFile.FieldType)]
set_option maxRecDepth 65536 in
theorem codes_eq : words1.filter isCode = codes1 := rfl
theorem w_codes : ∀ c ∈ words1.filter isCode, c.before args0 about1 = true := by
  rw [codes_eq]
  intro c hc
  simp only [codes1, List.mem_cons, List.not_mem_nil, or_false] at hc
  rcases hc with rfl | rfl | rfl | rfl | rfl | rfl | rfl | rfl | rfl | rfl | rfl | rfl | rfl | rfl | rfl | rfl | rfl | rfl | rfl | rfl | rfl | rfl | rfl | rfl | rfl | rfl | rfl | rfl | rfl
  · exact w_c0
  · exact w_c1
  · exact w_c2
  · exact w_c3
  · exact w_c4
  · exact w_c5
  · exact w_c6
  · exact w_c7
  · exact w_c8
  · exact w_c9
  · exact w_c10
  · exact w_c11
  · exact w_c12
  · exact w_c13
  · exact w_c14
  · exact w_c15
  · exact w_c16
  · exact w_c17
  · exact w_c18
  · exact w_c19
  · exact w_c20
  · exact w_c21
  · exact w_c22
  · exact w_c23
  · exact w_c24
  · exact w_c25
  · exact w_c26
  · exact w_c27
  · exact w_c28
set_option maxRecDepth 65536 in
theorem w_t1 : (words1.take 24).all (fun c => isCode c || c.before args0 about1) = true := by decide +kernel
set_option maxRecDepth 65536 in
theorem w_t2 : ((words1.drop 24).take 24).all (fun c => isCode c || c.before args0 about1) = true := by decide +kernel
set_option maxRecDepth 65536 in
theorem w_t3 : (((words1.drop 24).drop 24).take 24).all (fun c => isCode c || c.before args0 about1) = true := by decide +kernel
set_option maxRecDepth 65536 in
theorem w_t4 : ((((words1.drop 24).drop 24).drop 24).take 24).all (fun c => isCode c || c.before args0 about1) = true := by decide +kernel
set_option maxRecDepth 65536 in
theorem w_t5 : (((((words1.drop 24).drop 24).drop 24).drop 24).take 24).all (fun c => isCode c || c.before args0 about1) = true := by decide +kernel
set_option maxRecDepth 65536 in
theorem w_t6 : ((((((words1.drop 24).drop 24).drop 24).drop 24).drop 24).take 24).all (fun c => isCode c || c.before args0 about1) = true := by decide +kernel
set_option maxRecDepth 65536 in
theorem w_t7 : ((((((words1.drop 24).drop 24).drop 24).drop 24).drop 24).drop 24).all (fun c => isCode c || c.before args0 about1) = true := by decide +kernel
theorem w_tables : (allAtoms (Jvm.Cond.code x code maxLocals ret :: tables_1)).before args0 about1 = true := by
  rw [allAtoms_all]
  show words1.all (fun c => c.before args0 about1) = true
  refine all_split ?_ w_codes
  rw [← List.take_append_drop 24 words1, List.all_append, w_t1, ← List.take_append_drop 24 (words1.drop 24), List.all_append, w_t2, ← List.take_append_drop 24 ((words1.drop 24).drop 24), List.all_append, w_t3, ← List.take_append_drop 24 (((words1.drop 24).drop 24).drop 24), List.all_append, w_t4, ← List.take_append_drop 24 ((((words1.drop 24).drop 24).drop 24).drop 24), List.all_append, w_t5, ← List.take_append_drop 24 (((((words1.drop 24).drop 24).drop 24).drop 24).drop 24), List.all_append, w_t6, w_t7]
  rfl
set_option maxRecDepth 65536 in
theorem w_rest : rest_1_c.before args0 about1 = true := by decide +kernel
set_option maxRecDepth 65536 in
theorem w_case : (Jvm.Cond.and given_1 narrow_1).before args0 about1 = true := by decide +kernel
set_option maxRecDepth 65536 in
theorem w_consts : constsHeld consts_1 about1 := Jvm.Lit.constsHeldB_iff.mp (by decide +kernel)
theorem w_applies : (headSpec (Jvm.Cond.code x code maxLocals ret :: tables_1) room_1).applies x e0.platform about1 = true :=
  (Spec.applies_iff w_frames).mpr ⟨w_running, w_runnable, w_alone, w_named, w_hears, w_ripe, w_room, w_tables⟩
theorem atStart : AtStart classFile x code maxLocals ret World_1 tables_1 room_1 Calls_1 rest_1 Pre_1 launch0 p0 e0 about1 theMethod args0 below0 :=
  ⟨lists_1, trivial, launch0.admits_env _ _ _, launch0.least_env, fairChoices_fair.cas, fairChoices_fair.clock, w_frames, w_args, w_heap, w_applies, ⟨w_consts, trivial⟩, w_rest, w_case⟩
end start1
theorem witness_1 : WitnessClaimed_1 := ⟨start1.p0, start1.e0, start1.about1, start1.theMethod, start1.args0, start1.below0, start1.atStart⟩
end Jvm.Pilot.@@N@@
