import JvmDerived
import JvmDerived.Pilot.@@N@@Statement
import JvmDerived.Pilot.@@N@@Code
set_option linter.unusedVariables false
set_option linter.unusedSimpArgs false
@@BLOCK:NumsL.lean.txt@@
namespace Jvm.Pilot.@@N@@
set_option maxRecDepth 65536
set_option maxHeartbeats 40000000
open Jvm Jvm.ClassFile Sem Op Lib Jvm.Free Jvm.Stand Jvm.LawKit Jvm.RoadKit Bundle Jvm.Pilot.@@N@@.Jvm.D
abbrev own_W (a0 : Array Value) (Z : State) : Prop := ∀ d ∈ tables_1, d.before a0 Z = true
theorem own_i32 {x : Int32} (k : Int32) {n : Int} (e : k.toInt = n) (h : x.toInt = n) : x = k := Int32.toInt_inj.mp (h.trans e.symm)
section Own
variable {p : Program} {l : Launch} {e : Env} {R : Room} {s : State} {m : MethodId} {args : Array Value} {below : List Frame} {meth : Method} {c : Code} {T T' : State} {locs : List Loc} {cells slots : Nat} {Z : State} {a0 : Array Value} {h : Heap} {P : Outcome → State → Prop}
theorem own_hw {L : List Jvm.Cond} (hw : ∀ d ∈ L, d.before a0 Z = true) (i : Nat) {d : Jvm.Cond} (q : L[i]? = some d) : d.before a0 Z = true := hw d (List.mem_of_getElem? q)
/-- from here the run comes to an end that P allows -/
def own_Go (p : Program) (e : Env) (below : List Frame) (P : Outcome → State → Prop) (T : State) (g : JFrame) : Prop :=
  ∃ s₂ o, Steps p.tables e below (T.setTop g) s₂ ∧ s₂.status = .running ∧ Ended s₂ below o ∧ P o s₂
theorem own_go {g g' : JFrame} (h : ∀ t, Steps p.tables e below (T'.setTop g') t → Steps p.tables e below (T.setTop g) t) (k : own_Go p e below P T' g') : own_Go p e below P T g := by
  obtain ⟨s₂, o, h1, h2⟩ := k
  exact ⟨s₂, o, h _ h1, h2⟩
theorem own_cut {α : Type} {g : JFrame} {F : α → JFrame} (tl : ∀ v, own_Go p e below P T (F v)) (k : (∀ v, own_Go p e below P T (F v)) → own_Go p e below P T g) : own_Go p e below P T g := k tl
theorem own_laid1 {v : Value} (h : v.isRef = true) : Jvm.Sym.laidSlots [v] = [.val v] := by
  have hc : ¬ v.category = 2 := by cases v <;> first | (intro q; cases q; done) | (cases h; done)
  show (if v.category = 2 then Slot.val v :: .second :: Jvm.Sym.laidSlots [] else Slot.val v :: Jvm.Sym.laidSlots []) = _
  rw [if_neg hc]; rfl
theorem own_frame {m : MethodId} {as' : Array Value} {n : Nat} {L : List Slot} {ls : Array Slot} (hl : Jvm.Sym.laidSlots as'.toList = L) (h : L ++ List.replicate (n - L.length) .unset = ls.toList) : entryFrame m as' n = mkF m 0 ls [] := by
  show mkF m 0 (argsToLocals as' n) [] = _
  have e := Jvm.Sym.argsToLocals_toList as' n
  rw [hl] at e
  rw [show argsToLocals as' n = ls from Array.toList_inj.mp (e.trans h)]
theorem own_cast {g g' : JFrame} (q : g = g') (k : own_Go p e below P T g') : own_Go p e below P T g := q ▸ k
/-- what a body leaves: Q of its answer, of the heap and of the places written; no more cells and slots than k and n -/
def own_End (s : State) (Q : Option Value → Heap → List Loc → Prop) (k n : Nat) (o : Outcome) (t : State) : Prop := ∃ v L, o = .returned v ∧ Q v t.heap L ∧ FrameEnd s o t L k n
/-- a body's contract, at one heap and one list of arguments -/
def own_Met (l : Launch) (Z : State) (y : MethodName) (bytes : ByteArray) (maxL : Nat) (ret : Option FieldType) (rm : Room) (as' : Array Value) (h0 : Heap) (Q : Option Value → Heap → List Loc → Prop) : Prop :=
  ∀ ws : List Jvm.Cond, MetFree l y (head1 (Jvm.Cond.code y bytes maxL ret :: ws) rm) (fun a U => a = as' ∧ Z.Warmed39 U.vm ∧ U.heap = h0) (fun _ _ _ _ _ => True) (fun _ U o U' => ∃ v L, o = .returned v ∧ Q v U'.heap L ∧ FrameEnd U o U' L rm.cells rm.slots)
theorem own_body {y : MethodName} {bytes : ByteArray} {maxL : Nat} {ret : Option FieldType} {rm : Room} {as' : Array Value} {h0 : Heap} {Q : Option Value → Heap → List Loc → Prop} (hp : plainFor y = true)
    (k : ∀ (p : Program) (e : Env) (s : State) (m : MethodId) (below : List Frame) (meth : Method) (c : Code) (T : State), Stand p l e rm s m as' below meth c T [] 0 0 → p.tables.exec = Jvm.exec → Z.Warmed39 s.vm → c.code = bytes → c.maxLocals = maxL → s.vm.findClass y.cls = some m.cls → meth.name = y.name →
      meth.sig.returnType = ret → meth.locks = false → T.heap = h0 → own_Go p e below (own_End s Q rm.cells rm.slots) T (entryFrame m as' maxL)) : own_Met l Z y bytes maxL ret rm as' h0 Q := by
  intro ws
  refine MetFree.of_bodySF hp hisR ?_
  intro p e s m args below meth c s₁ Bd hml0 hP hK
  obtain ⟨rfl, hZ, hh⟩ := hP
  exact k p e s m below meth c s₁ (Stand.of_body Bd) Bd.exec hZ Bd.bytes hml0 (findClass_of_methodNamed Bd.named) (name_of_methodNamed Bd.named Bd.method).1 Bd.returns Bd.notSynchronized (by rw [← hh, Bd.state]; rfl)
/-- a return with a value -/
theorem own_ret (X : Stand p l e R s m args below meth c T locs cells slots) (hx : p.tables.exec = Jvm.exec) {pc : Nat} {Ls : Array Slot} {w : Value} {t : FieldType} {i : Instr} {rest : List Value} (hret : meth.sig.returnType = some t) (hlk : meth.locks = false) (hd : decode c.code pc = .ok (i, 1)) (hn : narrow t w = w)
    (hi : (i = .ireturn ∧ (t = .int ∨ t = .boolean ∨ t = .byte ∨ t = .char ∨ t = .short) ∧ ∃ z, w = .int z) ∨ (i = .lreturn ∧ t = .long ∧ ∃ z, w = .long z) ∨ (i = .dreturn ∧ t = .double ∧ ∃ z, w = .double z) ∨ (i = .freturn ∧ t = .float ∧ ∃ z, w = .float z) ∨ (i = .areturn ∧ t.isReference = true ∧ w.isRef = true))
    {Q : Option Value → Heap → List Loc → Prop} {kc kn : Nat} (hc : cells ≤ kc) (hs : slots ≤ kn) (hQ : Q (some w) T.heap locs) : own_Go p e below (own_End s Q kc kn) T (mkF m pc Ls (w :: rest)) := by
  obtain ⟨fs, hr, hrun, hended, hW, hsame⟩ := X.leave (v := some w) (fun h => by rw [hret] at h; cases h) hlk
  exact ⟨_, _, retOut X hx hret hn hi hd hr, hrun, hended, _, _, rfl, hQ, ⟨_, rfl⟩, hW, hsame.mono hc hs⟩
theorem own_retI (X : Stand p l e R s m args below meth c T locs cells slots) (hx : p.tables.exec = Jvm.exec) {pc : Nat} {Ls : Array Slot} {z : Int32} {t : FieldType} {rest : List Value} (hret : meth.sig.returnType = some t) (hlk : meth.locks = false) (hd : decode c.code pc = .ok (.ireturn, 1)) (hn : narrow t (.int z) = .int z)
    (ht : t = .int ∨ t = .boolean ∨ t = .byte ∨ t = .char ∨ t = .short) {Q : Option Value → Heap → List Loc → Prop} {kc kn : Nat} (hc : cells ≤ kc) (hs : slots ≤ kn) (hQ : Q (some (.int z)) T.heap locs) : own_Go p e below (own_End s Q kc kn) T (mkF m pc Ls (.int z :: rest)) :=
  own_ret X hx hret hlk hd hn (Or.inl ⟨rfl, ht, z, rfl⟩) hc hs hQ
theorem own_retA (X : Stand p l e R s m args below meth c T locs cells slots) (hx : p.tables.exec = Jvm.exec) {pc : Nat} {Ls : Array Slot} {w : Value} {t : FieldType} {rest : List Value} (hret : meth.sig.returnType = some t) (hlk : meth.locks = false) (hd : decode c.code pc = .ok (.areturn, 1)) (ht : t.isReference = true) (hw : w.isRef = true)
    {Q : Option Value → Heap → List Loc → Prop} {kc kn : Nat} (hc : cells ≤ kc) (hs : slots ≤ kn) (hQ : Q (some w) T.heap locs) : own_Go p e below (own_End s Q kc kn) T (mkF m pc Ls (w :: rest)) :=
  own_ret X hx hret hlk hd (by cases t <;> first | rfl | (cases w <;> rfl) | (simp [FieldType.isReference] at ht)) (Or.inr (Or.inr (Or.inr (Or.inr ⟨rfl, ht, hw⟩)))) hc hs hQ
theorem own_retV (X : Stand p l e R s m args below meth c T locs cells slots) (hx : p.tables.exec = Jvm.exec) {pc : Nat} {Ls : Array Slot} (hret : meth.sig.returnType = none) (hlk : meth.locks = false) (hd : decode c.code pc = .ok (.return_, 1))
    {Q : Option Value → Heap → List Loc → Prop} {kc kn : Nat} (hc : cells ≤ kc) (hs : slots ≤ kn) (hQ : Q none T.heap locs) : own_Go p e below (own_End s Q kc kn) T (mkF m pc Ls []) := by
  obtain ⟨fs, hr, hrun, hended, hW, hsame⟩ := X.leave (v := none) (fun _ => rfl) hlk
  exact ⟨_, _, X.returnOut hx hret hd hr, hrun, hended, _, _, rfl, hQ, ⟨_, rfl⟩, hW, hsame.mono hc hs⟩
section Og
variable {pc : Nat} {Ls : Array Slot} {st : List Value}
theorem og_iload (X : Stand p l e R s m args below meth c T locs cells slots) (hx : p.tables.exec = Jvm.exec) {k : Nat} {v : Int32} (hd : decode c.code pc = .ok (.iload k, 2)) (hl : Ls[k]? = some (.val (.int v))) (kk : own_Go p e below P T (mkF m (pc + 2) Ls (.int v :: st))) : own_Go p e below P T (mkF m pc Ls st) :=
  own_go (fun _ q => XS.iload X.here hx rfl hd hl q) kk
theorem og_iloadN (X : Stand p l e R s m args below meth c T locs cells slots) (hx : p.tables.exec = Jvm.exec) {k : Fin 4} {v : Int32} (hd : decode c.code pc = .ok (.iload_n k, 1)) (hl : Ls[k.val]? = some (.val (.int v))) (kk : own_Go p e below P T (mkF m (pc + 1) Ls (.int v :: st))) : own_Go p e below P T (mkF m pc Ls st) :=
  own_go (fun _ q => XS.iloadN X.here hx rfl hd hl q) kk
theorem og_aload (X : Stand p l e R s m args below meth c T locs cells slots) (hx : p.tables.exec = Jvm.exec) {k : Nat} {v : Value} (hd : decode c.code pc = .ok (.aload k, 2)) (hl : Ls[k]? = some (.val v)) (hv : v.isRef = true) (kk : own_Go p e below P T (mkF m (pc + 2) Ls (v :: st))) : own_Go p e below P T (mkF m pc Ls st) :=
  own_go (fun _ q => XS.aload X.here hx rfl hd hl hv q) kk
theorem og_aloadN (X : Stand p l e R s m args below meth c T locs cells slots) (hx : p.tables.exec = Jvm.exec) {k : Fin 4} {v : Value} (hd : decode c.code pc = .ok (.aload_n k, 1)) (hl : Ls[k.val]? = some (.val v)) (hv : v.isRef = true) (kk : own_Go p e below P T (mkF m (pc + 1) Ls (v :: st))) : own_Go p e below P T (mkF m pc Ls st) :=
  own_go (fun _ q => XS.aloadN X.here hx rfl hd hl hv q) kk
theorem og_lload (X : Stand p l e R s m args below meth c T locs cells slots) (hx : p.tables.exec = Jvm.exec) {k : Nat} {v : Int64} (hd : decode c.code pc = .ok (.lload k, 2)) (hl : Ls[k]? = some (.val (.long v))) (kk : own_Go p e below P T (mkF m (pc + 2) Ls (.long v :: st))) : own_Go p e below P T (mkF m pc Ls st) :=
  own_go (fun _ q => XS.lload X.here hx rfl hd hl q) kk
theorem og_lloadN (X : Stand p l e R s m args below meth c T locs cells slots) (hx : p.tables.exec = Jvm.exec) {k : Fin 4} {v : Int64} (hd : decode c.code pc = .ok (.lload_n k, 1)) (hl : Ls[k.val]? = some (.val (.long v))) (kk : own_Go p e below P T (mkF m (pc + 1) Ls (.long v :: st))) : own_Go p e below P T (mkF m pc Ls st) :=
  own_go (fun _ q => XS.lloadN X.here hx rfl hd hl q) kk
theorem og_istore (X : Stand p l e R s m args below meth c T locs cells slots) (hx : p.tables.exec = Jvm.exec) {k : Nat} {x : Int32} (l' : Array Slot) (hd : decode c.code pc = .ok (.istore k, 2)) (hl : storeLocals Ls k (.int x) = some l') (kk : own_Go p e below P T (mkF m (pc + 2) l' st)) : own_Go p e below P T (mkF m pc Ls (.int x :: st)) :=
  own_go (fun _ q => XS.istore X.here hx rfl hd rfl hl q) kk
theorem og_istoreN (X : Stand p l e R s m args below meth c T locs cells slots) (hx : p.tables.exec = Jvm.exec) {k : Fin 4} {x : Int32} (l' : Array Slot) (hd : decode c.code pc = .ok (.istore_n k, 1)) (hl : storeLocals Ls k.val (.int x) = some l') (kk : own_Go p e below P T (mkF m (pc + 1) l' st)) : own_Go p e below P T (mkF m pc Ls (.int x :: st)) :=
  own_go (fun _ q => XS.istoreN X.here hx rfl hd rfl hl q) kk
theorem og_lstore (X : Stand p l e R s m args below meth c T locs cells slots) (hx : p.tables.exec = Jvm.exec) {k : Nat} {x : Int64} (l' : Array Slot) (hd : decode c.code pc = .ok (.lstore k, 2)) (hl : storeLocals Ls k (.long x) = some l') (kk : own_Go p e below P T (mkF m (pc + 2) l' st)) : own_Go p e below P T (mkF m pc Ls (.long x :: st)) :=
  own_go (fun _ q => XS.lstore X.here hx rfl hd rfl hl q) kk
theorem og_lstoreN (X : Stand p l e R s m args below meth c T locs cells slots) (hx : p.tables.exec = Jvm.exec) {k : Fin 4} {x : Int64} (l' : Array Slot) (hd : decode c.code pc = .ok (.lstore_n k, 1)) (hl : storeLocals Ls k.val (.long x) = some l') (kk : own_Go p e below P T (mkF m (pc + 1) l' st)) : own_Go p e below P T (mkF m pc Ls (.long x :: st)) :=
  own_go (fun _ q => XS.lstoreN X.here hx rfl hd rfl hl q) kk
theorem og_astore (X : Stand p l e R s m args below meth c T locs cells slots) (hx : p.tables.exec = Jvm.exec) {k : Nat} {x : Value} (l' : Array Slot) (hd : decode c.code pc = .ok (.astore k, 2)) (hv : x.isRef = true) (hl : storeLocals Ls k x = some l') (kk : own_Go p e below P T (mkF m (pc + 2) l' st)) : own_Go p e below P T (mkF m pc Ls (x :: st)) :=
  own_go (fun _ q => XS.astore X.here hx rfl hd rfl hv hl q) kk
theorem og_astoreN (X : Stand p l e R s m args below meth c T locs cells slots) (hx : p.tables.exec = Jvm.exec) {k : Fin 4} {x : Value} (l' : Array Slot) (hd : decode c.code pc = .ok (.astore_n k, 1)) (hv : x.isRef = true) (hl : storeLocals Ls k.val x = some l') (kk : own_Go p e below P T (mkF m (pc + 1) l' st)) : own_Go p e below P T (mkF m pc Ls (x :: st)) :=
  own_go (fun _ q => XS.astoreN X.here hx rfl hd rfl hv hl q) kk
theorem og_iconst (X : Stand p l e R s m args below meth c T locs cells slots) (hx : p.tables.exec = Jvm.exec) {i : Int} (hd : decode c.code pc = .ok (.iconst i, 1)) (kk : own_Go p e below P T (mkF m (pc + 1) Ls (.int (Int32.ofInt i) :: st))) : own_Go p e below P T (mkF m pc Ls st) :=
  own_go (fun _ q => XS.iconst X.here hx rfl hd q) kk
theorem og_bipush (X : Stand p l e R s m args below meth c T locs cells slots) (hx : p.tables.exec = Jvm.exec) {i : Int} (hd : decode c.code pc = .ok (.bipush i, 2)) (kk : own_Go p e below P T (mkF m (pc + 2) Ls (.int (Int8.ofInt i).toInt32 :: st))) : own_Go p e below P T (mkF m pc Ls st) :=
  own_go (fun _ q => XS.bipush X.here hx rfl hd q) kk
theorem og_sipush (X : Stand p l e R s m args below meth c T locs cells slots) (hx : p.tables.exec = Jvm.exec) {i : Int} (hd : decode c.code pc = .ok (.sipush i, 3)) (kk : own_Go p e below P T (mkF m (pc + 3) Ls (.int (Int16.ofInt i).toInt32 :: st))) : own_Go p e below P T (mkF m pc Ls st) :=
  own_go (fun _ q => XS.sipush X.here hx rfl hd q) kk
theorem og_lconst (X : Stand p l e R s m args below meth c T locs cells slots) (hx : p.tables.exec = Jvm.exec) {k : Fin 2} (hd : decode c.code pc = .ok (.lconst k, 1)) (kk : own_Go p e below P T (mkF m (pc + 1) Ls (.long (Int64.ofNat k) :: st))) : own_Go p e below P T (mkF m pc Ls st) :=
  own_go (fun _ q => XS.lconst X.here hx rfl hd q) kk
theorem og_null (X : Stand p l e R s m args below meth c T locs cells slots) (hx : p.tables.exec = Jvm.exec) (hd : decode c.code pc = .ok (.aconst_null, 1)) (kk : own_Go p e below P T (mkF m (pc + 1) Ls (.null :: st))) : own_Go p e below P T (mkF m pc Ls st) :=
  own_go (fun _ q => XS.aconstNull X.here hx rfl hd q) kk
theorem og_iadd (X : Stand p l e R s m args below meth c T locs cells slots) (hx : p.tables.exec = Jvm.exec) {x y : Int32} (hd : decode c.code pc = .ok (.iadd, 1)) (kk : own_Go p e below P T (mkF m (pc + 1) Ls (.int (x + y) :: st))) : own_Go p e below P T (mkF m pc Ls (.int y :: .int x :: st)) :=
  own_go (fun _ q => XS.iadd X.here hx rfl hd rfl q) kk
theorem og_isub (X : Stand p l e R s m args below meth c T locs cells slots) (hx : p.tables.exec = Jvm.exec) {x y : Int32} (hd : decode c.code pc = .ok (.isub, 1)) (kk : own_Go p e below P T (mkF m (pc + 1) Ls (.int (x - y) :: st))) : own_Go p e below P T (mkF m pc Ls (.int y :: .int x :: st)) :=
  own_go (fun _ q => XS.isub X.here hx rfl hd rfl q) kk
theorem og_iand (X : Stand p l e R s m args below meth c T locs cells slots) (hx : p.tables.exec = Jvm.exec) {x y : Int32} (hd : decode c.code pc = .ok (.iand, 1)) (kk : own_Go p e below P T (mkF m (pc + 1) Ls (.int (x &&& y) :: st))) : own_Go p e below P T (mkF m pc Ls (.int y :: .int x :: st)) :=
  own_go (fun _ q => XS.iand X.here hx rfl hd rfl q) kk
theorem og_imul (X : Stand p l e R s m args below meth c T locs cells slots) (hx : p.tables.exec = Jvm.exec) {x y : Int32} (hd : decode c.code pc = .ok (.imul, 1)) (kk : own_Go p e below P T (mkF m (pc + 1) Ls (.int (x * y) :: st))) : own_Go p e below P T (mkF m pc Ls (.int y :: .int x :: st)) :=
  own_go (fun _ q => XS.imul X.here hx rfl hd rfl q) kk
theorem og_ior (X : Stand p l e R s m args below meth c T locs cells slots) (hx : p.tables.exec = Jvm.exec) {x y : Int32} (hd : decode c.code pc = .ok (.ior, 1)) (kk : own_Go p e below P T (mkF m (pc + 1) Ls (.int (x ||| y) :: st))) : own_Go p e below P T (mkF m pc Ls (.int y :: .int x :: st)) :=
  own_go (fun _ q => XS.ior X.here hx rfl hd rfl q) kk
theorem og_ixor (X : Stand p l e R s m args below meth c T locs cells slots) (hx : p.tables.exec = Jvm.exec) {x y : Int32} (hd : decode c.code pc = .ok (.ixor, 1)) (kk : own_Go p e below P T (mkF m (pc + 1) Ls (.int (x ^^^ y) :: st))) : own_Go p e below P T (mkF m pc Ls (.int y :: .int x :: st)) :=
  own_go (fun _ q => XS.ixor X.here hx rfl hd rfl q) kk
theorem og_dup (X : Stand p l e R s m args below meth c T locs cells slots) (hx : p.tables.exec = Jvm.exec) {x : Value} (hd : decode c.code pc = .ok (.dup, 1)) (hc : x.category = 1) (kk : own_Go p e below P T (mkF m (pc + 1) Ls (x :: x :: st))) : own_Go p e below P T (mkF m pc Ls (x :: st)) :=
  own_go (fun _ q => XS.dup X.here hx rfl hd rfl hc q) kk
theorem og_pop (X : Stand p l e R s m args below meth c T locs cells slots) (hx : p.tables.exec = Jvm.exec) {x : Value} (hd : decode c.code pc = .ok (.pop, 1)) (hc : x.category = 1) (kk : own_Go p e below P T (mkF m (pc + 1) Ls st)) : own_Go p e below P T (mkF m pc Ls (x :: st)) :=
  own_go (fun _ q => XS.pop X.here hx rfl hd rfl hc q) kk
theorem og_goto (X : Stand p l e R s m args below meth c T locs cells slots) (hx : p.tables.exec = Jvm.exec) {o : Int} (pc' : Nat) (hd : decode c.code pc = .ok (.goto o, 3)) (ho : 0 ≤ (pc : Int) + o) (hp : ((pc : Int) + o).toNat = pc') (kk : own_Go p e below P T (mkF m pc' Ls st)) : own_Go p e below P T (mkF m pc Ls st) :=
  own_go (fun _ q => XS.goto X.here hx rfl rfl hd ho hp q) kk
theorem og_ifN (X : Stand p l e R s m args below meth c T locs cells slots) (hx : p.tables.exec = Jvm.exec) {cd : ClassFile.Cond} {o : Int} {x : Int32} (hd : decode c.code pc = .ok (.ifCond cd o, 3)) (hc : if_icmp.holds cd x 0 = false) (kk : own_Go p e below P T (mkF m (pc + 3) Ls st)) : own_Go p e below P T (mkF m pc Ls (.int x :: st)) :=
  own_go (fun _ q => XS.ifNo X.here hx rfl hd rfl ((if0 _ _).trans hc) q) kk
theorem og_ifY (X : Stand p l e R s m args below meth c T locs cells slots) (hx : p.tables.exec = Jvm.exec) {cd : ClassFile.Cond} {o : Int} {x : Int32} (pc' : Nat) (hd : decode c.code pc = .ok (.ifCond cd o, 3)) (hc : if_icmp.holds cd x 0 = true) (ho : 0 ≤ (pc : Int) + o) (hp : ((pc : Int) + o).toNat = pc') (kk : own_Go p e below P T (mkF m pc' Ls st)) : own_Go p e below P T (mkF m pc Ls (.int x :: st)) :=
  own_go (fun _ q => XS.ifYes X.here hx rfl rfl hd rfl ((if0 _ _).trans hc) ho hp q) kk
theorem og_icN (X : Stand p l e R s m args below meth c T locs cells slots) (hx : p.tables.exec = Jvm.exec) {cd : ClassFile.Cond} {o : Int} {x y : Int32} (hd : decode c.code pc = .ok (.if_icmp cd o, 3)) (hc : if_icmp.holds cd x y = false) (kk : own_Go p e below P T (mkF m (pc + 3) Ls st)) : own_Go p e below P T (mkF m pc Ls (.int y :: .int x :: st)) :=
  own_go (fun _ q => XS.icmpNo X.here hx rfl hd rfl hc q) kk
theorem og_icY (X : Stand p l e R s m args below meth c T locs cells slots) (hx : p.tables.exec = Jvm.exec) {cd : ClassFile.Cond} {o : Int} {x y : Int32} (pc' : Nat) (hd : decode c.code pc = .ok (.if_icmp cd o, 3)) (hc : if_icmp.holds cd x y = true) (ho : 0 ≤ (pc : Int) + o) (hp : ((pc : Int) + o).toNat = pc') (kk : own_Go p e below P T (mkF m pc' Ls st)) : own_Go p e below P T (mkF m pc Ls (.int y :: .int x :: st)) :=
  own_go (fun _ q => XS.icmpYes X.here hx rfl rfl hd rfl hc ho hp q) kk
theorem og_ifnullY (X : Stand p l e R s m args below meth c T locs cells slots) (hx : p.tables.exec = Jvm.exec) {o : Int} (pc' : Nat) (hd : decode c.code pc = .ok (.ifnull o, 3)) (ho : 0 ≤ (pc : Int) + o) (hp : ((pc : Int) + o).toNat = pc') (kk : own_Go p e below P T (mkF m pc' Ls st)) : own_Go p e below P T (mkF m pc Ls (.null :: st)) :=
  own_go (fun _ q => XS.ifnullYes X.here hx rfl rfl hd rfl ho hp q) kk
theorem og_ifnullN (X : Stand p l e R s m args below meth c T locs cells slots) (hx : p.tables.exec = Jvm.exec) {b : Addr} {o : Int} (hd : decode c.code pc = .ok (.ifnull o, 3)) (kk : own_Go p e below P T (mkF m (pc + 3) Ls st)) : own_Go p e below P T (mkF m pc Ls (.ref b :: st)) :=
  own_go (fun _ q => XS.ifnullNo X.here hx rfl hd rfl q) kk
theorem og_ifnonnullY (X : Stand p l e R s m args below meth c T locs cells slots) (hx : p.tables.exec = Jvm.exec) {b : Addr} {o : Int} (pc' : Nat) (hd : decode c.code pc = .ok (.ifnonnull o, 3)) (ho : 0 ≤ (pc : Int) + o) (hp : ((pc : Int) + o).toNat = pc') (kk : own_Go p e below P T (mkF m pc' Ls st)) : own_Go p e below P T (mkF m pc Ls (.ref b :: st)) :=
  own_go (fun _ q => XS.ifnonnullYes X.here hx rfl rfl hd rfl ho hp q) kk
theorem og_ifnonnullN (X : Stand p l e R s m args below meth c T locs cells slots) (hx : p.tables.exec = Jvm.exec) {o : Int} (hd : decode c.code pc = .ok (.ifnonnull o, 3)) (kk : own_Go p e below P T (mkF m (pc + 3) Ls st)) : own_Go p e below P T (mkF m pc Ls (.null :: st)) :=
  own_go (fun _ q => XS.ifnonnullNo X.here hx rfl hd rfl q) kk
theorem og_getF (X : Stand p l e R s m args below meth c T locs cells slots) (hx : p.tables.exec = Jvm.exec) (hZ : Z.Warmed39 s.vm) {own R0 O n d : String} {index : Nat} (hown : s.vm.findClass own = some m.cls) (w : (Jvm.Cond.fieldLink own index R0 n d).before a0 Z = true) (via : Via Z R0 O n d) (eT : T.heap = h) {a : Addr} {v : Value} (F : Fld Z h a O n d v) (hd : decode c.code pc = .ok (.getfield index, 3))
    (kk : ∀ T', Stand p l e R s m args below meth c T' locs cells slots → T'.heap = h → own_Go p e below P T' (mkF m (pc + 3) Ls (v :: st))) : own_Go p e below P T (mkF m pc Ls (.ref a :: st)) := by
  obtain ⟨T', X', e', stp⟩ := getF X hx hZ hown (host := "") (Or.inl w) via eT F (g := mkF m pc Ls (.ref a :: st)) rfl rfl hd
  exact own_go stp (kk T' X' e')
theorem og_getS (X : Stand p l e R s m args below meth c T locs cells slots) (hx : p.tables.exec = Jvm.exec) (hZ : Z.Warmed39 s.vm) {own R0 O n d : String} {index : Nat} (hown : s.vm.findClass own = some m.cls) (w : (Jvm.Cond.fieldLink own index R0 n d).before a0 Z = true) (via : Via Z R0 O n d) (eT : T.heap = h) {v : Value} (F : Sta Z h O n d v) (hd : decode c.code pc = .ok (.getstatic index, 3))
    (kk : ∀ T', Stand p l e R s m args below meth c T' locs cells slots → T'.heap = h → own_Go p e below P T' (mkF m (pc + 3) Ls (v :: st))) : own_Go p e below P T (mkF m pc Ls st) := by
  obtain ⟨T', X', e', stp⟩ := getS2 X hx hZ hown (host := "") (Or.inl w) via eT F (g := mkF m pc Ls st) rfl hd
  exact own_go stp (kk T' X' e')
theorem og_ldcI (X : Stand p l e R s m args below meth c T locs cells slots) (hx : p.tables.exec = Jvm.exec) (hZ : Z.Warmed39 s.vm) {own : String} {index : Nat} {v : Int32} (hown : s.vm.findClass own = some m.cls) (w : (Jvm.Cond.constant own index v).before a0 Z = true) (hd : decode c.code pc = .ok (.ldc index, 2)) (kk : own_Go p e below P T (mkF m (pc + 2) Ls (.int v :: st))) : own_Go p e below P T (mkF m pc Ls st) :=
  own_go (fun _ q => X.ldcI hx hown (mvT hZ w) rfl hd q) kk
theorem og_iremM (X : Stand p l e R s m args below meth c T locs cells slots) (hx : p.tables.exec = Jvm.exec) {x y : Int32} (hd : decode c.code pc = .ok (.irem, 1)) (hy : y ≠ 0) (kk : own_Go p e below P T (mkF m (pc + 1) Ls (.int (x % y) :: st))) : own_Go p e below P T (mkF m pc Ls (.int y :: .int x :: st)) :=
  own_go (fun _ q => iremM X hx rfl hd rfl hy q) kk
theorem og_acmp (X : Stand p l e R s m args below meth c T locs cells slots) (hx : p.tables.exec = Jvm.exec) {cd : ACond} {x y : Value} {o : Int} {pc' : Nat} {same : Bool} (h1 : x.isRef = true) (h2 : y.isRef = true) (hd : decode c.code pc = .ok (.if_acmp cd o, 3)) (hq : decide (x = y) = same) (ho : 0 ≤ (pc : Int) + o) (hp : pc' = if acV cd same = true then ((pc : Int) + o).toNat else pc + 3)
    (kk : own_Go p e below P T (mkF m pc' Ls st)) : own_Go p e below P T (mkF m pc Ls (y :: x :: st)) :=
  own_go (fun _ q => Jvm.RoadKit.acmp (g := mkF m pc Ls (y :: x :: st)) X hx rfl h1 h2 rfl hd rfl hq ho hp q) kk
end Og
/-! the calls: by a Back (..B), or by a body's own contract -/
theorem own_callSB (X : Stand p l e R s m args below meth c T locs cells slots) (hx : p.tables.exec = Jvm.exec) (hZ : Z.Warmed39 s.vm) {own : String} {index : Nat} {y : MethodName} {bytes : ByteArray} {maxL : Nat} {ret : Option FieldType} (hown : s.vm.findClass own = some m.cls)
    (w1 : (Jvm.Cond.methodLink own index y).before a0 Z = true) (w2 : (Jvm.Cond.static y).before a0 Z = true) (w3 : (Jvm.Cond.initialized y.cls).before a0 Z = true) (w4 : (Jvm.Cond.code y bytes maxL ret).before a0 Z = true) (hy : y.cls ≠ "java/lang/invoke/MethodHandle" ∧ y.cls ≠ "java/lang/invoke/VarHandle")
    {argsL rest : List Value} {Q : Option Value → Heap → List Loc → Prop} {kc kn W : Nat} (hK : Back l R p e below s args y 3 W (fun A a => a = (argsL).toArray ∧ A.U.heap = h ∧ A.cells + kc ≤ R.cells ∧ A.slots + kn ≤ R.slots) (fun A _ v B => ∃ L, Q v B.U.heap L ∧ B.locs = A.locs ++ L ∧ B.cells = A.cells + kc ∧ B.slots = A.slots + kn)) (eT : T.heap = h) {pc : Nat} {Ls : Array Slot} {st : List Value} (hsize : Ls.size = c.maxLocals)
    (hlen : ∀ sig, parseMethodDescriptor y.desc = some sig → argsL.length = sig.parameters.length) (hstack : st = argsL.reverse ++ rest) (hd : decode c.code pc = .ok (.invokestatic index, 3)) (hW : (rest.map fun v => v.category).sum ≤ W) (hc : cells + kc ≤ R.cells) (hs : slots + kn ≤ R.slots)
    (k : ∀ (v : Option Value) (T' : State) (L : List Loc), Stand p l e R s m args below meth c T' (locs ++ L) (cells + kc) (slots + kn) → Q v T'.heap L → own_Go p e below P T' (mkF m (pc + 3) Ls (v.toList ++ rest))) : own_Go p e below P T (mkF m pc Ls st) := by
  obtain ⟨v, _, ⟨T', L', k', n'⟩, -, X', ⟨Lc, hQ, l1, y1, z1⟩, stp⟩ := Jvm.LawKit.callS X hx (y := y) hown (mvT hZ w1) (mvT hZ w2) (mvT hZ w3) (mvT hZ w4) hy hK (g := mkF m pc Ls st) rfl hsize (argsL := argsL) (rest := rest) hlen hstack (by show 2 * 0 + _ ≤ _; omega) hd (fun _ _ => ⟨rfl, eT, hc, hs⟩)
  dsimp only [Pt.U, Pt.locs, Pt.cells, Pt.slots] at X' l1 y1 z1 stp hQ
  subst l1 y1 z1
  exact own_go stp (k v T' Lc X' hQ)
theorem own_callS (X : Stand p l e R s m args below meth c T locs cells slots) (hx : p.tables.exec = Jvm.exec) (hZ : Z.Warmed39 s.vm) {own : String} {index : Nat} {y : MethodName} {bytes : ByteArray} {maxL : Nat} {ret : Option FieldType} (hown : s.vm.findClass own = some m.cls)
    (w1 : (Jvm.Cond.methodLink own index y).before a0 Z = true) (w2 : (Jvm.Cond.static y).before a0 Z = true) (w3 : (Jvm.Cond.initialized y.cls).before a0 Z = true) (w4 : (Jvm.Cond.code y bytes maxL ret).before a0 Z = true) (hy : y.cls ≠ "java/lang/invoke/MethodHandle" ∧ y.cls ≠ "java/lang/invoke/VarHandle")
    {argsL rest : List Value} {rm : Room} {Q : Option Value → Heap → List Loc → Prop} (hM : own_Met l Z y bytes maxL ret rm (argsL).toArray h Q) (eT : T.heap = h) {pc : Nat} {Ls : Array Slot} {st : List Value} (hsize : Ls.size = c.maxLocals)
    (hlen : ∀ sig, parseMethodDescriptor y.desc = some sig → argsL.length = sig.parameters.length) (hstack : st = argsL.reverse ++ rest) (hd : decode c.code pc = .ok (.invokestatic index, 3)) {W : Nat} (hW : (rest.map fun v => v.category).sum ≤ W) (h4 : rm.frames + 1 ≤ R.frames ∧ W + (maxL + 11) + rm.locals ≤ R.locals ∧ cells + rm.cells ≤ R.cells ∧ slots + rm.slots ≤ R.slots)
    (k : ∀ (v : Option Value) (T' : State) (L : List Loc), Stand p l e R s m args below meth c T' (locs ++ L) (cells + rm.cells) (slots + rm.slots) → Q v T'.heap L → own_Go p e below P T' (mkF m (pc + 3) Ls (v.toList ++ rest))) : own_Go p e below P T (mkF m pc Ls st) :=
  own_callSB X hx hZ hown w1 w2 w3 w4 hy (backOf (W := W) (hM []) hZ w4 w3 h4.1 h4.2.1) eT hsize hlen hstack hd hW h4.2.2.1 h4.2.2.2 k
theorem own_callVB (X : Stand p l e R s m args below meth c T locs cells slots) (hx : p.tables.exec = Jvm.exec) (hZ : Z.Warmed39 s.vm) {own C : String} {index : Nat} {y z : MethodName} {bytes : ByteArray} {maxL : Nat} {ret : Option FieldType} (hown : s.vm.findClass own = some m.cls)
    (w1 : (Jvm.Cond.methodLink own index y).before a0 Z = true) (w2 : (Jvm.Cond.declares y).before a0 Z = true) (nf : NotFace s y) (w3 : (Jvm.Cond.selects C y z).before a0 Z = true) (w4 : (Jvm.Cond.instanceMethod z).before a0 Z = true) (w5 : (Jvm.Cond.code z bytes maxL ret).before a0 Z = true) (w6 : (Jvm.Cond.initialized z.cls).before a0 Z = true) (hy : y.cls ≠ "java/lang/invoke/MethodHandle" ∧ y.cls ≠ "java/lang/invoke/VarHandle")
    {b : Addr} {argsL rest : List Value} {Q : Option Value → Heap → List Loc → Prop} {kc kn W : Nat} (hK : Back l R p e below s args z 3 W (fun A a => a = (.ref b :: argsL).toArray ∧ A.U.heap = h ∧ A.cells + kc ≤ R.cells ∧ A.slots + kn ≤ R.slots) (fun A _ v B => ∃ L, Q v B.U.heap L ∧ B.locs = A.locs ++ L ∧ B.cells = A.cells + kc ∧ B.slots = A.slots + kn)) (eT : T.heap = h) (E : Exa Z h b C) {pc : Nat} {Ls : Array Slot} {st : List Value} (hsize : Ls.size = c.maxLocals)
    (hlen : ∀ sig, parseMethodDescriptor y.desc = some sig → argsL.length = sig.parameters.length) (hstack : st = argsL.reverse ++ .ref b :: rest) (hd : decode c.code pc = .ok (.invokevirtual index, 3)) (hW : (rest.map fun v => v.category).sum ≤ W) (hc : cells + kc ≤ R.cells) (hs : slots + kn ≤ R.slots)
    (k : ∀ (v : Option Value) (T' : State) (L : List Loc), Stand p l e R s m args below meth c T' (locs ++ L) (cells + kc) (slots + kn) → Q v T'.heap L → own_Go p e below P T' (mkF m (pc + 3) Ls (v.toList ++ rest))) : own_Go p e below P T (mkF m pc Ls st) := by
  obtain ⟨cq, kq, qa, qb, qc⟩ := isOf hZ eT E
  obtain ⟨v, _, ⟨T', L', k', n'⟩, -, X', ⟨Lc, hQ, l1, y1, z1⟩, stp⟩ := X.virtualBack hx (y := y) (z := z) hown (mvT hZ w1) (mvT hZ w2) nf (mvT hZ w3) (mvT hZ w4) hy hK qa qc (g := mkF m pc Ls st) rfl hsize (Steps.refl _) (argsL := argsL) (rest := rest) hlen hstack (by show 2 * 0 + _ ≤ _; omega) hd (fun _ _ => ⟨rfl, eT, hc, hs⟩)
  dsimp only [Pt.U, Pt.locs, Pt.cells, Pt.slots] at X' l1 y1 z1 stp hQ
  subst l1 y1 z1
  exact own_go (fun _ q => stp.trans q) (k v T' Lc X' hQ)
theorem own_callV (X : Stand p l e R s m args below meth c T locs cells slots) (hx : p.tables.exec = Jvm.exec) (hZ : Z.Warmed39 s.vm) {own C : String} {index : Nat} {y z : MethodName} {bytes : ByteArray} {maxL : Nat} {ret : Option FieldType} (hown : s.vm.findClass own = some m.cls)
    (w1 : (Jvm.Cond.methodLink own index y).before a0 Z = true) (w2 : (Jvm.Cond.declares y).before a0 Z = true) (nf : NotFace s y) (w3 : (Jvm.Cond.selects C y z).before a0 Z = true) (w4 : (Jvm.Cond.instanceMethod z).before a0 Z = true) (w5 : (Jvm.Cond.code z bytes maxL ret).before a0 Z = true) (w6 : (Jvm.Cond.initialized z.cls).before a0 Z = true) (hy : y.cls ≠ "java/lang/invoke/MethodHandle" ∧ y.cls ≠ "java/lang/invoke/VarHandle")
    {b : Addr} {argsL rest : List Value} {rm : Room} {Q : Option Value → Heap → List Loc → Prop} (hM : own_Met l Z z bytes maxL ret rm (.ref b :: argsL).toArray h Q) (eT : T.heap = h) (E : Exa Z h b C) {pc : Nat} {Ls : Array Slot} {st : List Value} (hsize : Ls.size = c.maxLocals)
    (hlen : ∀ sig, parseMethodDescriptor y.desc = some sig → argsL.length = sig.parameters.length) (hstack : st = argsL.reverse ++ .ref b :: rest) (hd : decode c.code pc = .ok (.invokevirtual index, 3)) {W : Nat} (hW : (rest.map fun v => v.category).sum ≤ W) (h4 : rm.frames + 1 ≤ R.frames ∧ W + (maxL + 11) + rm.locals ≤ R.locals ∧ cells + rm.cells ≤ R.cells ∧ slots + rm.slots ≤ R.slots)
    (k : ∀ (v : Option Value) (T' : State) (L : List Loc), Stand p l e R s m args below meth c T' (locs ++ L) (cells + rm.cells) (slots + rm.slots) → Q v T'.heap L → own_Go p e below P T' (mkF m (pc + 3) Ls (v.toList ++ rest))) : own_Go p e below P T (mkF m pc Ls st) :=
  own_callVB X hx hZ hown w1 w2 nf w3 w4 w5 w6 hy (backOf (W := W) (hM []) hZ w5 w6 h4.1 h4.2.1) eT E hsize hlen hstack hd hW h4.2.2.1 h4.2.2.2 k
theorem own_callUB (X : Stand p l e R s m args below meth c T locs cells slots) (hx : p.tables.exec = Jvm.exec) (hZ : Z.Warmed39 s.vm) {own C owner : String} {index : Nat} {y z : MethodName} {bytes : ByteArray} {maxL : Nat} {ret : Option FieldType} (hown : s.vm.findClass own = some m.cls)
    (w1 : (Jvm.Cond.methodLink own index y).before a0 Z = true) (ws : (Jvm.Cond.sameMethod y.cls owner y.name y.desc).before a0 Z = true) (w2 : (Jvm.Cond.declares ⟨owner, y.name, y.desc⟩).before a0 Z = true) (ho : owner ≠ "java/lang/invoke/MethodHandle" ∧ owner ≠ "java/lang/invoke/VarHandle")
    (w3 : (Jvm.Cond.selects C y z).before a0 Z = true) (w4 : (Jvm.Cond.instanceMethod z).before a0 Z = true) (w5 : (Jvm.Cond.code z bytes maxL ret).before a0 Z = true) (w6 : (Jvm.Cond.initialized z.cls).before a0 Z = true)
    {b : Addr} {argsL rest : List Value} {Q : Option Value → Heap → List Loc → Prop} {kc kn W : Nat} (hK : Back l R p e below s args z 3 W (fun A a => a = (.ref b :: argsL).toArray ∧ A.U.heap = h ∧ A.cells + kc ≤ R.cells ∧ A.slots + kn ≤ R.slots) (fun A _ v B => ∃ L, Q v B.U.heap L ∧ B.locs = A.locs ++ L ∧ B.cells = A.cells + kc ∧ B.slots = A.slots + kn)) (eT : T.heap = h) (E : Exa Z h b C) {pc : Nat} {Ls : Array Slot} {st : List Value} (hsize : Ls.size = c.maxLocals)
    (hlen : ∀ sig, parseMethodDescriptor y.desc = some sig → argsL.length = sig.parameters.length) (hstack : st = argsL.reverse ++ .ref b :: rest) (hd : decode c.code pc = .ok (.invokevirtual index, 3)) (hW : (rest.map fun v => v.category).sum ≤ W) (hc : cells + kc ≤ R.cells) (hs : slots + kn ≤ R.slots)
    (k : ∀ (v : Option Value) (T' : State) (L : List Loc), Stand p l e R s m args below meth c T' (locs ++ L) (cells + kc) (slots + kn) → Q v T'.heap L → own_Go p e below P T' (mkF m (pc + 3) Ls (v.toList ++ rest))) : own_Go p e below P T (mkF m pc Ls st) := by
  obtain ⟨cq, kq, qa, qb, qc⟩ := isOf hZ eT E
  obtain ⟨v, _, ⟨T', L', k', n'⟩, -, X', ⟨Lc, hQ, l1, y1, z1⟩, stp⟩ := X.virtualBackUp hx (x := y) (y := z) (owner := owner) hown (mvT hZ w1) (mvT hZ ws) (mvT hZ w2) ho (mvT hZ w3) (mvT hZ w4) hK qa qc (g := mkF m pc Ls st) rfl hsize (Steps.refl _) (argsL := argsL) (rest := rest) hlen hstack (by show 2 * 0 + _ ≤ _; omega) hd (fun _ _ => ⟨rfl, eT, hc, hs⟩)
  dsimp only [Pt.U, Pt.locs, Pt.cells, Pt.slots] at X' l1 y1 z1 stp hQ
  subst l1 y1 z1
  exact own_go (fun _ q => stp.trans q) (k v T' Lc X' hQ)
theorem own_callU (X : Stand p l e R s m args below meth c T locs cells slots) (hx : p.tables.exec = Jvm.exec) (hZ : Z.Warmed39 s.vm) {own C owner : String} {index : Nat} {y z : MethodName} {bytes : ByteArray} {maxL : Nat} {ret : Option FieldType} (hown : s.vm.findClass own = some m.cls)
    (w1 : (Jvm.Cond.methodLink own index y).before a0 Z = true) (ws : (Jvm.Cond.sameMethod y.cls owner y.name y.desc).before a0 Z = true) (w2 : (Jvm.Cond.declares ⟨owner, y.name, y.desc⟩).before a0 Z = true) (ho : owner ≠ "java/lang/invoke/MethodHandle" ∧ owner ≠ "java/lang/invoke/VarHandle")
    (w3 : (Jvm.Cond.selects C y z).before a0 Z = true) (w4 : (Jvm.Cond.instanceMethod z).before a0 Z = true) (w5 : (Jvm.Cond.code z bytes maxL ret).before a0 Z = true) (w6 : (Jvm.Cond.initialized z.cls).before a0 Z = true)
    {b : Addr} {argsL rest : List Value} {rm : Room} {Q : Option Value → Heap → List Loc → Prop} (hM : own_Met l Z z bytes maxL ret rm (.ref b :: argsL).toArray h Q) (eT : T.heap = h) (E : Exa Z h b C) {pc : Nat} {Ls : Array Slot} {st : List Value} (hsize : Ls.size = c.maxLocals)
    (hlen : ∀ sig, parseMethodDescriptor y.desc = some sig → argsL.length = sig.parameters.length) (hstack : st = argsL.reverse ++ .ref b :: rest) (hd : decode c.code pc = .ok (.invokevirtual index, 3)) {W : Nat} (hW : (rest.map fun v => v.category).sum ≤ W) (h4 : rm.frames + 1 ≤ R.frames ∧ W + (maxL + 11) + rm.locals ≤ R.locals ∧ cells + rm.cells ≤ R.cells ∧ slots + rm.slots ≤ R.slots)
    (k : ∀ (v : Option Value) (T' : State) (L : List Loc), Stand p l e R s m args below meth c T' (locs ++ L) (cells + rm.cells) (slots + rm.slots) → Q v T'.heap L → own_Go p e below P T' (mkF m (pc + 3) Ls (v.toList ++ rest))) : own_Go p e below P T (mkF m pc Ls st) :=
  own_callUB X hx hZ hown w1 ws w2 ho w3 w4 w5 w6 (backOf (W := W) (hM []) hZ w5 w6 h4.1 h4.2.1) eT E hsize hlen hstack hd hW h4.2.2.1 h4.2.2.2 k
theorem own_callNB (X : Stand p l e R s m args below meth c T locs cells slots) (hx : p.tables.exec = Jvm.exec) (hZ : Z.Warmed39 s.vm) {own : String} {index : Nat} {y : MethodName} {bytes : ByteArray} {maxL : Nat} (hown : s.vm.findClass own = some m.cls)
    (w1 : (Jvm.Cond.methodLink own index y).before a0 Z = true) (w2 : (Jvm.Cond.instanceMethod y).before a0 Z = true) (w4 : (Jvm.Cond.code y bytes maxL none).before a0 Z = true) (w3 : (Jvm.Cond.initialized y.cls).before a0 Z = true) (hy : y.cls ≠ "java/lang/invoke/MethodHandle" ∧ y.cls ≠ "java/lang/invoke/VarHandle") (hn : y.name = "<init>")
    {b : Addr} {argsL rest : List Value} {Q : Option Value → Heap → List Loc → Prop} {kc kn W : Nat} (hK : Back l R p e below s args y 3 W (fun A a => a = (.ref b :: argsL).toArray ∧ A.U.heap = h ∧ A.cells + kc ≤ R.cells ∧ A.slots + kn ≤ R.slots) (fun A _ v B => ∃ L, Q v B.U.heap L ∧ B.locs = A.locs ++ L ∧ B.cells = A.cells + kc ∧ B.slots = A.slots + kn)) (eT : T.heap = h) {pc : Nat} {Ls : Array Slot} {st : List Value} (hsize : Ls.size = c.maxLocals)
    (hlen : ∀ sig, parseMethodDescriptor y.desc = some sig → argsL.length = sig.parameters.length) (hstack : st = argsL.reverse ++ .ref b :: rest) (hd : decode c.code pc = .ok (.invokespecial index, 3)) (hW : (rest.map fun v => v.category).sum ≤ W) (hc : cells + kc ≤ R.cells) (hs : slots + kn ≤ R.slots)
    (k : ∀ (v : Option Value) (T' : State) (L : List Loc), Stand p l e R s m args below meth c T' (locs ++ L) (cells + kc) (slots + kn) → Q v T'.heap L → own_Go p e below P T' (mkF m (pc + 3) Ls (v.toList ++ rest))) : own_Go p e below P T (mkF m pc Ls st) := by
  obtain ⟨v, _, ⟨T', L', k', n'⟩, -, X', ⟨Lc, hQ, l1, y1, z1⟩, stp⟩ := X.specialBack hx (y := y) hn hown (mvT hZ w1) (mvT hZ w2) (mvT hZ w4) hy hK (g := mkF m pc Ls st) rfl hsize (Steps.refl _) (a := b) (argsL := argsL) (rest := rest) hlen hstack (by show 2 * 0 + _ ≤ _; omega) hd (fun _ _ => ⟨rfl, eT, hc, hs⟩)
  dsimp only [Pt.U, Pt.locs, Pt.cells, Pt.slots] at X' l1 y1 z1 stp hQ
  subst l1 y1 z1
  exact own_go (fun _ q => stp.trans q) (k v T' Lc X' hQ)
theorem own_callN (X : Stand p l e R s m args below meth c T locs cells slots) (hx : p.tables.exec = Jvm.exec) (hZ : Z.Warmed39 s.vm) {own : String} {index : Nat} {y : MethodName} {bytes : ByteArray} {maxL : Nat} (hown : s.vm.findClass own = some m.cls)
    (w1 : (Jvm.Cond.methodLink own index y).before a0 Z = true) (w2 : (Jvm.Cond.instanceMethod y).before a0 Z = true) (w4 : (Jvm.Cond.code y bytes maxL none).before a0 Z = true) (w3 : (Jvm.Cond.initialized y.cls).before a0 Z = true) (hy : y.cls ≠ "java/lang/invoke/MethodHandle" ∧ y.cls ≠ "java/lang/invoke/VarHandle") (hn : y.name = "<init>")
    {b : Addr} {argsL rest : List Value} {rm : Room} {Q : Option Value → Heap → List Loc → Prop} (hM : own_Met l Z y bytes maxL none rm (.ref b :: argsL).toArray h Q) (eT : T.heap = h) {pc : Nat} {Ls : Array Slot} {st : List Value} (hsize : Ls.size = c.maxLocals)
    (hlen : ∀ sig, parseMethodDescriptor y.desc = some sig → argsL.length = sig.parameters.length) (hstack : st = argsL.reverse ++ .ref b :: rest) (hd : decode c.code pc = .ok (.invokespecial index, 3)) {W : Nat} (hW : (rest.map fun v => v.category).sum ≤ W) (h4 : rm.frames + 1 ≤ R.frames ∧ W + (maxL + 11) + rm.locals ≤ R.locals ∧ cells + rm.cells ≤ R.cells ∧ slots + rm.slots ≤ R.slots)
    (k : ∀ (v : Option Value) (T' : State) (L : List Loc), Stand p l e R s m args below meth c T' (locs ++ L) (cells + rm.cells) (slots + rm.slots) → Q v T'.heap L → own_Go p e below P T' (mkF m (pc + 3) Ls (v.toList ++ rest))) : own_Go p e below P T (mkF m pc Ls st) :=
  own_callNB X hx hZ hown w1 w2 w4 w3 hy hn (backOf (W := W) (hM []) hZ w4 w3 h4.1 h4.2.1) eT hsize hlen hstack hd hW h4.2.2.1 h4.2.2.2 k
/-- answers w, writes nothing old, leaves the heap as it was -/
def own_Qv (w : Option Value) (h0 : Heap) (n0 : Nat) (v : Option Value) (h : Heap) (L : List Loc) : Prop := v = w ∧ Fr n0 L ∧ h = h0
/-- the law's own: it answers 1 and writes nothing old -/
def own_Q1 (n0 : Nat) (v : Option Value) (h : Heap) (L : List Loc) : Prop := v = some (.int 1) ∧ Fr n0 L
theorem own_fldI {t : Term} {C n d : String} {a : Addr} {k : Int32} (ev : t.eval args Z none [] Z = some (.ref a)) (hx : (Jvm.Cond.eq (.field t C n d) (.int k)).value args Z none Z [] = some true) : Fld Z Z.heap a C n d (.int k) := by
  obtain ⟨x, y, h1, h2, k1, k2⟩ := cmp_v (Or.inl hx)
  have h2' : y = .int k := (Option.some.inj (h2.symm.trans (Term.int_eval k)))
  subst h2'
  obtain ⟨z, rfl⟩ : ∃ z, x = .int z := k2
  have hz : z = k := by simpa [Jvm.Cond.value, h1, h2] using hx
  subst hz
  exact Fld.start ((fld_at ev).symm.trans h1)
theorem own_fldN {t : Term} {C n d : String} {a : Addr} (ev : t.eval args Z none [] Z = some (.ref a)) (hx : (Jvm.Cond.eq (.field t C n d) .null).value args Z none Z [] = some true) : Fld Z Z.heap a C n d .null :=
  Fld.start ((fld_at ev).symm.trans (null_v hx))
theorem own_fldR {t : Term} {C n d : String} {a : Addr} (ev : t.eval args Z none [] Z = some (.ref a)) (hx : (Jvm.Cond.not (.eq (.field t C n d) .null)).value args Z none Z [] = some true) : ∃ b, Fld Z Z.heap a C n d (.ref b) := by
  obtain ⟨b, hb⟩ := nn_v (not_v hx)
  exact ⟨b, Fld.start ((fld_at ev).symm.trans hb)⟩
theorem own_fldX {t : Term} {C n d K : String} {a : Addr} (ev : t.eval args Z none [] Z = some (.ref a)) (hx : (Jvm.Cond.exactly (.field t C n d) K).value args Z none Z [] = some true) : ∃ b, (Term.field t C n d).eval args Z none [] Z = some (.ref b) ∧ Fld Z Z.heap a C n d (.ref b) ∧ Exa Z Z.heap b K := by
  obtain ⟨b, hb⟩ := exa_v hx
  exact ⟨b, hb, Fld.start ((fld_at ev).symm.trans hb), Exa.start hb hx⟩
theorem own_fldE {t t' : Term} {C n d : String} {a b : Addr} (ev : t.eval args Z none [] Z = some (.ref a)) (h2 : t'.eval args Z none [] Z = some (.ref b)) (hx : (Jvm.Cond.eq (.field t C n d) t').value args Z none Z [] = some true) : Fld Z Z.heap a C n d (.ref b) := by
  obtain ⟨x, y, h1, h2', k1, k2⟩ := cmp_v (Or.inl hx)
  cases h2.symm.trans h2'
  have k3 : x.isRef = true := k2.2
  have hz : x = .ref b := gotT (eq_R h1 h2 k3 rfl) hx
  subst hz
  exact Fld.start ((fld_at ev).symm.trans h1)
end Own
section Own2
variable {p : Program} {l : Launch} {e : Env} {R : Room} {s : State} {m : MethodId} {args : Array Value} {below : List Frame} {meth : Method} {c : Code} {T T' : State} {locs : List Loc} {cells slots : Nat} {Z : State} {a0 : Array Value} {h : Heap} {P : Outcome → State → Prop} {a b : Addr} {pc : Nat} {Ls : Array Slot} {rest : List Value} {k : ClassId} {ty : FieldType} {n j : Int32} {vs : List Value} {dv v : Value}
theorem own_oldle {n0 : Nat} (O : Old Z n0 h) : n0 ≤ h.size := O.1 ▸ O.2.1
theorem own_newR (X : Stand p l e R s m args below meth c T locs cells slots) (hx : p.tables.exec = Jvm.exec) (hZ : Z.Warmed39 s.vm) {own C : String} {index : Nat} (hown : s.vm.findClass own = some m.cls) (w1 : (Jvm.Cond.classLink own index C).before a0 Z = true) (w2 : (Jvm.Cond.arrayOver (.object C)).before a0 Z = true) (eT : T.heap = h)
    (hd : decode c.code pc = .ok (.anewarray index, 3)) (hn : ¬ n < 0) (cap : Nat) (hcap : n.toNatClampNeg ≤ cap) (hb : cap * 8 ≤ 536870912) (hc : cells + 1 ≤ R.cells) (hl : slots + cap ≤ R.slots)
    (kk : ∀ (T' : State) (h' : Heap) (cA : ClassId) (b : Addr), b = h.size → Stand p l e R s m args below meth c T' locs (cells + 1) (slots + cap) → T'.heap = h' → Ext h h' → Arv Z h' b cA (.object C) n (List.replicate cap .null) .null → Ovr Z cA C → own_Go p e below P T' (mkF m (pc + 3) Ls (.ref b :: rest))) :
    own_Go p e below P T (mkF m pc Ls (.int n :: rest)) := by
  obtain ⟨T', h', cA, X', e', E, A, O, st⟩ := newR X hx hZ hown w1 w2 eT (g := mkF m pc Ls (.int n :: rest)) rfl hd rfl hn hcap hb hc hl
  exact own_go st (kk T' h' cA _ rfl X' e' E ((Arv.new A hn).pad (pad_rep [] .null cap)) O)
theorem own_newP (X : Stand p l e R s m args below meth c T locs cells slots) (hx : p.tables.exec = Jvm.exec) (hZ : Z.Warmed39 s.vm) {aty : ArrayType} (w : (Jvm.Cond.arrayClass (newarray.typeOf aty)).before a0 Z = true) (eT : T.heap = h)
    (hd : decode c.code pc = .ok (.newarray aty, 2)) (hn : ¬ n < 0) (cap : Nat) (hcap : n.toNatClampNeg ≤ cap) (hb : cap * 8 ≤ 536870912) (hc : cells + 1 ≤ R.cells) (hl : slots + cap ≤ R.slots)
    (kk : ∀ (T' : State) (h' : Heap) (cA : ClassId) (b : Addr), b = h.size → Stand p l e R s m args below meth c T' locs (cells + 1) (slots + cap) → T'.heap = h' → Ext h h' → Arv Z h' b cA (newarray.typeOf aty) n (List.replicate cap (defaultValue (newarray.typeOf aty))) (defaultValue (newarray.typeOf aty)) → own_Go p e below P T' (mkF m (pc + 2) Ls (.ref b :: rest))) :
    own_Go p e below P T (mkF m pc Ls (.int n :: rest)) := by
  obtain ⟨T', h', cA, X', e', E, A, st⟩ := newP X hx hZ w eT (g := mkF m pc Ls (.int n :: rest)) rfl hd rfl hn hcap hb hc hl
  exact own_go st (kk T' h' cA _ rfl X' e' E ((Arv.new A hn).pad (pad_rep [] _ cap)))
theorem own_newO (X : Stand p l e R s m args below meth c T locs cells slots) (hx : p.tables.exec = Jvm.exec) (hZ : Z.Warmed39 s.vm) {own C : String} {index n : Nat} {st : List Value} (hown : s.vm.findClass own = some m.cls) (w : (Jvm.Cond.classLink own index C).before a0 Z = true) (wi : (Jvm.Cond.instantiable C n).before a0 Z = true) (wz : (Jvm.Cond.initialized C).before a0 Z = true) (eT : T.heap = h)
    (hd : decode c.code pc = .ok (.new index, 3)) (hc : cells + 1 ≤ R.cells) (hl : slots + n ≤ R.slots)
    (kk : ∀ (T' : State) (h' : Heap) (b : Addr), b = h.size → Stand p l e R s m args below meth c T' locs (cells + 1) (slots + n) → T'.heap = h' → Ext h h' → Exa Z h' b C → (∀ {O nm d : String} {ty : FieldType}, Laid Z a0 C O nm d → parseFieldDescriptor d = some ty → Fld Z h' b O nm d (defaultValue ty)) → own_Go p e below P T' (mkF m (pc + 3) Ls (.ref b :: st))) :
    own_Go p e below P T (mkF m pc Ls st) := by
  obtain ⟨T', h', X', e', E, A, D, -, stp⟩ := newO X hx hZ hown w wi wz eT (g := mkF m pc Ls st) rfl hd hc hl
  exact own_go stp (kk T' h' _ rfl X' e' E A (fun {_ _ _ _} q r => D q r))
theorem own_stR (X : Stand p l e R s m args below meth c T locs cells slots) (hx : p.tables.exec = Jvm.exec) (hZ : Z.Warmed39 s.vm) {C : String} {y : Addr} (eT : T.heap = h) (A : Arv Z h b k (.object C) n vs dv) (O : Ovr Z k C) (I : Ins Z h y C true) (hj : ¬ j < 0 ∧ j < n) (i : Nat) (hi : j.toNatClampNeg = i) (hil : i < vs.length)
    (hd : decode c.code pc = .ok (.aastore, 1))
    (kk : ∀ (T' : State) (h' : Heap), Stand p l e R s m args below meth c T' (locs ++ [⟨b, j.toNatClampNeg⟩]) cells slots → T'.heap = h' → Wr h h' b j.toNatClampNeg (.ref y) → Arv Z h' b k (.object C) n (vs.set i (.ref y)) dv → own_Go p e below P T' (mkF m (pc + 1) Ls rest)) :
    own_Go p e below P T (mkF m pc Ls (.ref y :: .int j :: .ref b :: rest)) := by
  obtain ⟨cl, A1, q1, S, q3, H, G⟩ := A
  obtain ⟨T', h', X', e', W, st⟩ := stR X hx hZ eT A1 (j := j) (v := .ref y) (inb_of S hj) rfl (Sto.ofV A1 q1 O I) (g := mkF m pc Ls (.ref y :: .int j :: .ref b :: rest)) rfl rfl hd
  exact own_go st (kk T' h' X' e' W (Arv.set A1 q1 S q3 H G rfl W i hi hil))
theorem own_stC (X : Stand p l e R s m args below meth c T locs cells slots) (hx : p.tables.exec = Jvm.exec) (hZ : Z.Warmed39 s.vm) {x : Int32} (eT : T.heap = h) (A : Arv Z h b k .char n vs dv) (hj : ¬ j < 0 ∧ j < n) (i : Nat) (hi : j.toNatClampNeg = i) (hil : i < vs.length) (hd : decode c.code pc = .ok (.castore, 1))
    (kk : ∀ (T' : State) (h' : Heap), Stand p l e R s m args below meth c T' (locs ++ [⟨b, j.toNatClampNeg⟩]) cells slots → T'.heap = h' → Wr h h' b j.toNatClampNeg (.int (nar .char x)) → Arv Z h' b k .char n (vs.set i (.int (nar .char x))) dv → own_Go p e below P T' (mkF m (pc + 1) Ls rest)) :
    own_Go p e below P T (mkF m pc Ls (.int x :: .int j :: .ref b :: rest)) := by
  obtain ⟨cl, A1, q1, S, q3, H, G⟩ := A
  obtain ⟨T', h', X', e', W, st⟩ := stC X hx hZ eT A1 (j := j) (x := x) (inb_of S hj) (g := mkF m pc Ls (.int x :: .int j :: .ref b :: rest)) rfl rfl hd
  exact own_go st (kk T' h' X' e' W (Arv.set A1 q1 S q3 H G (fits_nar_char _) W i hi hil))
theorem own_stI (X : Stand p l e R s m args below meth c T locs cells slots) (hx : p.tables.exec = Jvm.exec) (hZ : Z.Warmed39 s.vm) {x : Int32} (eT : T.heap = h) (A : Arv Z h b k .int n vs dv) (hj : ¬ j < 0 ∧ j < n) (i : Nat) (hi : j.toNatClampNeg = i) (hil : i < vs.length) (hd : decode c.code pc = .ok (.iastore, 1))
    (kk : ∀ (T' : State) (h' : Heap), Stand p l e R s m args below meth c T' (locs ++ [⟨b, j.toNatClampNeg⟩]) cells slots → T'.heap = h' → Wr h h' b j.toNatClampNeg (.int x) → Arv Z h' b k .int n (vs.set i (.int x)) dv → own_Go p e below P T' (mkF m (pc + 1) Ls rest)) :
    own_Go p e below P T (mkF m pc Ls (.int x :: .int j :: .ref b :: rest)) := by
  obtain ⟨cl, A1, q1, S, q3, H, G⟩ := A
  obtain ⟨T', h', X', e', W, st⟩ := stI X hx hZ eT A1 (j := j) (x := x) (inb_of S hj) (g := mkF m pc Ls (.int x :: .int j :: .ref b :: rest)) rfl rfl hd
  exact own_go st (kk T' h' X' e' W (Arv.set A1 q1 S q3 H G rfl W i hi hil))
theorem own_stB (X : Stand p l e R s m args below meth c T locs cells slots) (hx : p.tables.exec = Jvm.exec) (hZ : Z.Warmed39 s.vm) {x : Int32} (eT : T.heap = h) (A : Arv Z h b k .byte n vs dv) (hj : ¬ j < 0 ∧ j < n) (i : Nat) (hi : j.toNatClampNeg = i) (hil : i < vs.length) (hd : decode c.code pc = .ok (.bastore, 1))
    (kk : ∀ (T' : State) (h' : Heap), Stand p l e R s m args below meth c T' (locs ++ [⟨b, j.toNatClampNeg⟩]) cells slots → T'.heap = h' → Wr h h' b j.toNatClampNeg (.int (nar .byte x)) → Arv Z h' b k .byte n (vs.set i (.int (nar .byte x))) dv → own_Go p e below P T' (mkF m (pc + 1) Ls rest)) :
    own_Go p e below P T (mkF m pc Ls (.int x :: .int j :: .ref b :: rest)) := by
  obtain ⟨cl, A1, q1, S, q3, H, G⟩ := A
  obtain ⟨T', h', X', e', W, st⟩ := stB X hx hZ eT A1 (j := j) (x := x) (inb_of S hj) (g := mkF m pc Ls (.int x :: .int j :: .ref b :: rest)) rfl rfl hd
  exact own_go st (kk T' h' X' e' W (Arv.set A1 q1 S q3 H G (fits_nar_byte _) W i hi hil))
theorem own_ldA (X : Stand p l e R s m args below meth c T locs cells slots) (hx : p.tables.exec = Jvm.exec) (hZ : Z.Warmed39 s.vm) (eT : T.heap = h) (A : Arv Z h b k ty n vs dv) (hty : ty.isReference = true) (hj : ¬ j < 0 ∧ j < n) (hv : vs.getD j.toNatClampNeg dv = v) (hd : decode c.code pc = .ok (.aaload, 1))
    (kk : own_Go p e below P T (mkF m (pc + 1) Ls (v :: rest))) : own_Go p e below P T (mkF m pc Ls (.int j :: .ref b :: rest)) := by
  obtain ⟨cl, A1, q1, S, q3, H, G⟩ := A
  exact own_go (X.aaload hx (j := j) (v := v) (by rw [eT]; exact A1.1) (State.isArrayOf_alike hZ.alike A1.2.1) hty A1.2.2 (inb_of S hj) (H.at (inb_of S hj) hv) (g := mkF m pc Ls (.int j :: .ref b :: rest)) rfl rfl hd) kk
theorem own_ldC (X : Stand p l e R s m args below meth c T locs cells slots) (hx : p.tables.exec = Jvm.exec) (hZ : Z.Warmed39 s.vm) (eT : T.heap = h) (A : Arv Z h b k .char n vs dv) (hj : ¬ j < 0 ∧ j < n) (hv : vs.getD j.toNatClampNeg dv = v) (hd : decode c.code pc = .ok (.caload, 1))
    (kk : own_Go p e below P T (mkF m (pc + 1) Ls (v :: rest))) : own_Go p e below P T (mkF m pc Ls (.int j :: .ref b :: rest)) := by
  obtain ⟨cl, A1, q1, S, q3, H, G⟩ := A
  exact own_go (X.caload hx (j := j) (v := v) (by rw [eT]; exact A1.1) (State.isArrayOf_alike hZ.alike A1.2.1) A1.2.2 (inb_of S hj) (H.at (inb_of S hj) hv) (g := mkF m pc Ls (.int j :: .ref b :: rest)) rfl rfl hd) kk
theorem own_ldB (X : Stand p l e R s m args below meth c T locs cells slots) (hx : p.tables.exec = Jvm.exec) (hZ : Z.Warmed39 s.vm) (eT : T.heap = h) (A : Arv Z h b k .byte n vs dv) (hj : ¬ j < 0 ∧ j < n) (hv : vs.getD j.toNatClampNeg dv = v) (hd : decode c.code pc = .ok (.baload, 1))
    (kk : own_Go p e below P T (mkF m (pc + 1) Ls (v :: rest))) : own_Go p e below P T (mkF m pc Ls (.int j :: .ref b :: rest)) := by
  obtain ⟨cl, A1, q1, S, q3, H, G⟩ := A
  exact own_go (X.baloadBytes hx (j := j) (v := v) (by rw [eT]; exact A1.1) (State.isArrayOf_alike hZ.alike A1.2.1) A1.2.2 (inb_of S hj) (H.at (inb_of S hj) hv) (g := mkF m pc Ls (.int j :: .ref b :: rest)) rfl rfl hd) kk
theorem own_ldI (X : Stand p l e R s m args below meth c T locs cells slots) (hx : p.tables.exec = Jvm.exec) (hZ : Z.Warmed39 s.vm) (eT : T.heap = h) (A : Arv Z h b k .int n vs dv) (hj : ¬ j < 0 ∧ j < n) (hv : vs.getD j.toNatClampNeg dv = v) (hd : decode c.code pc = .ok (.iaload, 1))
    (kk : own_Go p e below P T (mkF m (pc + 1) Ls (v :: rest))) : own_Go p e below P T (mkF m pc Ls (.int j :: .ref b :: rest)) := by
  obtain ⟨cl, A1, q1, S, q3, H, G⟩ := A
  exact own_go (X.iaload hx (j := j) (v := v) (by rw [eT]; exact A1.1) (State.isArrayOf_alike hZ.alike A1.2.1) A1.2.2 (inb_of S hj) (H.at (inb_of S hj) hv) (g := mkF m pc Ls (.int j :: .ref b :: rest)) rfl rfl hd) kk
theorem own_len (X : Stand p l e R s m args below meth c T locs cells slots) (hx : p.tables.exec = Jvm.exec) (hZ : Z.Warmed39 s.vm) (eT : T.heap = h) (A : Arv Z h b k ty n vs dv) (hd : decode c.code pc = .ok (.arraylength, 1))
    (kk : own_Go p e below P T (mkF m (pc + 1) Ls (.int n :: rest))) : own_Go p e below P T (mkF m pc Ls (.ref b :: rest)) := by
  obtain ⟨cl, A1, q1, S, q3, H, G⟩ := A
  refine own_go (X.arraylength hx (by rw [eT]; exact A1.1) (State.isArrayOf_alike hZ.alike A1.2.1) (g := mkF m pc Ls (.ref b :: rest)) rfl rfl hd) ?_
  rw [len_of S q3]
  exact kk
end Own2
/-- a datum times 2^k -/
def own_sh (k : Int) : FP.Core.Datum → FP.Core.Datum
  | .fin s c q => .fin s c (q + k)
  | .nan => .nan
  | .inf s => .inf s
/-- the datum is i / 2^k -/
def own_Sd (k i : Int) (d : FP.Core.Datum) : Prop := FP.Core.Whole i (own_sh k d)
/-- the double is i / 2^k -/
def own_Sc (k i : Int) (a : UInt64) : Prop := own_Sd k i (FP.Core.val64 a)
theorem own_sd_fin {k i : Int} {d : FP.Core.Datum} (h : own_Sd k i d) : ∃ s c q, d = .fin s c q ∧ FP.Core.Whole i (.fin s c (q + k)) := by
  cases d with
  | nan => exact h.elim
  | inf s => exact h.elim
  | fin s c q => exact ⟨s, c, q, rfl, h⟩
theorem own_sgn {s : Bool} {i : Int} {c : Nat} {q : Int} (h : FP.Core.Whole i (.fin s c q)) : FP.Core.signed s i.natAbs = i := by
  by_cases hi0 : i = 0
  · rw [hi0]; exact FP.Core.signed_zero s
  · rw [FP.Core.whole_sign h hi0]
    show (if decide (i < 0) = true then -((i.natAbs : Nat) : Int) else ((i.natAbs : Nat) : Int)) = i
    by_cases h : i < 0
    · rw [if_pos (decide_eq_true h)]; omega
    · rw [if_neg (by rw [decide_eq_false h]; decide)]; omega
theorem own_sd_round {k : Int} (k0 : 0 ≤ k) (k1 : k ≤ 1000) {i : Int} (hi : i.natAbs < 2 ^ 53) {d : FP.Core.Datum} (h : own_Sd k i d) : own_Sd k i (FP.Core.round FP.Core.b64 d) := by
  obtain ⟨s, c, q, rfl, h0⟩ := own_sd_fin h
  have hn := FP.Core.whole_natAbs h0
  have e1 : FP.Core.round FP.Core.b64 (.fin s c q) = FP.Core.round FP.Core.b64 (.fin s i.natAbs (-k)) := by
    refine FP.Core.roundRatio_congr (by decide) (by decide) ?_
    rw [show (q - -k).toNat = (q + k).toNat by omega, show (-k - q).toNat = (-(q + k)).toNat by omega, Nat.mul_one, Nat.mul_one]
    exact hn
  have b1 : FP.Core.b64.qmin = -1074 := FP.Core.qmin_b64
  have b2 : FP.Core.b64.qmax = 971 := by decide
  obtain ⟨c', q', r1, r2⟩ := FP.Core.round_exact FP.Core.good_b64 s (c := i.natAbs) (q := -k) hi (by rw [b1]; omega) (by rw [b2]; omega)
  have hf : FP.Core.fits FP.Core.b64 (.fin s c' q') := r1 ▸ FP.Core.round_fits FP.Core.good_b64 _
  obtain ⟨-, hq, -, -⟩ := hf
  rw [b1] at hq r2
  rw [e1, r1]
  show FP.Core.signed s (c' * 2 ^ (q' + k).toNat) = i * ((2 ^ (-(q' + k)).toNat : Nat) : Int)
  have r3 : c' * 2 ^ (q' - -1074).toNat = i.natAbs * 2 ^ (-k - -1074).toNat := r2
  have key : c' * 2 ^ (q' + k).toNat = i.natAbs * 2 ^ (-(q' + k)).toNat := by
    by_cases hs : 0 ≤ q' + k
    · have p := Nat.two_pow_pos (-k - -1074).toNat
      have x1 : (q' - -1074).toNat = (q' + k).toNat + (-k - -1074).toNat := by omega
      have x2 : (-(q' + k)).toNat = 0 := by omega
      rw [x1, Nat.pow_add, ← Nat.mul_assoc] at r3
      rw [x2, Nat.pow_zero, Nat.mul_one]
      exact Nat.eq_of_mul_eq_mul_right p r3
    · have p := Nat.two_pow_pos (q' - -1074).toNat
      have x1 : (-k - -1074).toNat = (-(q' + k)).toNat + (q' - -1074).toNat := by omega
      have x2 : (q' + k).toNat = 0 := by omega
      rw [x1, Nat.pow_add, ← Nat.mul_assoc] at r3
      rw [x2, Nat.pow_zero, Nat.mul_one]
      exact Nat.eq_of_mul_eq_mul_right p r3
  rw [key, FP.Core.signed_mul, own_sgn h0]
theorem own_sd_sum {k i j : Int} {x y : FP.Core.Datum} (hx : own_Sd k i x) (hy : own_Sd k j y) : own_Sd k (i + j) (FP.Core.exactSum x y) := by
  obtain ⟨s, c, q, rfl, h1⟩ := own_sd_fin hx
  obtain ⟨t, d, r, rfl, h2⟩ := own_sd_fin hy
  have h3 : FP.Core.Whole (i + j) (.fin (FP.Core.sumSign s t (FP.Core.sumUnits s c (q + k) t d (r + k) (min (q + k) (r + k)))) (FP.Core.sumUnits s c (q + k) t d (r + k) (min (q + k) (r + k))).natAbs (min (q + k) (r + k))) := FP.Core.whole_sum h1 h2
  have e : min (q + k) (r + k) = min q r + k := by omega
  have u : FP.Core.sumUnits s c (q + k) t d (r + k) (min q r + k) = FP.Core.sumUnits s c q t d r (min q r) := by
    show FP.Core.signed s (c * 2 ^ ((q + k) - (min q r + k)).toNat) + FP.Core.signed t (d * 2 ^ ((r + k) - (min q r + k)).toNat) = FP.Core.signed s (c * 2 ^ (q - min q r).toNat) + FP.Core.signed t (d * 2 ^ (r - min q r).toNat)
    rw [show (q + k) - (min q r + k) = q - min q r by omega, show (r + k) - (min q r + k) = r - min q r by omega]
  rw [e, u] at h3
  exact h3
theorem own_sd_neg {k i : Int} {x : FP.Core.Datum} (hx : own_Sd k i x) : own_Sd k (-i) (FP.Core.negate x) := by
  obtain ⟨s, c, q, rfl, h1⟩ := own_sd_fin hx
  exact FP.Core.whole_negate h1
theorem own_sd_mul {k l i j : Int} {x y : FP.Core.Datum} (hx : own_Sd k i x) (hy : own_Sd l j y) : own_Sd (k + l) (i * j) (FP.Core.exactProduct x y) := by
  obtain ⟨s, c, q, rfl, h1⟩ := own_sd_fin hx
  obtain ⟨t, d, r, rfl, h2⟩ := own_sd_fin hy
  have h3 : FP.Core.Whole (i * j) (.fin (s != t) (c * d) (q + k + (r + l))) := FP.Core.whole_product h1 h2
  rw [show q + k + (r + l) = q + r + (k + l) by omega] at h3
  exact h3
theorem own_sd_order {k i j : Int} {x y : FP.Core.Datum} (hx : own_Sd k i x) (hy : own_Sd k j y) : FP.Core.order x y = some (compare i j) := by
  obtain ⟨s, c, q, rfl, h1⟩ := own_sd_fin hx
  obtain ⟨t, d, r, rfl, h2⟩ := own_sd_fin hy
  have h3 : some (compare (FP.Core.signed s (c * 2 ^ ((q + k) - min (q + k) (r + k)).toNat)) (FP.Core.signed t (d * 2 ^ ((r + k) - min (q + k) (r + k)).toNat))) = some (compare i j) := FP.Core.order_whole h1 h2
  rw [show (q + k) - min (q + k) (r + k) = q - min q r by omega, show (r + k) - min (q + k) (r + k) = r - min q r by omega] at h3
  exact h3
theorem own_sc0 {i : Int} {a : UInt64} (h : FP.Core.DInt i a) : own_Sc 0 i a := by
  have h0 : FP.Core.Whole i (FP.Core.val64 a) := h
  show FP.Core.Whole i (own_sh 0 (FP.Core.val64 a))
  cases e : FP.Core.val64 a with
  | nan => rw [e] at h0; exact h0.elim
  | inf s => rw [e] at h0; exact h0.elim
  | fin s c q => rw [e] at h0; show FP.Core.Whole i (.fin s c (q + 0)); rw [Int.add_zero]; exact h0
theorem own_i2d (x : Int32) : own_Sc 0 x.toInt (FP.i2d x) := own_sc0 (FP.Core.i2d_int x)
theorem own_l2d {x : Int64} (h : x.toInt.natAbs ≤ 2 ^ 53) : own_Sc 0 x.toInt (FP.l2d x) := own_sc0 (FP.Core.l2d_int h)
theorem own_dadd {k i j : Int} {a b : UInt64} (ha : own_Sc k i a) (hb : own_Sc k j b) (k0 : 0 ≤ k) (k1 : k ≤ 1000) (h : (i + j).natAbs < 2 ^ 53) : own_Sc k (i + j) (FP.dadd a b) := by
  show own_Sd k (i + j) (FP.Core.val64 (FP.dadd a b))
  rw [FP.Core.val64_dadd]; exact own_sd_round k0 k1 h (own_sd_sum ha hb)
theorem own_dsub {k i j : Int} {a b : UInt64} (ha : own_Sc k i a) (hb : own_Sc k j b) (k0 : 0 ≤ k) (k1 : k ≤ 1000) (h : (i - j).natAbs < 2 ^ 53) : own_Sc k (i - j) (FP.dsub a b) := by
  show own_Sd k (i - j) (FP.Core.val64 (FP.dsub a b))
  rw [FP.Core.val64_dsub]; exact own_sd_round k0 k1 h (own_sd_sum ha (own_sd_neg hb))
theorem own_dmul {k l i j : Int} {a b : UInt64} (ha : own_Sc k i a) (hb : own_Sc l j b) (k0 : 0 ≤ k + l) (k1 : k + l ≤ 1000) (h : (i * j).natAbs < 2 ^ 53) : own_Sc (k + l) (i * j) (FP.dmul a b) := by
  show own_Sd (k + l) (i * j) (FP.Core.val64 (FP.dmul a b))
  rw [FP.Core.val64_dmul]; exact own_sd_round k0 k1 h (own_sd_mul ha hb)
/-- by a power of two -/
theorem own_ddiv {k m i : Int} {a K : UInt64} (ha : own_Sc k i a) (hK : FP.Core.val64 K = .fin false (2 ^ 52) (m - 52)) (k0 : 0 ≤ k + m) (k1 : k + m ≤ 1000) (hi : i.natAbs < 2 ^ 53) : own_Sc (k + m) i (FP.ddiv a K) := by
  show own_Sd (k + m) i (FP.Core.val64 (FP.ddiv a K))
  rw [FP.Core.val64_ddiv, hK]
  obtain ⟨s, c, q, e, h0⟩ := own_sd_fin ha
  rw [e]
  have e2 : FP.Core.quotient FP.Core.b64 (.fin s c q) (.fin false (2 ^ 52) (m - 52)) = FP.Core.round FP.Core.b64 (.fin s c (q - m)) := by
    show (if (2 ^ 52 : Nat) = 0 then (if c = 0 then FP.Core.Datum.nan else .inf (s != false)) else FP.Core.roundRatio FP.Core.b64 (s != false) c (2 ^ 52) (q - (m - 52))) = FP.Core.roundRatio FP.Core.b64 s c 1 (q - m)
    rw [if_neg (by decide), show (s != false) = s by cases s <;> rfl]
    refine FP.Core.roundRatio_congr (by decide) (by decide) ?_
    rw [show (q - (m - 52) - (q - m)).toNat = 52 by omega, show (q - m - (q - (m - 52))).toNat = 0 by omega, Nat.mul_one, Nat.pow_zero, Nat.mul_one]
  rw [e2]
  refine own_sd_round k0 k1 hi ?_
  show FP.Core.Whole i (.fin s c (q - m + (k + m)))
  rw [show q - m + (k + m) = q + k by omega]; exact h0
/-- rescaled -/
theorem own_up {k i : Int} {a : UInt64} (h : own_Sc k i a) (j : Nat) : own_Sc (k + j) (i * ((2 ^ j : Nat) : Int)) a := by
  obtain ⟨s, c, q, e, h0⟩ := own_sd_fin h
  show own_Sd (k + j) _ (FP.Core.val64 a)
  rw [e]
  show FP.Core.signed s (c * 2 ^ (q + (k + j)).toNat) = i * ((2 ^ j : Nat) : Int) * ((2 ^ (-(q + (k + j))).toNat : Nat) : Int)
  have h1 : FP.Core.signed s (c * 2 ^ (q + k).toNat) = i * ((2 ^ (-(q + k)).toNat : Nat) : Int) := h0
  have p2 : ((2 ^ (-(q + k)).toNat : Nat) : Int) ≠ 0 := by
    have := Nat.two_pow_pos (-(q + k)).toNat; omega
  refine Int.eq_of_mul_eq_mul_right p2 ?_
  have hx : (q + (k + j)).toNat + (-(q + k)).toNat = (q + k).toNat + (j + (-(q + (k + j))).toNat) := by omega
  rw [← FP.Core.signed_mul, Nat.mul_assoc, ← Nat.pow_add, hx, Nat.pow_add 2 (q + k).toNat, ← Nat.mul_assoc, FP.Core.signed_mul, h1, Nat.pow_add, Int.natCast_mul]
  ac_rfl
theorem own_scfin {k i : Int} {a : UInt64} (h : own_Sc k i a) : Jvm.Free.Fl.Fin64 a := by
  obtain ⟨s, c, q, e, -⟩ := own_sd_fin h
  exact Jvm.Free.Fl.fin64_core.mpr ⟨s, c, q, e⟩
theorem own_scnn {k i : Int} {a b : UInt64} (e : b = a) (h : own_Sc k i a) : Jvm.Free.Fl.NoNaN64 b := e ▸ (own_scfin h).noNaN
theorem own_dcmp {k i j : Int} {a b : UInt64} (ha : own_Sc k i a) (hb : own_Sc k j b) : FP.dcmp a b = some (compare i j) := own_sd_order ha hb
theorem own_cmpLt {k i j : Int} {a b : UInt64} (ha : own_Sc k i a) (hb : own_Sc k j b) (h : i < j) (o : CmpOp) : cmpValue (FP.dcmp a b) o = -1 := by
  rw [own_dcmp ha hb, show compare i j = Ordering.lt from Int.compare_eq_lt.mpr h]; rfl
theorem own_cmpEq {k i j : Int} {a b : UInt64} (ha : own_Sc k i a) (hb : own_Sc k j b) (h : i = j) (o : CmpOp) : cmpValue (FP.dcmp a b) o = 0 := by
  rw [own_dcmp ha hb, show compare i j = Ordering.eq from Int.compare_eq_eq.mpr h]; rfl
theorem own_cmpGt {k i j : Int} {a b : UInt64} (ha : own_Sc k i a) (hb : own_Sc k j b) (h : j < i) (o : CmpOp) : cmpValue (FP.dcmp a b) o = 1 := by
  rw [own_dcmp ha hb, show compare i j = Ordering.gt from Int.compare_eq_gt.mpr h]; rfl
/-- not less: the answer is no negative int -/
theorem own_cmpGe {k i j : Int} {a b : UInt64} (ha : own_Sc k i a) (hb : own_Sc k j b) (h : j ≤ i) (o : CmpOp) : ¬ cmpValue (FP.dcmp a b) o < 0 := by
  rcases Int.lt_or_eq_of_le h with h | h
  · rw [own_cmpGt ha hb h]; decide
  · rw [own_cmpEq ha hb h.symm]; decide
theorem own_cmpLe {k i j : Int} {a b : UInt64} (ha : own_Sc k i a) (hb : own_Sc k j b) (h : i ≤ j) (o : CmpOp) : ¬ 0 < cmpValue (FP.dcmp a b) o := by
  rcases Int.lt_or_eq_of_le h with h | h
  · rw [own_cmpLt ha hb h]; decide
  · rw [own_cmpEq ha hb h]; decide
theorem own_d0 (k : Nat) : own_Sc k 0 FP.dconst0 := by
  show FP.Core.Whole 0 (own_sh k (FP.Core.val64 FP.Core.dconst0))
  rw [FP.Core.val64_dconst0]
  show FP.Core.signed false (0 * _) = 0 * _
  rw [Nat.zero_mul, Int.zero_mul]; rfl
theorem own_d1 : own_Sc 0 1 FP.dconst1 := by
  show FP.Core.Whole 1 (own_sh 0 (FP.Core.val64 FP.Core.dconst1))
  rw [FP.Core.val64_dconst1]
  show FP.Core.signed false (2 ^ 52 * 2 ^ (-52 + 0 : Int).toNat) = 1 * ((2 ^ (-(-52 + 0 : Int)).toNat : Nat) : Int)
  decide +kernel
theorem own_eqSc {k k' i i' : Int} {a : UInt64} (h : own_Sc k i a) (ek : k = k') (ei : i = i') : own_Sc k' i' a := by subst ek ei; exact h
/-- a quotient, by the whole numbers alone -/
theorem own_quo {k i j : Int} {a b : UInt64} (ha : own_Sc k i a) (hb : own_Sc k j b) (hi : 0 < i) (hj : 0 < j) : FP.Core.val64 (FP.ddiv a b) = FP.Core.roundRatio FP.Core.b64 false i.natAbs j.natAbs 0 := by
  rw [FP.Core.val64_ddiv]
  obtain ⟨s, c, q, e, h1⟩ := own_sd_fin ha
  obtain ⟨t, d, r, e', h2⟩ := own_sd_fin hb
  rw [e, e']
  have s1 := FP.Core.whole_sign h1 (by omega)
  have s2 := FP.Core.whole_sign h2 (by omega)
  rw [decide_eq_false (by omega)] at s1 s2
  subst s1 s2
  have hd : d ≠ 0 := fun q => by have := (FP.Core.whole_zero h2).mp q; omega
  show (if d = 0 then (if c = 0 then FP.Core.Datum.nan else .inf (false != false)) else FP.Core.roundRatio FP.Core.b64 (false != false) c d (q - r)) = _
  rw [if_neg hd]
  refine FP.Core.roundRatio_congr (by omega) (by omega) ?_
  have n1 := FP.Core.whole_natAbs h1
  have n2 := FP.Core.whole_natAbs h2
  have p : 0 < 2 ^ (q + k).toNat * 2 ^ (-(r + k)).toNat := Nat.mul_pos (Nat.two_pow_pos _) (Nat.two_pow_pos _)
  have n3 : c * j.natAbs * (2 ^ (q + k).toNat * 2 ^ (-(r + k)).toNat) = i.natAbs * d * (2 ^ (-(q + k)).toNat * 2 ^ (r + k).toNat) := by
    calc c * j.natAbs * (2 ^ (q + k).toNat * 2 ^ (-(r + k)).toNat) = (c * 2 ^ (q + k).toNat) * (j.natAbs * 2 ^ (-(r + k)).toNat) := by ac_rfl
      _ = (i.natAbs * 2 ^ (-(q + k)).toNat) * (d * 2 ^ (r + k).toNat) := by rw [n1, ← n2]
      _ = i.natAbs * d * (2 ^ (-(q + k)).toNat * 2 ^ (r + k).toNat) := by ac_rfl
  refine Nat.eq_of_mul_eq_mul_right p ?_
  have hx : (-(q + k)).toNat + (r + k).toNat + (q - r - 0).toNat = (q + k).toNat + (-(r + k)).toNat + (0 - (q - r)).toNat := by omega
  calc c * j.natAbs * 2 ^ (q - r - 0).toNat * (2 ^ (q + k).toNat * 2 ^ (-(r + k)).toNat)
      = c * j.natAbs * (2 ^ (q + k).toNat * 2 ^ (-(r + k)).toNat) * 2 ^ (q - r - 0).toNat := by ac_rfl
    _ = i.natAbs * d * 2 ^ ((-(q + k)).toNat + (r + k).toNat + (q - r - 0).toNat) := by rw [n3, Nat.pow_add, Nat.pow_add]; ac_rfl
    _ = i.natAbs * d * 2 ^ (0 - (q - r)).toNat * (2 ^ (q + k).toNat * 2 ^ (-(r + k)).toNat) := by rw [hx, Nat.pow_add, Nat.pow_add]; ac_rfl
theorem og_ldcD (X : Stand p l e R s m args below meth c T locs cells slots) (hx : p.tables.exec = Jvm.exec) (hZ : Z.Warmed39 s.vm) {own : String} {index : Nat} {v : UInt64} (hown : s.vm.findClass own = some m.cls) (w : (Jvm.Cond.constantDouble own index v).before a0 Z = true) (hd : decode c.code pc = .ok (.ldc2_w index, 3)) (kk : own_Go p e below P T (mkF m (pc + 3) Ls (.double v :: st))) : own_Go p e below P T (mkF m pc Ls st) :=
  own_go (fun t q => X.ldc2DoubleC hx hown (mvT hZ w) (g := mkF m pc Ls st) rfl hd t q) kk
theorem own_retD (X : Stand p l e R s m args below meth c T locs cells slots) (hx : p.tables.exec = Jvm.exec) {pc : Nat} {Ls : Array Slot} {z : UInt64} {rest : List Value} (hret : meth.sig.returnType = some .double) (hlk : meth.locks = false) (hd : decode c.code pc = .ok (.dreturn, 1))
    {Q : Option Value → Heap → List Loc → Prop} {kc kn : Nat} (hc : cells ≤ kc) (hs : slots ≤ kn) (hQ : Q (some (.double z)) T.heap locs) : own_Go p e below (own_End s Q kc kn) T (mkF m pc Ls (.double z :: rest)) :=
  own_ret X hx hret hlk hd rfl (Or.inr (Or.inr (Or.inl ⟨rfl, rfl, z, rfl⟩))) hc hs hQ
/-- by a double that is a power of two -/
theorem own_ddivP {a i : Int} {k l : Nat} {x y : UInt64} (hx : own_Sc a i x) (hy : own_Sc l ((2 ^ k : Nat) : Int) y) (k0 : 0 ≤ a + k) (k1 : a + k ≤ 1000) (hi : (i * ((2 ^ l : Nat) : Int)).natAbs < 2 ^ 53) : own_Sc (a + k) (i * ((2 ^ l : Nat) : Int)) (FP.ddiv x y) := by
  show own_Sd (a + k) _ (FP.Core.val64 (FP.ddiv x y))
  rw [FP.Core.val64_ddiv]
  obtain ⟨s, c, q, e, h1⟩ := own_sd_fin hx
  obtain ⟨t, d, r, e', h2⟩ := own_sd_fin hy
  rw [e, e']
  have pk := Nat.two_pow_pos k
  have s2 := FP.Core.whole_sign h2 (by omega)
  rw [decide_eq_false (by omega)] at s2
  subst s2
  have hd : d ≠ 0 := fun q => by have := (FP.Core.whole_zero h2).mp q; omega
  have n1 := FP.Core.whole_natAbs h1
  have n2 := FP.Core.whole_natAbs h2
  rw [Int.natAbs_natCast] at n2
  have e2 : FP.Core.quotient FP.Core.b64 (.fin s c q) (.fin false d r) = FP.Core.round FP.Core.b64 (.fin s (i.natAbs * 2 ^ l) (-(a + k))) := by
    show (if d = 0 then (if c = 0 then FP.Core.Datum.nan else .inf (s != false)) else FP.Core.roundRatio FP.Core.b64 (s != false) c d (q - r)) = FP.Core.roundRatio FP.Core.b64 s (i.natAbs * 2 ^ l) 1 (-(a + k))
    rw [if_neg hd, show (s != false) = s by cases s <;> rfl]
    refine FP.Core.roundRatio_congr (Nat.pos_of_ne_zero hd) (by decide) ?_
    rw [Nat.mul_one]
    have p : 0 < 2 ^ (q + a).toNat * 2 ^ (r + l).toNat := Nat.mul_pos (Nat.two_pow_pos _) (Nat.two_pow_pos _)
    refine Nat.eq_of_mul_eq_mul_right p ?_
    have hh : (-(q + a)).toNat + (q - r - -(a + k)).toNat + (r + l).toNat = l + k + (-(r + l)).toNat + (-(a + k) - (q - r)).toNat + (q + a).toNat := by omega
    calc c * 2 ^ (q - r - -(a + k)).toNat * (2 ^ (q + a).toNat * 2 ^ (r + l).toNat)
        = (c * 2 ^ (q + a).toNat) * 2 ^ (q - r - -(a + k)).toNat * 2 ^ (r + l).toNat := by ac_rfl
      _ = i.natAbs * 2 ^ ((-(q + a)).toNat + (q - r - -(a + k)).toNat + (r + l).toNat) := by rw [n1, Nat.pow_add, Nat.pow_add]; ac_rfl
      _ = i.natAbs * 2 ^ l * (2 ^ k * 2 ^ (-(r + l)).toNat) * 2 ^ (-(a + k) - (q - r)).toNat * 2 ^ (q + a).toNat := by rw [hh, Nat.pow_add, Nat.pow_add, Nat.pow_add, Nat.pow_add]; ac_rfl
      _ = i.natAbs * 2 ^ l * d * 2 ^ (-(a + k) - (q - r)).toNat * (2 ^ (q + a).toNat * 2 ^ (r + l).toNat) := by rw [← n2]; ac_rfl
  rw [e2]
  refine own_sd_round k0 k1 hi ?_
  show FP.Core.signed s (i.natAbs * 2 ^ l * 2 ^ (-(a + k) + (a + k)).toNat) = i * ((2 ^ l : Nat) : Int) * ((2 ^ (-(-(a + k) + (a + k))).toNat : Nat) : Int)
  rw [show (-(a + k) + (a + k)).toNat = 0 by omega, show (-(-(a + k) + (a + k))).toNat = 0 by omega, Nat.pow_zero, Nat.mul_one, FP.Core.signed_mul, own_sgn h1, Int.natCast_one, Int.mul_one]
theorem own_mulb {a b A B : Int} (ha : 0 ≤ a ∧ a ≤ A) (hb : 0 ≤ b ∧ b ≤ B) : 0 ≤ a * b ∧ a * b ≤ A * B :=
  ⟨Int.mul_nonneg ha.1 hb.1, Int.mul_le_mul ha.2 hb.2 hb.1 (Int.le_trans ha.1 ha.2)⟩
/-- two quotients of the same whole numbers are one double -/
theorem own_quoEq {k i j : Int} {a b : UInt64} {N D : Int64} (ha : own_Sc k i a) (hb : own_Sc k j b) (hN : N.toInt = i) (hD : D.toInt = j) (hi : 0 < i) (hj : 0 < j) (i1 : i < 9007199254740992) (j1 : j < 9007199254740992) : FP.ddiv a b = FP.ddiv (FP.l2d N) (FP.l2d D) := by
  have q1 := own_quo ha hb hi hj
  have q2 := own_quo (own_l2d (x := N) (by rw [hN]; omega)) (own_l2d (x := D) (by rw [hD]; omega)) (by omega) (by omega)
  rw [hN, hD] at q2
  refine FP.Core.val64_inj ?_ (q1.trans q2.symm)
  rw [q1]
  intro z
  have f := FP.Core.round_nan (f := FP.Core.b64) (d := .fin false i.natAbs 0)
  have hf : ∀ (s : Bool) (A B : Nat) (e : Int), FP.Core.roundRatio FP.Core.b64 s A B e ≠ .nan := by
    intro s A B e
    show (if A = 0 then FP.Core.Datum.fin s 0 FP.Core.b64.qmin else FP.Core.settle FP.Core.b64 s (FP.Core.nearest (FP.Core.unitsNum A e (FP.Core.quantum FP.Core.b64 A B e)) (FP.Core.unitsDen B e (FP.Core.quantum FP.Core.b64 A B e))) (FP.Core.quantum FP.Core.b64 A B e)) ≠ .nan
    by_cases h : A = 0
    · rw [if_pos h]; exact nofun
    · rw [if_neg h]
      generalize FP.Core.nearest _ _ = c
      generalize FP.Core.quantum _ _ _ _ = q
      show (if c < 2 ^ FP.Core.b64.p then (if q ≤ FP.Core.b64.qmax then FP.Core.Datum.fin s c q else .inf s) else (if q + 1 ≤ FP.Core.b64.qmax then FP.Core.Datum.fin s FP.Core.b64.tails (q + 1) else .inf s)) ≠ .nan
      by_cases h1 : c < 2 ^ FP.Core.b64.p
      · rw [if_pos h1]; by_cases h2 : q ≤ FP.Core.b64.qmax
        · rw [if_pos h2]; exact nofun
        · rw [if_neg h2]; exact nofun
      · rw [if_neg h1]; by_cases h2 : q + 1 ≤ FP.Core.b64.qmax
        · rw [if_pos h2]; exact nofun
        · rw [if_neg h2]; exact nofun
  exact hf _ _ _ _ z
theorem own_quoMag {N D : Int64} (h : D ≠ 0) : Jvm.Free.Fl.Mag64 1089 (FP.ddiv (FP.l2d N) (FP.l2d D)) := (Jvm.RoadKit.ddiv_mag (K := 1088) (L := 1023) (Jvm.Free.Fl.l2d_mag N) (Jvm.RoadKit.l2d_big h) (by decide) (by decide)).mono (by decide)
theorem own_mulJ {x y : Int64} {A B : Int} (hx : 0 ≤ x.toInt ∧ x.toInt ≤ A) (hy : 0 ≤ y.toInt ∧ y.toInt ≤ B) (h : A * B < 2 ^ 63) : (x * y).toInt = x.toInt * y.toInt ∧ 0 ≤ (x * y).toInt ∧ (x * y).toInt ≤ A * B := by
  have m := own_mulb hx hy
  have e := Jvm.Kit.i64_mul (x := x) (y := y) (by omega) (by omega)
  rw [e]; exact ⟨rfl, m⟩
theorem own_addJ {x y : Int64} {A B : Int} (hx : 0 ≤ x.toInt ∧ x.toInt ≤ A) (hy : 0 ≤ y.toInt ∧ y.toInt ≤ B) (h : A + B < 2 ^ 63) : (x + y).toInt = x.toInt + y.toInt ∧ 0 ≤ (x + y).toInt ∧ (x + y).toInt ≤ A + B := by
  have e := Jvm.Kit.i64_add (x := x) (y := y) (by omega) (by omega)
  rw [e]; exact ⟨rfl, by omega, by omega⟩
theorem own_sh16 : ∀ n : Fin 16, ((1 : Int32) <<< (Int32.ofNat n.val &&& 31)).toInt = ((2 ^ n.val : Nat) : Int) ∧ ((4 : Int64) <<< (Int32.ofNat n.val &&& 0x3f).toInt64).toInt = 4 * ((2 ^ n.val : Nat) : Int) ∧ ((1 : Int64) <<< (Int32.ofNat n.val &&& 0x3f).toInt64).toInt = ((2 ^ n.val : Nat) : Int) := by decide +kernel
theorem own_shift {s : Int32} (h : 0 ≤ s.toInt ∧ s.toInt ≤ 15) : ∃ k : Nat, k ≤ 15 ∧ ((1 : Int32) <<< (s &&& 31)).toInt = ((2 ^ k : Nat) : Int) ∧ ((4 : Int64) <<< (s &&& 0x3f).toInt64).toInt = 4 * ((2 ^ k : Nat) : Int) ∧ ((1 : Int64) <<< (s &&& 0x3f).toInt64).toInt = ((2 ^ k : Nat) : Int) := by
  obtain ⟨n, rfl⟩ : ∃ n : Fin 16, s = Int32.ofNat n.val := by
    refine ⟨⟨s.toInt.toNat, by omega⟩, Int32.toInt_inj.mp ?_⟩
    rw [Int32.toInt_ofNat_small (by show s.toInt.toNat < 2 ^ 31; omega)]
    show s.toInt = (s.toInt.toNat : Int); omega
  exact ⟨n.val, by omega, own_sh16 n⟩
theorem own_pow15 {k : Nat} (h : k ≤ 15) : 0 ≤ ((2 ^ k : Nat) : Int) ∧ ((2 ^ k : Nat) : Int) ≤ 32768 := by
  have q := Nat.pow_le_pow_right (show 0 < 2 by decide) h
  generalize 2 ^ k = P at q ⊢
  omega
theorem own_pow1 (k : Nat) : 0 < ((2 ^ k : Nat) : Int) := by
  have q := Nat.two_pow_pos k
  generalize 2 ^ k = P at q ⊢
  omega
theorem own_and1048575 (x : Int32) : 0 ≤ (x &&& 1048575).toInt ∧ (x &&& 1048575).toInt ≤ 1048575 := by
  have h : (x &&& 1048575).toInt = x.toInt % 2 ^ 20 := Jvm.Kit.i32_mask x 1048575 (k := 20) (by decide) (by decide)
  rw [h]; omega
theorem own_rem5 (x : Int32) : 0 ≤ ((x &&& 2147483647) % 5).toInt ∧ ((x &&& 2147483647) % 5).toInt ≤ 4 := by
  have h : (x &&& 2147483647).toInt = x.toInt % 2 ^ 31 := Jvm.Kit.i32_mask x 2147483647 (k := 31) (by decide) (by decide)
  have q : ((x &&& 2147483647) % 5).toInt = (x &&& 2147483647).toInt % (5 : Int32).toInt := Jvm.Kit.i32_rem_nonneg (by omega)
  have e : (5 : Int32).toInt = 5 := rfl
  rw [q, e]; omega
theorem own_long {a b n : Int32} (ha : 0 ≤ a.toInt ∧ a.toInt ≤ 1048575) (hb : 0 ≤ b.toInt ∧ b.toInt ≤ 1048575) : ((a.toInt64 + 4 + b.toInt64) * n.toInt64).toInt = (a.toInt + 4 + b.toInt) * n.toInt ∧ ((a.toInt + 4 + b.toInt) * n.toInt).natAbs < 2 ^ 53 := by
  have hn : n.toInt.natAbs ≤ 2147483648 := FP.Core.int32_abs n
  have hm : ((a.toInt + 4 + b.toInt) * n.toInt).natAbs ≤ 2097154 * 2147483648 := by
    rw [Int.natAbs_mul]; exact Nat.mul_le_mul (by omega) hn
  have e4 : (4 : Int64).toInt = 4 := rfl
  have e1 : (a.toInt64 + 4).toInt = a.toInt + 4 := by
    rw [Jvm.Kit.i64_add (by rw [Int32.toInt_toInt64, e4]; omega) (by rw [Int32.toInt_toInt64, e4]; omega), Int32.toInt_toInt64, e4]
  have e2 : (a.toInt64 + 4 + b.toInt64).toInt = a.toInt + 4 + b.toInt := by
    rw [Jvm.Kit.i64_add (by rw [e1, Int32.toInt_toInt64]; omega) (by rw [e1, Int32.toInt_toInt64]; omega), e1, Int32.toInt_toInt64]
  refine ⟨?_, by omega⟩
  rw [Jvm.Kit.i64_mul (by rw [e2, Int32.toInt_toInt64]; omega) (by rw [e2, Int32.toInt_toInt64]; omega), e2, Int32.toInt_toInt64]
def own_Qi (Z : State) (a1 : Addr) (x1 x2 x3 : UInt64) (h0 : Heap) (n0 : Nat) (v : Option Value) (h : Heap) (L : List Loc) : Prop := v = none ∧ Fr n0 L ∧ Keep h0 h [a1] ∧ Fld Z h a1 "com/example/hypatia/hypatia/engine/Bm25Plus" "k1" "D" (.double x1) ∧ Fld Z h a1 "com/example/hypatia/hypatia/engine/Bm25Plus" "b" "D" (.double x2) ∧ Fld Z h a1 "com/example/hypatia/hypatia/engine/Bm25Plus" "delta" "D" (.double x3)
theorem d1_0 : decode prog_1_method_1_code 0 = .ok (.aload_n 0, 1) := by decide +kernel
theorem d1_1 : decode prog_1_method_1_code 1 = .ok (.invokespecial 1, 3) := by decide +kernel
theorem d1_4 : decode prog_1_method_1_code 4 = .ok (.dload_n 1, 1) := by decide +kernel
theorem d1_5 : decode prog_1_method_1_code 5 = .ok (.dconst 0, 1) := by decide +kernel
theorem d1_6 : decode prog_1_method_1_code 6 = .ok (.dcmp .l, 1) := by decide +kernel
theorem d1_7 : decode prog_1_method_1_code 7 = .ok (.ifCond .lt 11, 3) := by decide +kernel
theorem d1_10 : decode prog_1_method_1_code 10 = .ok (.dload_n 1, 1) := by decide +kernel
theorem d1_11 : decode prog_1_method_1_code 11 = .ok (.ldc2_w 9, 3) := by decide +kernel
theorem d1_14 : decode prog_1_method_1_code 14 = .ok (.dcmp .g, 1) := by decide +kernel
theorem d1_15 : decode prog_1_method_1_code 15 = .ok (.ifCond .lt 17, 3) := by decide +kernel
theorem d1_32 : decode prog_1_method_1_code 32 = .ok (.dload_n 3, 1) := by decide +kernel
theorem d1_33 : decode prog_1_method_1_code 33 = .ok (.dconst 0, 1) := by decide +kernel
theorem d1_34 : decode prog_1_method_1_code 34 = .ok (.dcmp .l, 1) := by decide +kernel
theorem d1_35 : decode prog_1_method_1_code 35 = .ok (.ifCond .lt 9, 3) := by decide +kernel
theorem d1_38 : decode prog_1_method_1_code 38 = .ok (.dload_n 3, 1) := by decide +kernel
theorem d1_39 : decode prog_1_method_1_code 39 = .ok (.dconst 1, 1) := by decide +kernel
theorem d1_40 : decode prog_1_method_1_code 40 = .ok (.dcmp .g, 1) := by decide +kernel
theorem d1_41 : decode prog_1_method_1_code 41 = .ok (.ifCond .le 17, 3) := by decide +kernel
theorem d1_58 : decode prog_1_method_1_code 58 = .ok (.dload 5, 2) := by decide +kernel
theorem d1_60 : decode prog_1_method_1_code 60 = .ok (.dconst 0, 1) := by decide +kernel
theorem d1_61 : decode prog_1_method_1_code 61 = .ok (.dcmp .l, 1) := by decide +kernel
theorem d1_62 : decode prog_1_method_1_code 62 = .ok (.ifCond .lt 12, 3) := by decide +kernel
theorem d1_65 : decode prog_1_method_1_code 65 = .ok (.dload 5, 2) := by decide +kernel
theorem d1_67 : decode prog_1_method_1_code 67 = .ok (.ldc2_w 9, 3) := by decide +kernel
theorem d1_70 : decode prog_1_method_1_code 70 = .ok (.dcmp .g, 1) := by decide +kernel
theorem d1_71 : decode prog_1_method_1_code 71 = .ok (.ifCond .lt 18, 3) := by decide +kernel
theorem d1_89 : decode prog_1_method_1_code 89 = .ok (.aload_n 0, 1) := by decide +kernel
theorem d1_90 : decode prog_1_method_1_code 90 = .ok (.dload_n 1, 1) := by decide +kernel
theorem d1_91 : decode prog_1_method_1_code 91 = .ok (.putfield 22, 3) := by decide +kernel
theorem d1_94 : decode prog_1_method_1_code 94 = .ok (.aload_n 0, 1) := by decide +kernel
theorem d1_95 : decode prog_1_method_1_code 95 = .ok (.dload_n 3, 1) := by decide +kernel
theorem d1_96 : decode prog_1_method_1_code 96 = .ok (.putfield 28, 3) := by decide +kernel
theorem d1_99 : decode prog_1_method_1_code 99 = .ok (.aload_n 0, 1) := by decide +kernel
theorem d1_100 : decode prog_1_method_1_code 100 = .ok (.dload 5, 2) := by decide +kernel
theorem d1_102 : decode prog_1_method_1_code 102 = .ok (.putfield 31, 3) := by decide +kernel
theorem d1_105 : decode prog_1_method_1_code 105 = .ok (.return_, 1) := by decide +kernel
def own_r_own_init : Room := { frames := 1, cells := 0, slots := 0, locals := 12 }
theorem own_init (l : Launch) (Z : State) (a0 : Array Value) (hw : own_W a0 Z) (a1 : Addr) (x1 x2 x3 : UInt64) (i1 i2 i3 : Int) (u0 u1 u2 : Value) (h0 : Heap) (n0 : Nat) (hO : Old Z n0 h0) (g1 : n0 ≤ a1) (E1 : Exa Z h0 a1 "com/example/hypatia/hypatia/engine/Bm25Plus") (F0 : Fld Z h0 a1 "com/example/hypatia/hypatia/engine/Bm25Plus" "k1" "D" u0) (F1 : Fld Z h0 a1 "com/example/hypatia/hypatia/engine/Bm25Plus" "b" "D" u1) (F2 : Fld Z h0 a1 "com/example/hypatia/hypatia/engine/Bm25Plus" "delta" "D" u2) (S1 : own_Sc 2 i1 x1) (S2 : own_Sc 2 i2 x2) (S3 : own_Sc 2 i3 x3) (b1 : 0 ≤ i1) (b2 : 0 ≤ i2) (b3 : i2 ≤ 4) (b4 : 0 ≤ i3) :
    own_Met l Z (⟨"com/example/hypatia/hypatia/engine/Bm25Plus", "<init>", "(DDD)V"⟩ : MethodName) prog_1_method_1_code 7 none own_r_own_init #[(.ref a1), (.double x1), (.double x2), (.double x3)] h0 (own_Qi Z a1 x1 x2 x3 h0 n0) := by
  refine own_body (by decide +kernel) ?_
  intro p e s m below meth c T0 X0 hx hZ hby hml hown hnm hret hlk e0
  have N0 := Fr.nil n0
  refine own_cast (own_frame (L := [rv a1, .val (.double x1), .second, .val (.double x2), .second, .val (.double x3), .second]) (ls := #[rv a1, .val (.double x1), .second, .val (.double x2), .second, .val (.double x3), .second]) rfl rfl) ?_
  refine og_aloadN X0 hx (hb hby d1_0) rfl rfl ?_
  obtain ⟨T1, X1, e1, st1⟩ := initO X0 hx hZ hown (own_hw hw 9 rfl) (own_hw hw 10 rfl) (own_hw hw 11 rfl) e0 (g := (mkF m 1 #[rv a1, .val (.double x1), .second, .val (.double x2), .second, .val (.double x3), .second] [(.ref a1)])) rfl (by rw [hml]; rfl) rfl (hb hby d1_1) (by decide) (W := 0) (by show 2 * 0 + _ ≤ _; exact Nat.le_of_eq rfl) (by decide)
  refine own_go st1 ?_
  show own_Go p e below _ T1 (mkF m 4 #[rv a1, .val (.double x1), .second, .val (.double x2), .second, .val (.double x3), .second] [])
  refine own_go (fun t k => XS.dloadN X1.here hx rfl (hb hby d1_4) rfl k) ?_
  show own_Go p e below _ T1 (mkF m 5 #[rv a1, .val (.double x1), .second, .val (.double x2), .second, .val (.double x3), .second] [(.double x1)])
  refine own_go (fun t k => XS.dconst0 X1.here hx rfl (hb hby d1_5) rfl k) ?_
  show own_Go p e below _ T1 (mkF m 6 #[rv a1, .val (.double x1), .second, .val (.double x2), .second, .val (.double x3), .second] [(.double FP.dconst0), (.double x1)])
  refine own_go (fun t k => XS.dcmpS X1.here hx rfl (hb hby d1_6) rfl rfl k) ?_
  show own_Go p e below _ T1 (mkF m 7 #[rv a1, .val (.double x1), .second, .val (.double x2), .second, .val (.double x3), .second] [(.int (cmpValue (FP.dcmp x1 FP.dconst0) .l))])
  refine og_ifN X1 hx (hb hby d1_7) (flt (own_cmpGe S1 (own_d0 2) b1 _)).1 ?_
  refine own_go (fun t k => XS.dloadN X1.here hx rfl (hb hby d1_10) rfl k) ?_
  show own_Go p e below _ T1 (mkF m 11 #[rv a1, .val (.double x1), .second, .val (.double x2), .second, .val (.double x3), .second] [(.double x1)])
  refine og_ldcD X1 hx hZ hown (own_hw hw 12 rfl) (hb hby d1_11) ?_
  show own_Go p e below _ T1 (mkF m 14 #[rv a1, .val (.double x1), .second, .val (.double x2), .second, .val (.double x3), .second] [(.double 9218868437227405312), (.double x1)])
  refine own_go (fun t k => XS.dcmpS X1.here hx rfl (hb hby d1_14) rfl rfl k) ?_
  show own_Go p e below _ T1 (mkF m 15 #[rv a1, .val (.double x1), .second, .val (.double x2), .second, .val (.double x3), .second] [(.int (cmpValue (FP.dcmp x1 9218868437227405312) .g))])
  refine og_ifY X1 hx 32 (hb hby d1_15) (tlt (by rw [dcmp_pinf (own_scfin S1)]; decide)).1 (by decide) (by decide) ?_
  refine own_go (fun t k => XS.dloadN X1.here hx rfl (hb hby d1_32) rfl k) ?_
  show own_Go p e below _ T1 (mkF m 33 #[rv a1, .val (.double x1), .second, .val (.double x2), .second, .val (.double x3), .second] [(.double x2)])
  refine own_go (fun t k => XS.dconst0 X1.here hx rfl (hb hby d1_33) rfl k) ?_
  show own_Go p e below _ T1 (mkF m 34 #[rv a1, .val (.double x1), .second, .val (.double x2), .second, .val (.double x3), .second] [(.double FP.dconst0), (.double x2)])
  refine own_go (fun t k => XS.dcmpS X1.here hx rfl (hb hby d1_34) rfl rfl k) ?_
  show own_Go p e below _ T1 (mkF m 35 #[rv a1, .val (.double x1), .second, .val (.double x2), .second, .val (.double x3), .second] [(.int (cmpValue (FP.dcmp x2 FP.dconst0) .l))])
  refine og_ifN X1 hx (hb hby d1_35) (flt (own_cmpGe S2 (own_d0 2) b2 _)).1 ?_
  refine own_go (fun t k => XS.dloadN X1.here hx rfl (hb hby d1_38) rfl k) ?_
  show own_Go p e below _ T1 (mkF m 39 #[rv a1, .val (.double x1), .second, .val (.double x2), .second, .val (.double x3), .second] [(.double x2)])
  refine own_go (fun t k => XS.dconst1 X1.here hx rfl (hb hby d1_39) rfl k) ?_
  show own_Go p e below _ T1 (mkF m 40 #[rv a1, .val (.double x1), .second, .val (.double x2), .second, .val (.double x3), .second] [(.double FP.dconst1), (.double x2)])
  refine own_go (fun t k => XS.dcmpS X1.here hx rfl (hb hby d1_40) rfl rfl k) ?_
  show own_Go p e below _ T1 (mkF m 41 #[rv a1, .val (.double x1), .second, .val (.double x2), .second, .val (.double x3), .second] [(.int (cmpValue (FP.dcmp x2 FP.dconst1) .g))])
  refine og_ifY X1 hx 58 (hb hby d1_41) (flt (own_cmpLe S2 (own_eqSc (own_up own_d1 2) (by decide) (by decide)) b3 _)).2.2.2 (by decide) (by decide) ?_
  refine own_go (fun t k => XS.dload X1.here hx rfl (hb hby d1_58) rfl k) ?_
  show own_Go p e below _ T1 (mkF m 60 #[rv a1, .val (.double x1), .second, .val (.double x2), .second, .val (.double x3), .second] [(.double x3)])
  refine own_go (fun t k => XS.dconst0 X1.here hx rfl (hb hby d1_60) rfl k) ?_
  show own_Go p e below _ T1 (mkF m 61 #[rv a1, .val (.double x1), .second, .val (.double x2), .second, .val (.double x3), .second] [(.double FP.dconst0), (.double x3)])
  refine own_go (fun t k => XS.dcmpS X1.here hx rfl (hb hby d1_61) rfl rfl k) ?_
  show own_Go p e below _ T1 (mkF m 62 #[rv a1, .val (.double x1), .second, .val (.double x2), .second, .val (.double x3), .second] [(.int (cmpValue (FP.dcmp x3 FP.dconst0) .l))])
  refine og_ifN X1 hx (hb hby d1_62) (flt (own_cmpGe S3 (own_d0 2) b4 _)).1 ?_
  refine own_go (fun t k => XS.dload X1.here hx rfl (hb hby d1_65) rfl k) ?_
  show own_Go p e below _ T1 (mkF m 67 #[rv a1, .val (.double x1), .second, .val (.double x2), .second, .val (.double x3), .second] [(.double x3)])
  refine og_ldcD X1 hx hZ hown (own_hw hw 12 rfl) (hb hby d1_67) ?_
  show own_Go p e below _ T1 (mkF m 70 #[rv a1, .val (.double x1), .second, .val (.double x2), .second, .val (.double x3), .second] [(.double 9218868437227405312), (.double x3)])
  refine own_go (fun t k => XS.dcmpS X1.here hx rfl (hb hby d1_70) rfl rfl k) ?_
  show own_Go p e below _ T1 (mkF m 71 #[rv a1, .val (.double x1), .second, .val (.double x2), .second, .val (.double x3), .second] [(.int (cmpValue (FP.dcmp x3 9218868437227405312) .g))])
  refine og_ifY X1 hx 89 (hb hby d1_71) (tlt (by rw [dcmp_pinf (own_scfin S3)]; decide)).1 (by decide) (by decide) ?_
  refine og_aloadN X1 hx (hb hby d1_89) rfl rfl ?_
  refine own_go (fun t k => XS.dloadN X1.here hx rfl (hb hby d1_90) rfl k) ?_
  show own_Go p e below _ T1 (mkF m 91 #[rv a1, .val (.double x1), .second, .val (.double x2), .second, .val (.double x3), .second] [(.double x1), (.ref a1)])
  obtain ⟨T2, h2, X2, e2, W2, st2⟩ := putF X1 hx hZ hown (host := "") (Or.inl (own_hw hw 13 rfl)) Via.refl e1 F0 E1 (Or.inr ⟨(own_hw hw 14 rfl), rfl, hnm⟩) (own_hw hw 4 rfl) (ty := .double) (by decide) rfl rfl (g := (mkF m 91 #[rv a1, .val (.double x1), .second, .val (.double x2), .second, .val (.double x3), .second] [(.double x1), (.ref a1)])) rfl rfl (hb hby d1_91)
  refine own_go st2 ?_
  have E_a1_2 := E1.wr W2
  have F_a1_b_2 := F1.other W2 (Or.inr (slot_ne (Or.inr (own_hw hw 16 rfl)) (Or.inr (own_hw hw 14 rfl)) (by decide) (t := .double) (t' := .double) (by decide) (by decide)))
  have F_a1_delta_2 := F2.other W2 (Or.inr (slot_ne (Or.inr (own_hw hw 18 rfl)) (Or.inr (own_hw hw 14 rfl)) (by decide) (t := .double) (t' := .double) (by decide) (by decide)))
  have O2 := hO.wr W2 g1
  have K2 := (Keep.refl h0 [a1]).wr W2 (Or.inl (by simp))
  have N2 := Fr.snoc X2 N0 g1
  have F_a1_k1_2 : Fld Z h2 a1 "com/example/hypatia/hypatia/engine/Bm25Plus" "k1" "D" (.double x1) := F0.same W2
  show own_Go p e below _ T2 (mkF m 94 #[rv a1, .val (.double x1), .second, .val (.double x2), .second, .val (.double x3), .second] [])
  refine og_aloadN X2 hx (hb hby d1_94) rfl rfl ?_
  refine own_go (fun t k => XS.dloadN X2.here hx rfl (hb hby d1_95) rfl k) ?_
  show own_Go p e below _ T2 (mkF m 96 #[rv a1, .val (.double x1), .second, .val (.double x2), .second, .val (.double x3), .second] [(.double x2), (.ref a1)])
  obtain ⟨T3, h3, X3, e3, W3, st3⟩ := putF X2 hx hZ hown (host := "") (Or.inl (own_hw hw 15 rfl)) Via.refl e2 F_a1_b_2 E_a1_2 (Or.inr ⟨(own_hw hw 16 rfl), rfl, hnm⟩) (own_hw hw 4 rfl) (ty := .double) (by decide) rfl rfl (g := (mkF m 96 #[rv a1, .val (.double x1), .second, .val (.double x2), .second, .val (.double x3), .second] [(.double x2), (.ref a1)])) rfl rfl (hb hby d1_96)
  refine own_go st3 ?_
  have E_a1_3 := E_a1_2.wr W3
  have F_a1_delta_3 := F_a1_delta_2.other W3 (Or.inr (slot_ne (Or.inr (own_hw hw 18 rfl)) (Or.inr (own_hw hw 16 rfl)) (by decide) (t := .double) (t' := .double) (by decide) (by decide)))
  have F_a1_k1_3 := F_a1_k1_2.other W3 (Or.inr (slot_ne (Or.inr (own_hw hw 14 rfl)) (Or.inr (own_hw hw 16 rfl)) (by decide) (t := .double) (t' := .double) (by decide) (by decide)))
  have O3 := O2.wr W3 g1
  have K3 := K2.wr W3 (Or.inl (by simp))
  have N3 := Fr.snoc X3 N2 g1
  have F_a1_b_3 : Fld Z h3 a1 "com/example/hypatia/hypatia/engine/Bm25Plus" "b" "D" (.double x2) := F_a1_b_2.same W3
  show own_Go p e below _ T3 (mkF m 99 #[rv a1, .val (.double x1), .second, .val (.double x2), .second, .val (.double x3), .second] [])
  refine og_aloadN X3 hx (hb hby d1_99) rfl rfl ?_
  refine own_go (fun t k => XS.dload X3.here hx rfl (hb hby d1_100) rfl k) ?_
  show own_Go p e below _ T3 (mkF m 102 #[rv a1, .val (.double x1), .second, .val (.double x2), .second, .val (.double x3), .second] [(.double x3), (.ref a1)])
  obtain ⟨T4, h4, X4, e4, W4, st4⟩ := putF X3 hx hZ hown (host := "") (Or.inl (own_hw hw 17 rfl)) Via.refl e3 F_a1_delta_3 E_a1_3 (Or.inr ⟨(own_hw hw 18 rfl), rfl, hnm⟩) (own_hw hw 4 rfl) (ty := .double) (by decide) rfl rfl (g := (mkF m 102 #[rv a1, .val (.double x1), .second, .val (.double x2), .second, .val (.double x3), .second] [(.double x3), (.ref a1)])) rfl rfl (hb hby d1_102)
  refine own_go st4 ?_
  have E_a1_4 := E_a1_3.wr W4
  have F_a1_k1_4 := F_a1_k1_3.other W4 (Or.inr (slot_ne (Or.inr (own_hw hw 14 rfl)) (Or.inr (own_hw hw 18 rfl)) (by decide) (t := .double) (t' := .double) (by decide) (by decide)))
  have F_a1_b_4 := F_a1_b_3.other W4 (Or.inr (slot_ne (Or.inr (own_hw hw 16 rfl)) (Or.inr (own_hw hw 18 rfl)) (by decide) (t := .double) (t' := .double) (by decide) (by decide)))
  have O4 := O3.wr W4 g1
  have K4 := K3.wr W4 (Or.inl (by simp))
  have N4 := Fr.snoc X4 N3 g1
  have F_a1_delta_4 : Fld Z h4 a1 "com/example/hypatia/hypatia/engine/Bm25Plus" "delta" "D" (.double x3) := F_a1_delta_3.same W4
  show own_Go p e below _ T4 (mkF m 105 #[rv a1, .val (.double x1), .second, .val (.double x2), .second, .val (.double x3), .second] [])
  exact own_retV X4 hx hret hlk (hb hby d1_105) (by decide) (by decide) (by rw [e4]; exact ⟨rfl, N4, K4, F_a1_k1_4, F_a1_b_4, F_a1_delta_4⟩)
def own_Qd (k i : Int) (h0 : Heap) (n0 : Nat) (v : Option Value) (h : Heap) (L : List Loc) : Prop := ∃ x : UInt64, v = some (.double x) ∧ Fr n0 L ∧ h = h0 ∧ own_Sc k i x
theorem d3_0 : decode prog_1_method_4_code 0 = .ok (.aload_n 0, 1) := by decide +kernel
theorem d3_1 : decode prog_1_method_4_code 1 = .ok (.getfield 22, 3) := by decide +kernel
theorem d3_4 : decode prog_1_method_4_code 4 = .ok (.dconst 1, 1) := by decide +kernel
theorem d3_5 : decode prog_1_method_4_code 5 = .ok (.dadd, 1) := by decide +kernel
theorem d3_6 : decode prog_1_method_4_code 6 = .ok (.aload_n 0, 1) := by decide +kernel
theorem d3_7 : decode prog_1_method_4_code 7 = .ok (.getfield 31, 3) := by decide +kernel
theorem d3_10 : decode prog_1_method_4_code 10 = .ok (.dadd, 1) := by decide +kernel
theorem d3_11 : decode prog_1_method_4_code 11 = .ok (.dload_n 1, 1) := by decide +kernel
theorem d3_12 : decode prog_1_method_4_code 12 = .ok (.dmul, 1) := by decide +kernel
theorem d3_13 : decode prog_1_method_4_code 13 = .ok (.dreturn, 1) := by decide +kernel
def own_r_own_mw : Room := { frames := 0, cells := 0, slots := 0, locals := 0 }
theorem own_mw (l : Launch) (Z : State) (a0 : Array Value) (hw : own_W a0 Z) (a1 : Addr) (x1 x2 x3 : UInt64) (i1 i3 n : Int) (h0 : Heap) (n0 : Nat) (F0 : Fld Z h0 a1 "com/example/hypatia/hypatia/engine/Bm25Plus" "k1" "D" (.double x1)) (F2 : Fld Z h0 a1 "com/example/hypatia/hypatia/engine/Bm25Plus" "delta" "D" (.double x3)) (S1 : own_Sc 2 i1 x1) (S3 : own_Sc 2 i3 x3) (S2 : own_Sc 0 n x2) (b1 : 0 ≤ i1 ∧ i1 ≤ 1048575) (b2 : 0 ≤ i3 ∧ i3 ≤ 1048575) (b3 : ((i1 + 4 + i3) * n).natAbs < 2 ^ 53) :
    own_Met l Z (⟨"com/example/hypatia/hypatia/engine/Bm25Plus", "maxWeight", "(D)D"⟩ : MethodName) prog_1_method_4_code 3 (some .double) own_r_own_mw #[(.ref a1), (.double x2)] h0 (own_Qd 2 ((i1 + 4 + i3) * n) h0 n0) := by
  refine own_body (by decide +kernel) ?_
  intro p e s m below meth c T0 X0 hx hZ hby hml hown hnm hret hlk e0
  have N0 := Fr.nil n0
  refine own_cast (own_frame (L := [rv a1, .val (.double x2), .second]) (ls := #[rv a1, .val (.double x2), .second]) rfl rfl) ?_
  refine og_aloadN X0 hx (hb hby d3_0) rfl rfl ?_
  refine og_getF X0 hx hZ hown (own_hw hw 13 rfl) Via.refl e0 F0 (hb hby d3_1) ?_
  intro T1 X1 e1
  show own_Go p e below _ T1 (mkF m 4 #[rv a1, .val (.double x2), .second] [(.double x1)])
  refine own_go (fun t k => XS.dconst1 X1.here hx rfl (hb hby d3_4) rfl k) ?_
  show own_Go p e below _ T1 (mkF m 5 #[rv a1, .val (.double x2), .second] [(.double FP.dconst1), (.double x1)])
  obtain ⟨dx2, dhv2, dS2⟩ : ∃ v, FP.dadd x1 FP.dconst1 = v ∧ own_Sc 2 (i1 + 4) v := ⟨_, rfl, own_dadd S1 (own_eqSc (own_up own_d1 2) (by decide) (by decide)) (by decide) (by decide) (by omega)⟩
  refine own_go (fun t k => XS.daddS X1.here hx rfl (hb hby d3_5) rfl (own_scnn dhv2 dS2) dhv2 k) ?_
  show own_Go p e below _ T1 (mkF m 6 #[rv a1, .val (.double x2), .second] [(.double dx2)])
  refine og_aloadN X1 hx (hb hby d3_6) rfl rfl ?_
  refine og_getF X1 hx hZ hown (own_hw hw 17 rfl) Via.refl e1 F2 (hb hby d3_7) ?_
  intro T3 X3 e3
  show own_Go p e below _ T3 (mkF m 10 #[rv a1, .val (.double x2), .second] [(.double x3), (.double dx2)])
  obtain ⟨dx4, dhv4, dS4⟩ : ∃ v, FP.dadd dx2 x3 = v ∧ own_Sc 2 (i1 + 4 + i3) v := ⟨_, rfl, own_dadd dS2 S3 (by decide) (by decide) (by omega)⟩
  refine own_go (fun t k => XS.daddS X3.here hx rfl (hb hby d3_10) rfl (own_scnn dhv4 dS4) dhv4 k) ?_
  show own_Go p e below _ T3 (mkF m 11 #[rv a1, .val (.double x2), .second] [(.double dx4)])
  refine own_go (fun t k => XS.dloadN X3.here hx rfl (hb hby d3_11) rfl k) ?_
  show own_Go p e below _ T3 (mkF m 12 #[rv a1, .val (.double x2), .second] [(.double x2), (.double dx4)])
  obtain ⟨dx5, dhv5, dS5⟩ : ∃ v, FP.dmul dx4 x2 = v ∧ own_Sc 2 ((i1 + 4 + i3) * n) v := ⟨_, rfl, own_eqSc (own_dmul dS4 S2 (by decide) (by decide) b3) (by decide) rfl⟩
  refine own_go (fun t k => XS.dmulS X3.here hx rfl (hb hby d3_12) rfl (own_scnn dhv5 dS5) dhv5 k) ?_
  show own_Go p e below _ T3 (mkF m 13 #[rv a1, .val (.double x2), .second] [(.double dx5)])
  exact own_retD X3 hx hret hlk (hb hby d3_13) (by decide) (by decide) (⟨_, rfl, N0, e3, dS5⟩)
theorem own_pd62285 : parseMethodDescriptor "(DDD)V" = some ⟨[.double, .double, .double], none⟩ := by decide +kernel
theorem own_pd68819 : parseMethodDescriptor "(D)D" = some ⟨[.double], some .double⟩ := by decide +kernel
theorem own_rm0 (l : Launch) (Z : State) (a0 : Array Value) (hw : own_W a0 Z) (p1 p2 p3 p4 : Int32) (h0 : Heap) (n0 : Nat) (hO : Old Z n0 h0) :
    own_Met l Z x code maxLocals ret room_1 #[(.int p1), (.int p2), (.int p3), (.int p4)] h0 (own_Q1 n0) := by
  refine own_body (by decide +kernel) ?_
  intro p e s m below meth c T0 X0 hx hZ hby hml hown hnm hret hlk e0
  have N0 := Fr.nil n0
  refine own_cast (own_frame (L := [iv p1, iv p2, iv p3, iv p4]) (ls := #[iv p1, iv p2, iv p3, iv p4, .unset, .unset, .unset, .unset, .unset, .unset, .unset, .unset, .unset, .unset, .unset, .unset, .unset, .unset, .unset, .unset]) rfl rfl) ?_
  refine og_iloadN X0 hx (hb hby at_0) rfl ?_
  refine og_ldcI X0 hx hZ hown (own_hw hw 0 rfl) (hb hby at_1) ?_
  show own_Go p e below _ T0 (mkF m 3 #[iv p1, iv p2, iv p3, iv p4, .unset, .unset, .unset, .unset, .unset, .unset, .unset, .unset, .unset, .unset, .unset, .unset, .unset, .unset, .unset, .unset] [(.int 1048575), (.int p1)])
  refine og_iand X0 hx (hb hby at_3) ?_
  refine og_istore X0 hx #[iv p1, iv p2, iv p3, iv p4, iv (p1 &&& 1048575), .unset, .unset, .unset, .unset, .unset, .unset, .unset, .unset, .unset, .unset, .unset, .unset, .unset, .unset, .unset] (hb hby at_4) rfl ?_
  refine og_iloadN X0 hx (hb hby at_6) rfl ?_
  refine og_ldcI X0 hx hZ hown (own_hw hw 0 rfl) (hb hby at_7) ?_
  show own_Go p e below _ T0 (mkF m 9 #[iv p1, iv p2, iv p3, iv p4, iv (p1 &&& 1048575), .unset, .unset, .unset, .unset, .unset, .unset, .unset, .unset, .unset, .unset, .unset, .unset, .unset, .unset, .unset] [(.int 1048575), (.int p3)])
  refine og_iand X0 hx (hb hby at_9) ?_
  refine og_istore X0 hx #[iv p1, iv p2, iv p3, iv p4, iv (p1 &&& 1048575), iv (p3 &&& 1048575), .unset, .unset, .unset, .unset, .unset, .unset, .unset, .unset, .unset, .unset, .unset, .unset, .unset, .unset] (hb hby at_10) rfl ?_
  refine og_iloadN X0 hx (hb hby at_12) rfl ?_
  refine og_ldcI X0 hx hZ hown (own_hw hw 1 rfl) (hb hby at_13) ?_
  show own_Go p e below _ T0 (mkF m 15 #[iv p1, iv p2, iv p3, iv p4, iv (p1 &&& 1048575), iv (p3 &&& 1048575), .unset, .unset, .unset, .unset, .unset, .unset, .unset, .unset, .unset, .unset, .unset, .unset, .unset, .unset] [(.int 2147483647), (.int p2)])
  refine og_iand X0 hx (hb hby at_15) ?_
  refine og_iconst X0 hx (hb hby at_16) ?_
  refine og_iremM X0 hx (hb hby at_17) (by decide) ?_
  show own_Go p e below _ T0 (mkF m 18 #[iv p1, iv p2, iv p3, iv p4, iv (p1 &&& 1048575), iv (p3 &&& 1048575), .unset, .unset, .unset, .unset, .unset, .unset, .unset, .unset, .unset, .unset, .unset, .unset, .unset, .unset] [(.int ((p2 &&& 2147483647) % 5))])
  refine og_istore X0 hx #[iv p1, iv p2, iv p3, iv p4, iv (p1 &&& 1048575), iv (p3 &&& 1048575), iv ((p2 &&& 2147483647) % 5), .unset, .unset, .unset, .unset, .unset, .unset, .unset, .unset, .unset, .unset, .unset, .unset, .unset] (hb hby at_18) rfl ?_
  show own_Go p e below _ T0 (mkF m 20 #[iv p1, iv p2, iv p3, iv p4, iv (p1 &&& 1048575), iv (p3 &&& 1048575), iv ((p2 &&& 2147483647) % 5), .unset, .unset, .unset, .unset, .unset, .unset, .unset, .unset, .unset, .unset, .unset, .unset, .unset] [])
  have B1 := own_and1048575 p1
  have B3 := own_and1048575 p3
  have B2 := own_rem5 p2
  have BL := own_long (n := p4) B1 B3
  refine og_iload X0 hx (hb hby at_20) rfl ?_
  obtain ⟨dx1, dhv1, dS1⟩ : ∃ v, FP.i2d (p1 &&& 1048575) = v ∧ own_Sc 0 ((p1 &&& 1048575).toInt) v := ⟨_, rfl, own_i2d _⟩
  refine own_go (fun t k => XS.i2dS X0.here hx rfl (hb hby at_22) rfl dhv1 k) ?_
  show own_Go p e below _ T0 (mkF m 23 #[iv p1, iv p2, iv p3, iv p4, iv (p1 &&& 1048575), iv (p3 &&& 1048575), iv ((p2 &&& 2147483647) % 5), .unset, .unset, .unset, .unset, .unset, .unset, .unset, .unset, .unset, .unset, .unset, .unset, .unset] [(.double dx1)])
  refine og_ldcD X0 hx hZ hown (own_hw hw 2 rfl) (hb hby at_23) ?_
  show own_Go p e below _ T0 (mkF m 26 #[iv p1, iv p2, iv p3, iv p4, iv (p1 &&& 1048575), iv (p3 &&& 1048575), iv ((p2 &&& 2147483647) % 5), .unset, .unset, .unset, .unset, .unset, .unset, .unset, .unset, .unset, .unset, .unset, .unset, .unset] [(.double 4616189618054758400), (.double dx1)])
  obtain ⟨dx2, dhv2, dS2⟩ : ∃ v, FP.ddiv dx1 4616189618054758400 = v ∧ own_Sc 2 ((p1 &&& 1048575).toInt) v := ⟨_, rfl, own_eqSc (own_ddiv (m := 2) dS1 (by decide +kernel) (by decide) (by decide) (by omega)) (by decide) rfl⟩
  refine own_go (fun t k => XS.ddivS X0.here hx rfl (hb hby at_26) rfl (own_scnn dhv2 dS2) dhv2 k) ?_
  show own_Go p e below _ T0 (mkF m 27 #[iv p1, iv p2, iv p3, iv p4, iv (p1 &&& 1048575), iv (p3 &&& 1048575), iv ((p2 &&& 2147483647) % 5), .unset, .unset, .unset, .unset, .unset, .unset, .unset, .unset, .unset, .unset, .unset, .unset, .unset] [(.double dx2)])
  refine own_go (fun t k => XS.dstore X0.here hx rfl (hb hby at_27) rfl (l' := #[iv p1, iv p2, iv p3, iv p4, iv (p1 &&& 1048575), iv (p3 &&& 1048575), iv ((p2 &&& 2147483647) % 5), .val (.double dx2), .second, .unset, .unset, .unset, .unset, .unset, .unset, .unset, .unset, .unset, .unset, .unset]) rfl k) ?_
  show own_Go p e below _ T0 (mkF m 29 #[iv p1, iv p2, iv p3, iv p4, iv (p1 &&& 1048575), iv (p3 &&& 1048575), iv ((p2 &&& 2147483647) % 5), .val (.double dx2), .second, .unset, .unset, .unset, .unset, .unset, .unset, .unset, .unset, .unset, .unset, .unset] [])
  refine og_iload X0 hx (hb hby at_29) rfl ?_
  obtain ⟨dx3, dhv3, dS3⟩ : ∃ v, FP.i2d (p3 &&& 1048575) = v ∧ own_Sc 0 ((p3 &&& 1048575).toInt) v := ⟨_, rfl, own_i2d _⟩
  refine own_go (fun t k => XS.i2dS X0.here hx rfl (hb hby at_31) rfl dhv3 k) ?_
  show own_Go p e below _ T0 (mkF m 32 #[iv p1, iv p2, iv p3, iv p4, iv (p1 &&& 1048575), iv (p3 &&& 1048575), iv ((p2 &&& 2147483647) % 5), .val (.double dx2), .second, .unset, .unset, .unset, .unset, .unset, .unset, .unset, .unset, .unset, .unset, .unset] [(.double dx3)])
  refine og_ldcD X0 hx hZ hown (own_hw hw 2 rfl) (hb hby at_32) ?_
  show own_Go p e below _ T0 (mkF m 35 #[iv p1, iv p2, iv p3, iv p4, iv (p1 &&& 1048575), iv (p3 &&& 1048575), iv ((p2 &&& 2147483647) % 5), .val (.double dx2), .second, .unset, .unset, .unset, .unset, .unset, .unset, .unset, .unset, .unset, .unset, .unset] [(.double 4616189618054758400), (.double dx3)])
  obtain ⟨dx4, dhv4, dS4⟩ : ∃ v, FP.ddiv dx3 4616189618054758400 = v ∧ own_Sc 2 ((p3 &&& 1048575).toInt) v := ⟨_, rfl, own_eqSc (own_ddiv (m := 2) dS3 (by decide +kernel) (by decide) (by decide) (by omega)) (by decide) rfl⟩
  refine own_go (fun t k => XS.ddivS X0.here hx rfl (hb hby at_35) rfl (own_scnn dhv4 dS4) dhv4 k) ?_
  show own_Go p e below _ T0 (mkF m 36 #[iv p1, iv p2, iv p3, iv p4, iv (p1 &&& 1048575), iv (p3 &&& 1048575), iv ((p2 &&& 2147483647) % 5), .val (.double dx2), .second, .unset, .unset, .unset, .unset, .unset, .unset, .unset, .unset, .unset, .unset, .unset] [(.double dx4)])
  refine own_go (fun t k => XS.dstore X0.here hx rfl (hb hby at_36) rfl (l' := #[iv p1, iv p2, iv p3, iv p4, iv (p1 &&& 1048575), iv (p3 &&& 1048575), iv ((p2 &&& 2147483647) % 5), .val (.double dx2), .second, .val (.double dx4), .second, .unset, .unset, .unset, .unset, .unset, .unset, .unset, .unset, .unset]) rfl k) ?_
  show own_Go p e below _ T0 (mkF m 38 #[iv p1, iv p2, iv p3, iv p4, iv (p1 &&& 1048575), iv (p3 &&& 1048575), iv ((p2 &&& 2147483647) % 5), .val (.double dx2), .second, .val (.double dx4), .second, .unset, .unset, .unset, .unset, .unset, .unset, .unset, .unset, .unset] [])
  refine og_iload X0 hx (hb hby at_38) rfl ?_
  obtain ⟨dx5, dhv5, dS5⟩ : ∃ v, FP.i2d ((p2 &&& 2147483647) % 5) = v ∧ own_Sc 0 (((p2 &&& 2147483647) % 5).toInt) v := ⟨_, rfl, own_i2d _⟩
  refine own_go (fun t k => XS.i2dS X0.here hx rfl (hb hby at_40) rfl dhv5 k) ?_
  show own_Go p e below _ T0 (mkF m 41 #[iv p1, iv p2, iv p3, iv p4, iv (p1 &&& 1048575), iv (p3 &&& 1048575), iv ((p2 &&& 2147483647) % 5), .val (.double dx2), .second, .val (.double dx4), .second, .unset, .unset, .unset, .unset, .unset, .unset, .unset, .unset, .unset] [(.double dx5)])
  refine og_ldcD X0 hx hZ hown (own_hw hw 2 rfl) (hb hby at_41) ?_
  show own_Go p e below _ T0 (mkF m 44 #[iv p1, iv p2, iv p3, iv p4, iv (p1 &&& 1048575), iv (p3 &&& 1048575), iv ((p2 &&& 2147483647) % 5), .val (.double dx2), .second, .val (.double dx4), .second, .unset, .unset, .unset, .unset, .unset, .unset, .unset, .unset, .unset] [(.double 4616189618054758400), (.double dx5)])
  obtain ⟨dx6, dhv6, dS6⟩ : ∃ v, FP.ddiv dx5 4616189618054758400 = v ∧ own_Sc 2 (((p2 &&& 2147483647) % 5).toInt) v := ⟨_, rfl, own_eqSc (own_ddiv (m := 2) dS5 (by decide +kernel) (by decide) (by decide) (by omega)) (by decide) rfl⟩
  refine own_go (fun t k => XS.ddivS X0.here hx rfl (hb hby at_44) rfl (own_scnn dhv6 dS6) dhv6 k) ?_
  show own_Go p e below _ T0 (mkF m 45 #[iv p1, iv p2, iv p3, iv p4, iv (p1 &&& 1048575), iv (p3 &&& 1048575), iv ((p2 &&& 2147483647) % 5), .val (.double dx2), .second, .val (.double dx4), .second, .unset, .unset, .unset, .unset, .unset, .unset, .unset, .unset, .unset] [(.double dx6)])
  refine own_go (fun t k => XS.dstore X0.here hx rfl (hb hby at_45) rfl (l' := #[iv p1, iv p2, iv p3, iv p4, iv (p1 &&& 1048575), iv (p3 &&& 1048575), iv ((p2 &&& 2147483647) % 5), .val (.double dx2), .second, .val (.double dx4), .second, .val (.double dx6), .second, .unset, .unset, .unset, .unset, .unset, .unset, .unset]) rfl k) ?_
  show own_Go p e below _ T0 (mkF m 47 #[iv p1, iv p2, iv p3, iv p4, iv (p1 &&& 1048575), iv (p3 &&& 1048575), iv ((p2 &&& 2147483647) % 5), .val (.double dx2), .second, .val (.double dx4), .second, .val (.double dx6), .second, .unset, .unset, .unset, .unset, .unset, .unset, .unset] [])
  refine own_newO X0 hx hZ hown (own_hw hw 3 rfl) (own_hw hw 4 rfl) (own_hw hw 5 rfl) e0 (hb hby at_47) (by decide) (by decide) ?_
  intro T7 h7 b7 g7 X7 e7 E7 A7 D7
  have ge_b7 : n0 ≤ b7 := Nat.le_trans (own_oldle hO) (Nat.le_of_eq g7.symm)
  have O7 := hO.ext E7
  have F_b7_k1_7 : Fld Z h7 b7 "com/example/hypatia/hypatia/engine/Bm25Plus" "k1" "D" (.double (0)) := D7 (Or.inr (own_hw hw 14 rfl)) (ty := .double) (by decide)
  have F_b7_b_7 : Fld Z h7 b7 "com/example/hypatia/hypatia/engine/Bm25Plus" "b" "D" (.double (0)) := D7 (Or.inr (own_hw hw 16 rfl)) (ty := .double) (by decide)
  have F_b7_delta_7 : Fld Z h7 b7 "com/example/hypatia/hypatia/engine/Bm25Plus" "delta" "D" (.double (0)) := D7 (Or.inr (own_hw hw 18 rfl)) (ty := .double) (by decide)
  show own_Go p e below _ T7 (mkF m 50 #[iv p1, iv p2, iv p3, iv p4, iv (p1 &&& 1048575), iv (p3 &&& 1048575), iv ((p2 &&& 2147483647) % 5), .val (.double dx2), .second, .val (.double dx4), .second, .val (.double dx6), .second, .unset, .unset, .unset, .unset, .unset, .unset, .unset] [(.ref b7)])
  refine og_dup X7 hx (hb hby at_50) rfl ?_
  refine own_go (fun t k => XS.dload X7.here hx rfl (hb hby at_51) rfl k) ?_
  show own_Go p e below _ T7 (mkF m 53 #[iv p1, iv p2, iv p3, iv p4, iv (p1 &&& 1048575), iv (p3 &&& 1048575), iv ((p2 &&& 2147483647) % 5), .val (.double dx2), .second, .val (.double dx4), .second, .val (.double dx6), .second, .unset, .unset, .unset, .unset, .unset, .unset, .unset] [(.double dx2), (.ref b7), (.ref b7)])
  refine own_go (fun t k => XS.dload X7.here hx rfl (hb hby at_53) rfl k) ?_
  show own_Go p e below _ T7 (mkF m 55 #[iv p1, iv p2, iv p3, iv p4, iv (p1 &&& 1048575), iv (p3 &&& 1048575), iv ((p2 &&& 2147483647) % 5), .val (.double dx2), .second, .val (.double dx4), .second, .val (.double dx6), .second, .unset, .unset, .unset, .unset, .unset, .unset, .unset] [(.double dx6), (.double dx2), (.ref b7), (.ref b7)])
  refine own_go (fun t k => XS.dload X7.here hx rfl (hb hby at_55) rfl k) ?_
  show own_Go p e below _ T7 (mkF m 57 #[iv p1, iv p2, iv p3, iv p4, iv (p1 &&& 1048575), iv (p3 &&& 1048575), iv ((p2 &&& 2147483647) % 5), .val (.double dx2), .second, .val (.double dx4), .second, .val (.double dx6), .second, .unset, .unset, .unset, .unset, .unset, .unset, .unset] [(.double dx4), (.double dx6), (.double dx2), (.ref b7), (.ref b7)])
  refine own_callN X7 hx hZ hown (own_hw hw 6 rfl) (own_hw hw 7 rfl) (own_hw hw 8 rfl) (own_hw hw 5 rfl) (by decide) rfl (b := b7) (argsL := [(.double dx2), (.double dx6), (.double dx4)]) (rest := [(.ref b7)]) (own_init l Z a0 hw b7 dx2 dx6 dx4 _ _ _ _ _ _ h7 n0 O7 ge_b7 A7 F_b7_k1_7 F_b7_b_7 F_b7_delta_7 dS2 dS6 dS4 B1.1 B2.1 (by omega) B3.1) e7 (by rw [hml]; rfl) (lenOf own_pd62285 rfl) rfl (hb hby at_57) (W := 1) (Nat.le_of_eq rfl) (by decide) ?_
  intro v8 T8 L8 X8 q8
  obtain ⟨rfl, N8q, K8q, Fa8, Fb8, Fc8⟩ := q8
  have N8 := Fr.app N0 N8q
  have E_b7_8 := A7.keep K8q
  have O8 := O7.keep K8q (allS ge_b7 all0)
  show own_Go p e below _ T8 (mkF m 60 #[iv p1, iv p2, iv p3, iv p4, iv (p1 &&& 1048575), iv (p3 &&& 1048575), iv ((p2 &&& 2147483647) % 5), .val (.double dx2), .second, .val (.double dx4), .second, .val (.double dx6), .second, .unset, .unset, .unset, .unset, .unset, .unset, .unset] [(.ref b7)])
  refine og_astore X8 hx #[iv p1, iv p2, iv p3, iv p4, iv (p1 &&& 1048575), iv (p3 &&& 1048575), iv ((p2 &&& 2147483647) % 5), .val (.double dx2), .second, .val (.double dx4), .second, .val (.double dx6), .second, rv b7, .unset, .unset, .unset, .unset, .unset, .unset] (hb hby at_60) rfl rfl ?_
  refine og_aload X8 hx (hb hby at_62) rfl rfl ?_
  refine og_iloadN X8 hx (hb hby at_64) rfl ?_
  obtain ⟨dx9, dhv9, dS9⟩ : ∃ v, FP.i2d p4 = v ∧ own_Sc 0 (p4.toInt) v := ⟨_, rfl, own_i2d _⟩
  refine own_go (fun t k => XS.i2dS X8.here hx rfl (hb hby at_65) rfl dhv9 k) ?_
  show own_Go p e below _ T8 (mkF m 66 #[iv p1, iv p2, iv p3, iv p4, iv (p1 &&& 1048575), iv (p3 &&& 1048575), iv ((p2 &&& 2147483647) % 5), .val (.double dx2), .second, .val (.double dx4), .second, .val (.double dx6), .second, rv b7, .unset, .unset, .unset, .unset, .unset, .unset] [(.double dx9), (.ref b7)])
  refine own_callV X8 hx hZ hown (own_hw hw 19 rfl) (own_hw hw 20 rfl) (notFace_of_selects (args := #[]) (mvT hZ (own_hw hw 22 rfl))) (own_hw hw 22 rfl) (own_hw hw 21 rfl) (own_hw hw 23 rfl) (own_hw hw 5 rfl) (by decide) (b := b7) (argsL := [(.double dx9)]) (rest := []) (own_mw l Z a0 hw b7 dx2 dx9 dx4 _ _ _ T8.heap n0 Fa8 Fc8 dS2 dS4 dS9 B1 B3 BL.2) rfl E_b7_8 (by rw [hml]; rfl) (lenOf own_pd68819 rfl) rfl (hb hby at_66) (W := 0) (Nat.le_of_eq rfl) (by decide) ?_
  intro v10 T10 L10 X10 q10
  obtain ⟨y10, rfl, N10q, e10, Sy10⟩ := q10
  have N10 := Fr.app N8 N10q
  show own_Go p e below _ T10 (mkF m 69 #[iv p1, iv p2, iv p3, iv p4, iv (p1 &&& 1048575), iv (p3 &&& 1048575), iv ((p2 &&& 2147483647) % 5), .val (.double dx2), .second, .val (.double dx4), .second, .val (.double dx6), .second, rv b7, .unset, .unset, .unset, .unset, .unset, .unset] [(.double y10)])
  refine own_go (fun t k => XS.dstore X10.here hx rfl (hb hby at_69) rfl (l' := #[iv p1, iv p2, iv p3, iv p4, iv (p1 &&& 1048575), iv (p3 &&& 1048575), iv ((p2 &&& 2147483647) % 5), .val (.double dx2), .second, .val (.double dx4), .second, .val (.double dx6), .second, rv b7, .val (.double y10), .second, .unset, .unset, .unset, .unset]) rfl k) ?_
  show own_Go p e below _ T10 (mkF m 71 #[iv p1, iv p2, iv p3, iv p4, iv (p1 &&& 1048575), iv (p3 &&& 1048575), iv ((p2 &&& 2147483647) % 5), .val (.double dx2), .second, .val (.double dx4), .second, .val (.double dx6), .second, rv b7, .val (.double y10), .second, .unset, .unset, .unset, .unset] [])
  refine og_iload X10 hx (hb hby at_71) rfl ?_
  refine own_go (fun t k => XS.i2l X10.here hx rfl (hb hby at_73) rfl k) ?_
  show own_Go p e below _ T10 (mkF m 74 #[iv p1, iv p2, iv p3, iv p4, iv (p1 &&& 1048575), iv (p3 &&& 1048575), iv ((p2 &&& 2147483647) % 5), .val (.double dx2), .second, .val (.double dx4), .second, .val (.double dx6), .second, rv b7, .val (.double y10), .second, .unset, .unset, .unset, .unset] [(.long ((p1 &&& 1048575).toInt64))])
  refine own_go (fun t k => X10.ldc2J hx hown (mvT hZ (own_hw hw 24 rfl)) rfl (hb hby at_74) k) ?_
  show own_Go p e below _ T10 (mkF m 77 #[iv p1, iv p2, iv p3, iv p4, iv (p1 &&& 1048575), iv (p3 &&& 1048575), iv ((p2 &&& 2147483647) % 5), .val (.double dx2), .second, .val (.double dx4), .second, .val (.double dx6), .second, rv b7, .val (.double y10), .second, .unset, .unset, .unset, .unset] [(.long (4 : Int64)), (.long ((p1 &&& 1048575).toInt64))])
  refine own_go (fun t k => XS.ladd X10.here hx rfl (hb hby at_77) rfl k) ?_
  show own_Go p e below _ T10 (mkF m 78 #[iv p1, iv p2, iv p3, iv p4, iv (p1 &&& 1048575), iv (p3 &&& 1048575), iv ((p2 &&& 2147483647) % 5), .val (.double dx2), .second, .val (.double dx4), .second, .val (.double dx6), .second, rv b7, .val (.double y10), .second, .unset, .unset, .unset, .unset] [(.long (((p1 &&& 1048575).toInt64) + (4 : Int64)))])
  refine og_iload X10 hx (hb hby at_78) rfl ?_
  refine own_go (fun t k => XS.i2l X10.here hx rfl (hb hby at_80) rfl k) ?_
  show own_Go p e below _ T10 (mkF m 81 #[iv p1, iv p2, iv p3, iv p4, iv (p1 &&& 1048575), iv (p3 &&& 1048575), iv ((p2 &&& 2147483647) % 5), .val (.double dx2), .second, .val (.double dx4), .second, .val (.double dx6), .second, rv b7, .val (.double y10), .second, .unset, .unset, .unset, .unset] [(.long ((p3 &&& 1048575).toInt64)), (.long (((p1 &&& 1048575).toInt64) + (4 : Int64)))])
  refine own_go (fun t k => XS.ladd X10.here hx rfl (hb hby at_81) rfl k) ?_
  show own_Go p e below _ T10 (mkF m 82 #[iv p1, iv p2, iv p3, iv p4, iv (p1 &&& 1048575), iv (p3 &&& 1048575), iv ((p2 &&& 2147483647) % 5), .val (.double dx2), .second, .val (.double dx4), .second, .val (.double dx6), .second, rv b7, .val (.double y10), .second, .unset, .unset, .unset, .unset] [(.long ((((p1 &&& 1048575).toInt64) + (4 : Int64)) + ((p3 &&& 1048575).toInt64)))])
  refine og_iloadN X10 hx (hb hby at_82) rfl ?_
  refine own_go (fun t k => XS.i2l X10.here hx rfl (hb hby at_83) rfl k) ?_
  show own_Go p e below _ T10 (mkF m 84 #[iv p1, iv p2, iv p3, iv p4, iv (p1 &&& 1048575), iv (p3 &&& 1048575), iv ((p2 &&& 2147483647) % 5), .val (.double dx2), .second, .val (.double dx4), .second, .val (.double dx6), .second, rv b7, .val (.double y10), .second, .unset, .unset, .unset, .unset] [(.long (p4.toInt64)), (.long ((((p1 &&& 1048575).toInt64) + (4 : Int64)) + ((p3 &&& 1048575).toInt64)))])
  refine own_go (fun t k => XS.lmul X10.here hx rfl (hb hby at_84) rfl k) ?_
  show own_Go p e below _ T10 (mkF m 85 #[iv p1, iv p2, iv p3, iv p4, iv (p1 &&& 1048575), iv (p3 &&& 1048575), iv ((p2 &&& 2147483647) % 5), .val (.double dx2), .second, .val (.double dx4), .second, .val (.double dx6), .second, rv b7, .val (.double y10), .second, .unset, .unset, .unset, .unset] [(.long (((((p1 &&& 1048575).toInt64) + (4 : Int64)) + ((p3 &&& 1048575).toInt64)) * (p4.toInt64)))])
  refine og_lstore X10 hx #[iv p1, iv p2, iv p3, iv p4, iv (p1 &&& 1048575), iv (p3 &&& 1048575), iv ((p2 &&& 2147483647) % 5), .val (.double dx2), .second, .val (.double dx4), .second, .val (.double dx6), .second, rv b7, .val (.double y10), .second, .val (.long (((((p1 &&& 1048575).toInt64) + (4 : Int64)) + ((p3 &&& 1048575).toInt64)) * (p4.toInt64))), .second, .unset, .unset] (hb hby at_85) rfl ?_
  refine og_lload X10 hx (hb hby at_87) rfl ?_
  obtain ⟨dx11, dhv11, dS11⟩ : ∃ v, FP.l2d (((((p1 &&& 1048575).toInt64) + (4 : Int64)) + ((p3 &&& 1048575).toInt64)) * (p4.toInt64)) = v ∧ own_Sc 0 (((p1 &&& (1048575 : Int32)).toInt + 4 + (p3 &&& (1048575 : Int32)).toInt) * p4.toInt) v := ⟨_, rfl, own_eqSc (own_l2d (by rw [BL.1]; exact Nat.le_of_lt BL.2)) rfl BL.1⟩
  refine own_go (fun t k => XS.l2dS X10.here hx rfl (hb hby at_89) rfl dhv11 k) ?_
  show own_Go p e below _ T10 (mkF m 90 #[iv p1, iv p2, iv p3, iv p4, iv (p1 &&& 1048575), iv (p3 &&& 1048575), iv ((p2 &&& 2147483647) % 5), .val (.double dx2), .second, .val (.double dx4), .second, .val (.double dx6), .second, rv b7, .val (.double y10), .second, .val (.long (((((p1 &&& 1048575).toInt64) + (4 : Int64)) + ((p3 &&& 1048575).toInt64)) * (p4.toInt64))), .second, .unset, .unset] [(.double dx11)])
  refine og_ldcD X10 hx hZ hown (own_hw hw 2 rfl) (hb hby at_90) ?_
  show own_Go p e below _ T10 (mkF m 93 #[iv p1, iv p2, iv p3, iv p4, iv (p1 &&& 1048575), iv (p3 &&& 1048575), iv ((p2 &&& 2147483647) % 5), .val (.double dx2), .second, .val (.double dx4), .second, .val (.double dx6), .second, rv b7, .val (.double y10), .second, .val (.long (((((p1 &&& 1048575).toInt64) + (4 : Int64)) + ((p3 &&& 1048575).toInt64)) * (p4.toInt64))), .second, .unset, .unset] [(.double 4616189618054758400), (.double dx11)])
  obtain ⟨dx12, dhv12, dS12⟩ : ∃ v, FP.ddiv dx11 4616189618054758400 = v ∧ own_Sc 2 (((p1 &&& (1048575 : Int32)).toInt + 4 + (p3 &&& (1048575 : Int32)).toInt) * p4.toInt) v := ⟨_, rfl, own_eqSc (own_ddiv (m := 2) dS11 (by decide +kernel) (by decide) (by decide) BL.2) (by decide) rfl⟩
  refine own_go (fun t k => XS.ddivS X10.here hx rfl (hb hby at_93) rfl (own_scnn dhv12 dS12) dhv12 k) ?_
  show own_Go p e below _ T10 (mkF m 94 #[iv p1, iv p2, iv p3, iv p4, iv (p1 &&& 1048575), iv (p3 &&& 1048575), iv ((p2 &&& 2147483647) % 5), .val (.double dx2), .second, .val (.double dx4), .second, .val (.double dx6), .second, rv b7, .val (.double y10), .second, .val (.long (((((p1 &&& 1048575).toInt64) + (4 : Int64)) + ((p3 &&& 1048575).toInt64)) * (p4.toInt64))), .second, .unset, .unset] [(.double dx12)])
  refine own_go (fun t k => XS.dstore X10.here hx rfl (hb hby at_94) rfl (l' := #[iv p1, iv p2, iv p3, iv p4, iv (p1 &&& 1048575), iv (p3 &&& 1048575), iv ((p2 &&& 2147483647) % 5), .val (.double dx2), .second, .val (.double dx4), .second, .val (.double dx6), .second, rv b7, .val (.double y10), .second, .val (.long (((((p1 &&& 1048575).toInt64) + (4 : Int64)) + ((p3 &&& 1048575).toInt64)) * (p4.toInt64))), .second, .val (.double dx12), .second]) rfl k) ?_
  show own_Go p e below _ T10 (mkF m 96 #[iv p1, iv p2, iv p3, iv p4, iv (p1 &&& 1048575), iv (p3 &&& 1048575), iv ((p2 &&& 2147483647) % 5), .val (.double dx2), .second, .val (.double dx4), .second, .val (.double dx6), .second, rv b7, .val (.double y10), .second, .val (.long (((((p1 &&& 1048575).toInt64) + (4 : Int64)) + ((p3 &&& 1048575).toInt64)) * (p4.toInt64))), .second, .val (.double dx12), .second] [])
  refine own_go (fun t k => XS.dload X10.here hx rfl (hb hby at_96) rfl k) ?_
  show own_Go p e below _ T10 (mkF m 98 #[iv p1, iv p2, iv p3, iv p4, iv (p1 &&& 1048575), iv (p3 &&& 1048575), iv ((p2 &&& 2147483647) % 5), .val (.double dx2), .second, .val (.double dx4), .second, .val (.double dx6), .second, rv b7, .val (.double y10), .second, .val (.long (((((p1 &&& 1048575).toInt64) + (4 : Int64)) + ((p3 &&& 1048575).toInt64)) * (p4.toInt64))), .second, .val (.double dx12), .second] [(.double y10)])
  refine own_go (fun t k => XS.dload X10.here hx rfl (hb hby at_98) rfl k) ?_
  show own_Go p e below _ T10 (mkF m 100 #[iv p1, iv p2, iv p3, iv p4, iv (p1 &&& 1048575), iv (p3 &&& 1048575), iv ((p2 &&& 2147483647) % 5), .val (.double dx2), .second, .val (.double dx4), .second, .val (.double dx6), .second, rv b7, .val (.double y10), .second, .val (.long (((((p1 &&& 1048575).toInt64) + (4 : Int64)) + ((p3 &&& 1048575).toInt64)) * (p4.toInt64))), .second, .val (.double dx12), .second] [(.double dx12), (.double y10)])
  refine own_go (fun t k => XS.dcmpS X10.here hx rfl (hb hby at_100) rfl rfl k) ?_
  show own_Go p e below _ T10 (mkF m 101 #[iv p1, iv p2, iv p3, iv p4, iv (p1 &&& 1048575), iv (p3 &&& 1048575), iv ((p2 &&& 2147483647) % 5), .val (.double dx2), .second, .val (.double dx4), .second, .val (.double dx6), .second, rv b7, .val (.double y10), .second, .val (.long (((((p1 &&& 1048575).toInt64) + (4 : Int64)) + ((p3 &&& 1048575).toInt64)) * (p4.toInt64))), .second, .val (.double dx12), .second] [(.int (cmpValue (FP.dcmp y10 dx12) .l))])
  refine og_ifN X10 hx (hb hby at_101) (teq (own_cmpEq Sy10 dS12 rfl _)).2 ?_
  refine og_iconst X10 hx (hb hby at_104) ?_
  refine og_goto X10 hx 109 (hb hby at_105) (by decide) (by decide) ?_
  exact own_retI X10 hx hret hlk (hb hby at_109) rfl (by simp) (by decide) (by decide) (⟨rfl, N10⟩)
set_option maxRecDepth 65536 in
set_option maxHeartbeats 40000000 in
theorem comes_1 {Post : Tables → Env → Array Value → State → Outcome → State → Prop} (hpost : ∀ tb e args s v u, (limb_1_1.after args s (.returned v) u = true ∧ limb_1_2.after args s (.returned v) u = true ∧ True) → FrameEnd s (.returned v) u (Jvm.fieldLocs frame_1_writes args s ++ Jvm.arrayLocs frame_1_arrays args s ++ Jvm.staticLocs frame_1_statics s) 16 128 → Post tb e args s (.returned v) u) :
    ArmFor flags0 classFile x code maxLocals ret World_1 tables_1 room_1 Calls_1 rest_1 Pre_1 Post := by
  intro l hfl _ _ p e ha hc hk s m args below hf hA hF happ hP
  obtain ⟨hcalls, hrest, hpre⟩ := hP
  obtain ⟨-, -, -, hnamed, -, -, -, hat⟩ := (Spec.applies_iff hf).mp happ
  obtain ⟨hg, hn⟩ := and_e (Cond.before_iff.mp (show (Jvm.Cond.and given_1 narrow_1).before args s = true from hpre))
  obtain ⟨hcount, hk0⟩ := and_e hg
  obtain ⟨w0, w1, w2, w3, rfl⟩ : ∃ w0 w1 w2 w3 : Value, args = #[w0, w1, w2, w3] := by
    have hs : args.size = 4 := by simpa [Cond.value, given_1] using hcount
    obtain ⟨L⟩ := args
    match L, hs with
    | [w0, w1, w2, w3], _ => exact ⟨w0, w1, w2, w3, rfl⟩
  have hw := fun d (hd : d ∈ tables_1) => atoms_spec (ws := Jvm.Cond.code x code maxLocals ret :: tables_1) hat d (List.mem_cons_of_mem _ hd)
  have hfit : Fit s := fun {y c} hc i hi => by
    obtain ⟨ha, rfl⟩ := Array.getElem?_eq_some_iff.mp hc
    have q := List.all_eq_true.mp ((Array.all_eq_true_iff_forall_mem.mp hF) _ (Array.getElem_mem ha)) i (List.mem_range.mpr hi)
    simpa [Array.getElem?_eq_getElem hi] using q
  obtain ⟨hi0, hk1⟩ := and_e hk0
  obtain ⟨i0, ei0⟩ := is_v hi0
  obtain rfl : w0 = (.int i0) := Option.some.inj ei0
  obtain ⟨hi1, hk2⟩ := and_e hk1
  obtain ⟨i1, ei1⟩ := is_v hi1
  obtain rfl : w1 = (.int i1) := Option.some.inj ei1
  obtain ⟨hi2, hk3⟩ := and_e hk2
  obtain ⟨i2, ei2⟩ := is_v hi2
  obtain rfl : w2 = (.int i2) := Option.some.inj ei2
  obtain ⟨i3, ei3⟩ := is_v hk3
  obtain rfl : w3 = (.int i3) := Option.some.inj ei3
  obtain ⟨n, o, h1, h2, h3, _, L, rfl, ⟨rfl, N⟩, hq⟩ := (own_rm0 l s _ hw i0 i1 i2 i3 s.heap s.heap.size (Old.start s)) tables_1 p e ha hc hk s m _ below hf ((Spec.applies_iff_loose hf).mp happ).1 ⟨rfl, State.Warmed39.refl s, rfl⟩ trivial
  refine ⟨n, _, h1, h2, h3, hpost _ _ _ _ _ _ ⟨Cond.after_iff.mpr rfl, Cond.after_iff.mpr (eq_i res_at (Term.int_eval (1)) rfl), trivial⟩ ⟨hq.1, hq.2.1, (hq.2.2.sift fun y hy => Or.inr (N y hy)).mono (by decide) (by decide)⟩⟩
theorem main_1_1 : Claimed_1_1 := comes_1 fun _ _ _ _ _ _ h hF => ⟨h.1, hF⟩
theorem main_1_2 : Claimed_1_2 := comes_1 fun _ _ _ _ _ _ h hF => ⟨h.2.1, hF⟩
end Jvm.Pilot.@@N@@
namespace Jvm.Pilot.@@N@@
open Jvm Jvm.ClassFile Sem Op Lib Jvm.Free Jvm.Stand Jvm.Pilot.@@N@@.Jvm.D
/-! MADE BY PROGRAM (witnessworld.py) out of the Statement's table words and the real class files: 9 classes; the members and pool entries that the words name. The judged class is class 1, her method 1. -/
namespace start1
open Jvm.ClassFile
def u (s : String) : CpInfo := .utf8 (stringToUtf16 s)
/-- a pool by its gaps: so many unusable entries, then the entry; so many at the end -/
def gap : Nat → List CpInfo → List CpInfo
  | 0, r => r
  | n + 1, r => .unusable :: gap n r
def poolList (es : List (Nat × CpInfo)) (last : Nat) : List CpInfo := es.foldr (fun e r => gap e.1 (e.2 :: r)) (gap last [])
def pool (es : List (Nat × CpInfo)) (last : Nat) : Array CpInfo := ⟨poolList es last⟩
def fileOf (pool : Array CpInfo) (this : Nat) (attrs : Array Attribute := #[]) (ms : Array MethodInfo := #[]) (fl : Nat := 33) (sup : Nat := 0) (ifs : Array Nat := #[]) (fds : Array FieldInfo := #[]) : ClassFile where
  minorVersion := 0
  majorVersion := 65
  constantPool := pool
  accessFlags := fl
  thisClass := this
  superClass := sup
  interfaces := ifs
  fields := fds
  methods := ms
  attributes := attrs
def plain (name : String) (sup : Option ClassId) : Class where
  name := name
  kind := .ordinary
  loader := none
  accessFlags := 33
  super := sup
  interfaces := #[]
  cf := none
  fields := #[]
  methods := #[]
  instanceTypes := #[]
  staticTypes := #[]
  resolved := #[]
  callSites := []
  init := .initialized
  statics := none
  mirror := none

def pool0 : Array CpInfo := pool [(5, u "<init>"), (0, u "()V"), (1, .class_ 10), (1, u "java/lang/Object")] 113

def k0c0 : Code := { maxStack := 0, maxLocals := 1, code := object_method_1_code, exceptionTable := #[], attributes := #[] }
def k0m0 : Method := { name := "<init>", desc := "()V", sig := { parameters := [], returnType := none }, accessFlags := 1, code := some k0c0 }
/-- java/lang/Object -/
def k0 : Class := { plain "java/lang/Object" none with
  accessFlags := 33
  interfaces := #[]
  cf := some (fileOf pool0 8 #[] #[{ accessFlags := 1, nameIndex := 5, descriptorIndex := 6, attributes := #[] }] 33 0 #[] #[])
  fields := #[]
  methods := #[k0m0]
  instanceTypes := #[]
  staticTypes := #[]
  resolved := Array.replicate 124 none
  statics := none }

def pool1 : Array CpInfo := pool [(2, .class_ 4), (1, u "java/lang/Object"), (0, u "<init>"), (0, u "()V"), (0, .integer 1048575), (0, .integer 2147483647), (0, .double 4616189618054758400), (1, .class_ 12), (0, u "com/example/hypatia/hypatia/engine/Bm25Plus"), (0, .methodref 11 14), (0, .nameAndType 5 15), (0, u "(DDD)V"), (0, .methodref 11 17), (0, .nameAndType 18 19), (0, u "maxWeight"), (0, u "(D)D"), (0, .long 4), (1, .class_ 23), (0, u "com/example/hypatia/hypatia/engine/Bm25PlusMaxWeightPinLaw"), (2, u "law"), (0, u "(IIII)Z")] 3

def k1m0 : Method := { name := "<init>", desc := "()V", sig := { parameters := [], returnType := none }, accessFlags := 1, code := none }
def k1c1 : Code := { maxStack := 8, maxLocals := 20, code := code, exceptionTable := #[], attributes := #[] }
def k1m1 : Method := { name := "law", desc := "(IIII)Z", sig := { parameters := [.int, .int, .int, .int], returnType := some .boolean }, accessFlags := 9, code := some k1c1 }
/-- com/example/hypatia/hypatia/engine/Bm25PlusMaxWeightPinLaw -/
def k1 : Class := { plain "com/example/hypatia/hypatia/engine/Bm25PlusMaxWeightPinLaw" (some 0) with
  accessFlags := 49
  interfaces := #[]
  cf := some (fileOf pool1 22 #[] #[{ accessFlags := 1, nameIndex := 5, descriptorIndex := 6, attributes := #[] }, { accessFlags := 9, nameIndex := 26, descriptorIndex := 27, attributes := #[] }] 49 2 #[] #[])
  fields := #[]
  methods := #[k1m0, k1m1]
  instanceTypes := #[]
  staticTypes := #[]
  resolved := Array.replicate 31 none
  statics := none }

def pool2 : Array CpInfo := pool [(1, .methodref 2 3), (0, .class_ 4), (0, .nameAndType 5 6), (0, u "java/lang/Object"), (0, u "<init>"), (0, u "()V"), (2, .double 9218868437227405312), (12, .fieldref 23 24), (0, .class_ 25), (0, .nameAndType 26 27), (0, u "com/example/hypatia/hypatia/engine/Bm25Plus"), (0, u "k1"), (0, u "D"), (0, .fieldref 23 29), (0, .nameAndType 30 27), (0, u "b"), (0, .fieldref 23 32), (0, .nameAndType 33 27), (0, u "delta"), (8, u "(D)D"), (8, u "(DDD)V"), (2, u "DEFAULT"), (0, u "Lcom/example/hypatia/hypatia/engine/Bm25Plus;"), (7, u "maxWeight")] 28

def k2c0 : Code := { maxStack := 4, maxLocals := 7, code := prog_1_method_1_code, exceptionTable := #[], attributes := #[] }
def k2m0 : Method := { name := "<init>", desc := "(DDD)V", sig := { parameters := [.double, .double, .double], returnType := none }, accessFlags := 1, code := some k2c0 }
def k2c1 : Code := { maxStack := 4, maxLocals := 3, code := prog_1_method_4_code, exceptionTable := #[], attributes := #[] }
def k2m1 : Method := { name := "maxWeight", desc := "(D)D", sig := { parameters := [.double], returnType := some .double }, accessFlags := 1, code := some k2c1 }
/-- com/example/hypatia/hypatia/engine/Bm25Plus -/
def k2 : Class := { plain "com/example/hypatia/hypatia/engine/Bm25Plus" (some 0) with
  accessFlags := 49
  interfaces := #[]
  cf := some (fileOf pool2 23 #[] #[{ accessFlags := 1, nameIndex := 5, descriptorIndex := 51, attributes := #[] }, { accessFlags := 1, nameIndex := 63, descriptorIndex := 42, attributes := #[] }] 49 2 #[] #[{ accessFlags := 25, nameIndex := 54, descriptorIndex := 55, attributes := #[] }, { accessFlags := 18, nameIndex := 26, descriptorIndex := 27, attributes := #[] }, { accessFlags := 18, nameIndex := 30, descriptorIndex := 27, attributes := #[] }, { accessFlags := 18, nameIndex := 33, descriptorIndex := 27, attributes := #[] }])
  fields := #[{ name := "DEFAULT", type := (.object "com/example/hypatia/hypatia/engine/Bm25Plus"), accessFlags := 25, slot := 0, constantValue := 0 }, { name := "k1", type := .double, accessFlags := 18, slot := 0, constantValue := 0 }, { name := "b", type := .double, accessFlags := 18, slot := 1, constantValue := 0 }, { name := "delta", type := .double, accessFlags := 18, slot := 2, constantValue := 0 }]
  methods := #[k2m0, k2m1]
  instanceTypes := #[.double, .double, .double]
  staticTypes := #[(.object "com/example/hypatia/hypatia/engine/Bm25Plus")]
  resolved := Array.replicate 92 none
  statics := none }

def pool3 : Array CpInfo := pool [(1, u "java/lang/Cloneable"), (0, .class_ 1), (0, u "java/lang/Object"), (0, .class_ 3)] 3

/-- java/lang/Cloneable -/
def k3 : Class := { plain "java/lang/Cloneable" (some 0) with
  accessFlags := 1537
  interfaces := #[]
  cf := some (fileOf pool3 2 #[] #[] 1537 4 #[] #[])
  fields := #[]
  methods := #[]
  instanceTypes := #[]
  staticTypes := #[]
  resolved := Array.replicate 8 none
  statics := none }

def pool4 : Array CpInfo := pool [(1, u "java/io/Serializable"), (0, .class_ 1), (0, u "java/lang/Object"), (0, .class_ 3)] 3

/-- java/io/Serializable -/
def k4 : Class := { plain "java/io/Serializable" (some 0) with
  accessFlags := 1537
  interfaces := #[]
  cf := some (fileOf pool4 2 #[] #[] 1537 4 #[] #[])
  fields := #[]
  methods := #[]
  instanceTypes := #[]
  staticTypes := #[]
  resolved := Array.replicate 8 none
  statics := none }

/-- the primitive byte -/
def k5 : Class := { plain "byte" none with kind := .primitive 'B', accessFlags := 0x411 }
/-- [B -/
def k6 : Class := { plain "[B" (some 0) with kind := .array 5 .byte, interfaces := #[3, 4], accessFlags := 1041 }

/-- the primitive int -/
def k7 : Class := { plain "int" none with kind := .primitive 'I', accessFlags := 0x411 }
/-- [I -/
def k8 : Class := { plain "[I" (some 0) with kind := .array 7 .int, interfaces := #[3, 4], accessFlags := 1041 }

def heap : Heap := #[]
def classes : Array Class := #[k0, k1, k2, k3, k4, k5, k6, k7, k8]
def interned : List (Array UInt16 × Addr) := []
def slotsUsed : Nat := 0
def theMethod : MethodId := ⟨1, 1⟩
def args0 : Array Value := #[.int 5, .int 6, .int 7, .int 8]
def aboutOver (below : List Frame) : State where
  vm := { classes := classes, interned := interned.toArray }
  heap := heap
  slotsUsed := slotsUsed
  threads := #[{ frames := .invoking theMethod args0 :: below }]
def below0 : List Frame := [.native { method := ⟨0, 0⟩, args := #[] }]
def about1 : State := aboutOver below0
def p0 : Program := .bare "" "" ""
def e0 : Env := launch0.env 0 0 0
theorem w_frames : about1.frames = Frame.invoking theMethod args0 :: below0 := rfl
set_option maxRecDepth 65536 in
theorem w_args : argsFit about1.vm theMethod args0 = true := by decide +kernel
set_option maxRecDepth 65536 in
theorem w_heap : heapFits about1 = true := by decide +kernel
set_option maxRecDepth 65536 in
theorem w_runnable : about1.curStatus? = some .runnable := by decide +kernel
set_option maxRecDepth 65536 in
theorem w_alone : about1.alone = true := by decide +kernel
set_option maxRecDepth 65536 in
theorem w_named : about1.methodNamed? x = some theMethod := by decide +kernel
set_option maxRecDepth 65536 in
theorem w_hears : about1.hears theMethod below0 = true := by decide +kernel
set_option maxRecDepth 65536 in
theorem w_ripe : about1.ripe theMethod args0 below0 = true := by decide +kernel
theorem w_running : about1.status = .running := rfl
set_option maxRecDepth 65536 in
theorem w_room : about1.hasRoom e0.platform room_1 = true :=
  launch0.hasRoom_least _ room_1 (by decide +kernel) (by decide +kernel) (by decide +kernel) (by decide +kernel) (by decide +kernel) (by decide +kernel)
theorem allAtoms_all (ts : List Jvm.Cond) (a : Array Jvm.Value) (st : Jvm.State) : (allAtoms ts).before a st = ts.all (fun c => c.before a st) := by
  induction ts with
  | nil => rfl
  | cons c t ih =>
    show (Jvm.Cond.and c (allAtoms t)).before a st = _
    rw [Jvm.Cond.before_and, ih, List.all_cons]
def words1 : List Jvm.Cond := Jvm.Cond.code x code maxLocals ret :: tables_1
/-- a 'code' word, met by the world's own term for the bytes: nothing is compared byte by byte -/
theorem code_word {y : MethodName} {bytes : ByteArray} {mx : Nat} {rt : Option FieldType} {a : Array Value} {s : State} {m : MethodId} {meth : Method} {c : Code} (h1 : s.methodNamed? y = some m) (h2 : s.vm.method? m = some meth) (h3 : meth.code = some c) (h4 : c.code = bytes)
    (h5 : (c.maxLocals == mx && c.exceptionTable.isEmpty && decide (c.maxStack ≤ mostOperands) && decide (meth.sig.returnType = rt) && !meth.locks && decide (parseMethodDescriptor y.desc = some meth.sig)) = true) : (Jvm.Cond.code y bytes mx rt).before a s = true := by
  simp only [Bool.and_eq_true, beq_iff_eq, Bool.not_eq_true', decide_eq_true_eq] at h5
  obtain ⟨⟨⟨⟨⟨g1, g2⟩, g3⟩, g4⟩, g5⟩, g6⟩ := h5
  simp [Cond.before, Cond.holds, Cond.value, h1, h2, h3, h4, g1, g2, g3, g4, g5, g6]
def isCode : Jvm.Cond → Bool
  | .code _ _ _ _ => true
  | _ => false
theorem all_split {L : List Jvm.Cond} {P : Jvm.Cond → Bool} (h1 : L.all (fun c => isCode c || P c) = true) (h2 : ∀ c ∈ L.filter isCode, P c = true) : L.all P = true := by
  refine List.all_eq_true.mpr fun c hc => ?_
  have h := List.all_eq_true.mp h1 c hc
  rcases Bool.eq_false_or_eq_true (isCode c) with hi | hi
  · exact h2 c (List.mem_filter.mpr ⟨hc, hi⟩)
  · simpa [hi] using h
set_option maxRecDepth 65536 in
theorem w_c0 : (Jvm.Cond.code x code maxLocals ret).before args0 about1 = true := code_word (m := ⟨1, 1⟩) (meth := k1m1) (c := k1c1) (by decide +kernel) rfl rfl rfl (by decide +kernel)
set_option maxRecDepth 65536 in
theorem w_c1 : (Jvm.Cond.code ({ cls := "com/example/hypatia/hypatia/engine/Bm25Plus", name := "<init>", desc := "(DDD)V" } : Jvm.MethodName) prog_1_method_1_code (7 : Nat) (Option.none : Option Jvm.ClassFile.FieldType)).before args0 about1 = true := code_word (m := ⟨2, 0⟩) (meth := k2m0) (c := k2c0) (by decide +kernel) rfl rfl rfl (by decide +kernel)
set_option maxRecDepth 65536 in
theorem w_c2 : (Jvm.Cond.code ({ cls := "java/lang/Object", name := "<init>", desc := "()V" } : Jvm.MethodName) object_method_1_code (1 : Nat) (Option.none : Option Jvm.ClassFile.FieldType)).before args0 about1 = true := code_word (m := ⟨0, 0⟩) (meth := k0m0) (c := k0c0) (by decide +kernel) rfl rfl rfl (by decide +kernel)
set_option maxRecDepth 65536 in
theorem w_c3 : (Jvm.Cond.code ({ cls := "com/example/hypatia/hypatia/engine/Bm25Plus", name := "maxWeight", desc := "(D)D" } : Jvm.MethodName) prog_1_method_4_code (3 : Nat) (Option.some Jvm.ClassFile.FieldType.double)).before args0 about1 = true := code_word (m := ⟨2, 1⟩) (meth := k2m1) (c := k2c1) (by decide +kernel) rfl rfl rfl (by decide +kernel)
def codes1 : List Jvm.Cond := [Jvm.Cond.code x code maxLocals ret, Jvm.Cond.code ({ cls := "com/example/hypatia/hypatia/engine/Bm25Plus", name := "<init>", desc := "(DDD)V" } : Jvm.MethodName) prog_1_method_1_code (7 : Nat) (Option.none : Option Jvm.ClassFile.FieldType), Jvm.Cond.code ({ cls := "java/lang/Object", name := "<init>", desc := "()V" } : Jvm.MethodName) object_method_1_code (1 : Nat) (Option.none : Option Jvm.ClassFile.FieldType), Jvm.Cond.code ({ cls := "com/example/hypatia/hypatia/engine/Bm25Plus", name := "maxWeight", desc := "(D)D" } : Jvm.MethodName) prog_1_method_4_code (3 : Nat) (Option.some Jvm.ClassFile.FieldType.double)]
set_option maxRecDepth 65536 in
theorem codes_eq : words1.filter isCode = codes1 := rfl
theorem w_codes : ∀ c ∈ words1.filter isCode, c.before args0 about1 = true := by
  rw [codes_eq]
  intro c hc
  simp only [codes1, List.mem_cons, List.not_mem_nil, or_false] at hc
  rcases hc with rfl | rfl | rfl | rfl
  · exact w_c0
  · exact w_c1
  · exact w_c2
  · exact w_c3
set_option maxRecDepth 65536 in
theorem w_t1 : (words1.take 24).all (fun c => isCode c || c.before args0 about1) = true := by decide +kernel
set_option maxRecDepth 65536 in
theorem w_t2 : (words1.drop 24).all (fun c => isCode c || c.before args0 about1) = true := by decide +kernel
theorem w_tables : (allAtoms (Jvm.Cond.code x code maxLocals ret :: tables_1)).before args0 about1 = true := by
  rw [allAtoms_all]
  show words1.all (fun c => c.before args0 about1) = true
  refine all_split ?_ w_codes
  rw [← List.take_append_drop 24 words1, List.all_append, w_t1, w_t2]
  rfl
set_option maxRecDepth 65536 in
theorem w_case : (Jvm.Cond.and given_1 narrow_1).before args0 about1 = true := by decide +kernel
theorem w_applies : (headSpec (Jvm.Cond.code x code maxLocals ret :: tables_1) room_1).applies x e0.platform about1 = true :=
  (Spec.applies_iff w_frames).mpr ⟨w_running, w_runnable, w_alone, w_named, w_hears, w_ripe, w_room, w_tables⟩
theorem atStart : AtStart classFile x code maxLocals ret World_1 tables_1 room_1 Calls_1 rest_1 Pre_1 launch0 p0 e0 about1 theMethod args0 below0 :=
  ⟨lists_1, trivial, launch0.admits_env _ _ _, launch0.least_env, fairChoices_fair.cas, fairChoices_fair.clock, w_frames, w_args, w_heap, w_applies, trivial, trivial, w_case⟩
end start1
theorem witness_1 : WitnessClaimed_1 := ⟨start1.p0, start1.e0, start1.about1, start1.theMethod, start1.args0, start1.below0, start1.atStart⟩
end Jvm.Pilot.@@N@@
