import JvmDerived
import JvmDerived.Pilot.@@N@@Statement
import JvmDerived.Pilot.@@N@@Code
set_option linter.unusedVariables false
set_option linter.unusedSimpArgs false
@@BLOCK:NumsL.lean.txt@@
namespace Jvm.Pilot.@@N@@
set_option maxRecDepth 65536
set_option maxHeartbeats 40000000
open Jvm Jvm.ClassFile Sem Op Lib Jvm.Free Jvm.Stand Jvm.LawKit Jvm.RoadKit Bundle Jvm.Pilot.@@N@@.Jvm.D
abbrev own_W (a0 : Array Value) (Z : State) : Prop := ∀ d ∈ tables_1, d.before a0 Z = true
theorem own_i32 {x : Int32} (k : Int32) {n : Int} (e : k.toInt = n) (h : x.toInt = n) : x = k := Int32.toInt_inj.mp (h.trans e.symm)
section Own
variable {p : Program} {l : Launch} {e : Env} {R : Room} {s : State} {m : MethodId} {args : Array Value} {below : List Frame} {meth : Method} {c : Code} {T T' : State} {locs : List Loc} {cells slots : Nat} {Z : State} {a0 : Array Value} {h : Heap} {P : Outcome → State → Prop}
theorem own_hw {L : List Jvm.Cond} (hw : ∀ d ∈ L, d.before a0 Z = true) (i : Nat) {d : Jvm.Cond} (q : L[i]? = some d) : d.before a0 Z = true := hw d (List.mem_of_getElem? q)
/-- from here the run comes to an end that P allows -/
def own_Go (p : Program) (e : Env) (below : List Frame) (P : Outcome → State → Prop) (T : State) (g : JFrame) : Prop :=
  ∃ s₂ o, Steps p.tables e below (T.setTop g) s₂ ∧ s₂.status = .running ∧ Ended s₂ below o ∧ P o s₂
theorem own_go {g g' : JFrame} (h : ∀ t, Steps p.tables e below (T'.setTop g') t → Steps p.tables e below (T.setTop g) t) (k : own_Go p e below P T' g') : own_Go p e below P T g := by
  obtain ⟨s₂, o, h1, h2⟩ := k
  exact ⟨s₂, o, h _ h1, h2⟩
theorem own_cut {α : Type} {g : JFrame} {F : α → JFrame} (tl : ∀ v, own_Go p e below P T (F v)) (k : (∀ v, own_Go p e below P T (F v)) → own_Go p e below P T g) : own_Go p e below P T g := k tl
theorem own_laid1 {v : Value} (h : v.isRef = true) : Jvm.Sym.laidSlots [v] = [.val v] := by
  have hc : ¬ v.category = 2 := by cases v <;> first | (intro q; cases q; done) | (cases h; done)
  show (if v.category = 2 then Slot.val v :: .second :: Jvm.Sym.laidSlots [] else Slot.val v :: Jvm.Sym.laidSlots []) = _
  rw [if_neg hc]; rfl
theorem own_frame {m : MethodId} {as' : Array Value} {n : Nat} {L : List Slot} {ls : Array Slot} (hl : Jvm.Sym.laidSlots as'.toList = L) (h : L ++ List.replicate (n - L.length) .unset = ls.toList) : entryFrame m as' n = mkF m 0 ls [] := by
  show mkF m 0 (argsToLocals as' n) [] = _
  have e := Jvm.Sym.argsToLocals_toList as' n
  rw [hl] at e
  rw [show argsToLocals as' n = ls from Array.toList_inj.mp (e.trans h)]
theorem own_cast {g g' : JFrame} (q : g = g') (k : own_Go p e below P T g') : own_Go p e below P T g := q ▸ k
/-- what a body leaves: Q of its answer, of the heap and of the places written; no more cells and slots than k and n -/
def own_End (s : State) (Q : Option Value → Heap → List Loc → Prop) (k n : Nat) (o : Outcome) (t : State) : Prop := ∃ v L, o = .returned v ∧ Q v t.heap L ∧ FrameEnd s o t L k n
/-- a body's contract, at one heap and one list of arguments -/
def own_Met (l : Launch) (Z : State) (y : MethodName) (bytes : ByteArray) (maxL : Nat) (ret : Option FieldType) (rm : Room) (as' : Array Value) (h0 : Heap) (Q : Option Value → Heap → List Loc → Prop) : Prop :=
  ∀ ws : List Jvm.Cond, MetFree l y (head1 (Jvm.Cond.code y bytes maxL ret :: ws) rm) (fun a U => a = as' ∧ Z.Warmed39 U.vm ∧ U.heap = h0) (fun _ _ _ _ _ => True) (fun _ U o U' => ∃ v L, o = .returned v ∧ Q v U'.heap L ∧ FrameEnd U o U' L rm.cells rm.slots)
theorem own_body {y : MethodName} {bytes : ByteArray} {maxL : Nat} {ret : Option FieldType} {rm : Room} {as' : Array Value} {h0 : Heap} {Q : Option Value → Heap → List Loc → Prop} (hp : plainFor y = true)
    (k : ∀ (p : Program) (e : Env) (s : State) (m : MethodId) (below : List Frame) (meth : Method) (c : Code) (T : State), Stand p l e rm s m as' below meth c T [] 0 0 → p.tables.exec = Jvm.exec → Z.Warmed39 s.vm → c.code = bytes → c.maxLocals = maxL → s.vm.findClass y.cls = some m.cls → meth.name = y.name →
      meth.sig.returnType = ret → meth.locks = false → T.heap = h0 → own_Go p e below (own_End s Q rm.cells rm.slots) T (entryFrame m as' maxL)) : own_Met l Z y bytes maxL ret rm as' h0 Q := by
  intro ws
  refine MetFree.of_bodySF hp hisR ?_
  intro p e s m args below meth c s₁ Bd hml0 hP hK
  obtain ⟨rfl, hZ, hh⟩ := hP
  exact k p e s m below meth c s₁ (Stand.of_body Bd) Bd.exec hZ Bd.bytes hml0 (findClass_of_methodNamed Bd.named) (name_of_methodNamed Bd.named Bd.method).1 Bd.returns Bd.notSynchronized (by rw [← hh, Bd.state]; rfl)
/-- a return with a value -/
theorem own_ret (X : Stand p l e R s m args below meth c T locs cells slots) (hx : p.tables.exec = Jvm.exec) {pc : Nat} {Ls : Array Slot} {w : Value} {t : FieldType} {i : Instr} {rest : List Value} (hret : meth.sig.returnType = some t) (hlk : meth.locks = false) (hd : decode c.code pc = .ok (i, 1)) (hn : narrow t w = w)
    (hi : (i = .ireturn ∧ (t = .int ∨ t = .boolean ∨ t = .byte ∨ t = .char ∨ t = .short) ∧ ∃ z, w = .int z) ∨ (i = .lreturn ∧ t = .long ∧ ∃ z, w = .long z) ∨ (i = .dreturn ∧ t = .double ∧ ∃ z, w = .double z) ∨ (i = .freturn ∧ t = .float ∧ ∃ z, w = .float z) ∨ (i = .areturn ∧ t.isReference = true ∧ w.isRef = true))
    {Q : Option Value → Heap → List Loc → Prop} {kc kn : Nat} (hc : cells ≤ kc) (hs : slots ≤ kn) (hQ : Q (some w) T.heap locs) : own_Go p e below (own_End s Q kc kn) T (mkF m pc Ls (w :: rest)) := by
  obtain ⟨fs, hr, hrun, hended, hW, hsame⟩ := X.leave (v := some w) (fun h => by rw [hret] at h; cases h) hlk
  exact ⟨_, _, retOut X hx hret hn hi hd hr, hrun, hended, _, _, rfl, hQ, ⟨_, rfl⟩, hW, hsame.mono hc hs⟩
theorem own_retI (X : Stand p l e R s m args below meth c T locs cells slots) (hx : p.tables.exec = Jvm.exec) {pc : Nat} {Ls : Array Slot} {z : Int32} {t : FieldType} {rest : List Value} (hret : meth.sig.returnType = some t) (hlk : meth.locks = false) (hd : decode c.code pc = .ok (.ireturn, 1)) (hn : narrow t (.int z) = .int z)
    (ht : t = .int ∨ t = .boolean ∨ t = .byte ∨ t = .char ∨ t = .short) {Q : Option Value → Heap → List Loc → Prop} {kc kn : Nat} (hc : cells ≤ kc) (hs : slots ≤ kn) (hQ : Q (some (.int z)) T.heap locs) : own_Go p e below (own_End s Q kc kn) T (mkF m pc Ls (.int z :: rest)) :=
  own_ret X hx hret hlk hd hn (Or.inl ⟨rfl, ht, z, rfl⟩) hc hs hQ
theorem own_retA (X : Stand p l e R s m args below meth c T locs cells slots) (hx : p.tables.exec = Jvm.exec) {pc : Nat} {Ls : Array Slot} {w : Value} {t : FieldType} {rest : List Value} (hret : meth.sig.returnType = some t) (hlk : meth.locks = false) (hd : decode c.code pc = .ok (.areturn, 1)) (ht : t.isReference = true) (hw : w.isRef = true)
    {Q : Option Value → Heap → List Loc → Prop} {kc kn : Nat} (hc : cells ≤ kc) (hs : slots ≤ kn) (hQ : Q (some w) T.heap locs) : own_Go p e below (own_End s Q kc kn) T (mkF m pc Ls (w :: rest)) :=
  own_ret X hx hret hlk hd (by cases t <;> first | rfl | (cases w <;> rfl) | (simp [FieldType.isReference] at ht)) (Or.inr (Or.inr (Or.inr (Or.inr ⟨rfl, ht, hw⟩)))) hc hs hQ
theorem own_retV (X : Stand p l e R s m args below meth c T locs cells slots) (hx : p.tables.exec = Jvm.exec) {pc : Nat} {Ls : Array Slot} (hret : meth.sig.returnType = none) (hlk : meth.locks = false) (hd : decode c.code pc = .ok (.return_, 1))
    {Q : Option Value → Heap → List Loc → Prop} {kc kn : Nat} (hc : cells ≤ kc) (hs : slots ≤ kn) (hQ : Q none T.heap locs) : own_Go p e below (own_End s Q kc kn) T (mkF m pc Ls []) := by
  obtain ⟨fs, hr, hrun, hended, hW, hsame⟩ := X.leave (v := none) (fun _ => rfl) hlk
  exact ⟨_, _, X.returnOut hx hret hd hr, hrun, hended, _, _, rfl, hQ, ⟨_, rfl⟩, hW, hsame.mono hc hs⟩
section Og
variable {pc : Nat} {Ls : Array Slot} {st : List Value}
theorem og_iload (X : Stand p l e R s m args below meth c T locs cells slots) (hx : p.tables.exec = Jvm.exec) {k : Nat} {v : Int32} (hd : decode c.code pc = .ok (.iload k, 2)) (hl : Ls[k]? = some (.val (.int v))) (kk : own_Go p e below P T (mkF m (pc + 2) Ls (.int v :: st))) : own_Go p e below P T (mkF m pc Ls st) :=
  own_go (fun _ q => XS.iload X.here hx rfl hd hl q) kk
theorem og_iloadN (X : Stand p l e R s m args below meth c T locs cells slots) (hx : p.tables.exec = Jvm.exec) {k : Fin 4} {v : Int32} (hd : decode c.code pc = .ok (.iload_n k, 1)) (hl : Ls[k.val]? = some (.val (.int v))) (kk : own_Go p e below P T (mkF m (pc + 1) Ls (.int v :: st))) : own_Go p e below P T (mkF m pc Ls st) :=
  own_go (fun _ q => XS.iloadN X.here hx rfl hd hl q) kk
theorem og_aload (X : Stand p l e R s m args below meth c T locs cells slots) (hx : p.tables.exec = Jvm.exec) {k : Nat} {v : Value} (hd : decode c.code pc = .ok (.aload k, 2)) (hl : Ls[k]? = some (.val v)) (hv : v.isRef = true) (kk : own_Go p e below P T (mkF m (pc + 2) Ls (v :: st))) : own_Go p e below P T (mkF m pc Ls st) :=
  own_go (fun _ q => XS.aload X.here hx rfl hd hl hv q) kk
theorem og_aloadN (X : Stand p l e R s m args below meth c T locs cells slots) (hx : p.tables.exec = Jvm.exec) {k : Fin 4} {v : Value} (hd : decode c.code pc = .ok (.aload_n k, 1)) (hl : Ls[k.val]? = some (.val v)) (hv : v.isRef = true) (kk : own_Go p e below P T (mkF m (pc + 1) Ls (v :: st))) : own_Go p e below P T (mkF m pc Ls st) :=
  own_go (fun _ q => XS.aloadN X.here hx rfl hd hl hv q) kk
theorem og_lload (X : Stand p l e R s m args below meth c T locs cells slots) (hx : p.tables.exec = Jvm.exec) {k : Nat} {v : Int64} (hd : decode c.code pc = .ok (.lload k, 2)) (hl : Ls[k]? = some (.val (.long v))) (kk : own_Go p e below P T (mkF m (pc + 2) Ls (.long v :: st))) : own_Go p e below P T (mkF m pc Ls st) :=
  own_go (fun _ q => XS.lload X.here hx rfl hd hl q) kk
theorem og_lloadN (X : Stand p l e R s m args below meth c T locs cells slots) (hx : p.tables.exec = Jvm.exec) {k : Fin 4} {v : Int64} (hd : decode c.code pc = .ok (.lload_n k, 1)) (hl : Ls[k.val]? = some (.val (.long v))) (kk : own_Go p e below P T (mkF m (pc + 1) Ls (.long v :: st))) : own_Go p e below P T (mkF m pc Ls st) :=
  own_go (fun _ q => XS.lloadN X.here hx rfl hd hl q) kk
theorem og_istore (X : Stand p l e R s m args below meth c T locs cells slots) (hx : p.tables.exec = Jvm.exec) {k : Nat} {x : Int32} (l' : Array Slot) (hd : decode c.code pc = .ok (.istore k, 2)) (hl : storeLocals Ls k (.int x) = some l') (kk : own_Go p e below P T (mkF m (pc + 2) l' st)) : own_Go p e below P T (mkF m pc Ls (.int x :: st)) :=
  own_go (fun _ q => XS.istore X.here hx rfl hd rfl hl q) kk
theorem og_istoreN (X : Stand p l e R s m args below meth c T locs cells slots) (hx : p.tables.exec = Jvm.exec) {k : Fin 4} {x : Int32} (l' : Array Slot) (hd : decode c.code pc = .ok (.istore_n k, 1)) (hl : storeLocals Ls k.val (.int x) = some l') (kk : own_Go p e below P T (mkF m (pc + 1) l' st)) : own_Go p e below P T (mkF m pc Ls (.int x :: st)) :=
  own_go (fun _ q => XS.istoreN X.here hx rfl hd rfl hl q) kk
theorem og_lstore (X : Stand p l e R s m args below meth c T locs cells slots) (hx : p.tables.exec = Jvm.exec) {k : Nat} {x : Int64} (l' : Array Slot) (hd : decode c.code pc = .ok (.lstore k, 2)) (hl : storeLocals Ls k (.long x) = some l') (kk : own_Go p e below P T (mkF m (pc + 2) l' st)) : own_Go p e below P T (mkF m pc Ls (.long x :: st)) :=
  own_go (fun _ q => XS.lstore X.here hx rfl hd rfl hl q) kk
theorem og_lstoreN (X : Stand p l e R s m args below meth c T locs cells slots) (hx : p.tables.exec = Jvm.exec) {k : Fin 4} {x : Int64} (l' : Array Slot) (hd : decode c.code pc = .ok (.lstore_n k, 1)) (hl : storeLocals Ls k.val (.long x) = some l') (kk : own_Go p e below P T (mkF m (pc + 1) l' st)) : own_Go p e below P T (mkF m pc Ls (.long x :: st)) :=
  own_go (fun _ q => XS.lstoreN X.here hx rfl hd rfl hl q) kk
theorem og_astore (X : Stand p l e R s m args below meth c T locs cells slots) (hx : p.tables.exec = Jvm.exec) {k : Nat} {x : Value} (l' : Array Slot) (hd : decode c.code pc = .ok (.astore k, 2)) (hv : x.isRef = true) (hl : storeLocals Ls k x = some l') (kk : own_Go p e below P T (mkF m (pc + 2) l' st)) : own_Go p e below P T (mkF m pc Ls (x :: st)) :=
  own_go (fun _ q => XS.astore X.here hx rfl hd rfl hv hl q) kk
theorem og_astoreN (X : Stand p l e R s m args below meth c T locs cells slots) (hx : p.tables.exec = Jvm.exec) {k : Fin 4} {x : Value} (l' : Array Slot) (hd : decode c.code pc = .ok (.astore_n k, 1)) (hv : x.isRef = true) (hl : storeLocals Ls k.val x = some l') (kk : own_Go p e below P T (mkF m (pc + 1) l' st)) : own_Go p e below P T (mkF m pc Ls (x :: st)) :=
  own_go (fun _ q => XS.astoreN X.here hx rfl hd rfl hv hl q) kk
theorem og_iconst (X : Stand p l e R s m args below meth c T locs cells slots) (hx : p.tables.exec = Jvm.exec) {i : Int} (hd : decode c.code pc = .ok (.iconst i, 1)) (kk : own_Go p e below P T (mkF m (pc + 1) Ls (.int (Int32.ofInt i) :: st))) : own_Go p e below P T (mkF m pc Ls st) :=
  own_go (fun _ q => XS.iconst X.here hx rfl hd q) kk
theorem og_bipush (X : Stand p l e R s m args below meth c T locs cells slots) (hx : p.tables.exec = Jvm.exec) {i : Int} (hd : decode c.code pc = .ok (.bipush i, 2)) (kk : own_Go p e below P T (mkF m (pc + 2) Ls (.int (Int8.ofInt i).toInt32 :: st))) : own_Go p e below P T (mkF m pc Ls st) :=
  own_go (fun _ q => XS.bipush X.here hx rfl hd q) kk
theorem og_sipush (X : Stand p l e R s m args below meth c T locs cells slots) (hx : p.tables.exec = Jvm.exec) {i : Int} (hd : decode c.code pc = .ok (.sipush i, 3)) (kk : own_Go p e below P T (mkF m (pc + 3) Ls (.int (Int16.ofInt i).toInt32 :: st))) : own_Go p e below P T (mkF m pc Ls st) :=
  own_go (fun _ q => XS.sipush X.here hx rfl hd q) kk
theorem og_lconst (X : Stand p l e R s m args below meth c T locs cells slots) (hx : p.tables.exec = Jvm.exec) {k : Fin 2} (hd : decode c.code pc = .ok (.lconst k, 1)) (kk : own_Go p e below P T (mkF m (pc + 1) Ls (.long (Int64.ofNat k) :: st))) : own_Go p e below P T (mkF m pc Ls st) :=
  own_go (fun _ q => XS.lconst X.here hx rfl hd q) kk
theorem og_null (X : Stand p l e R s m args below meth c T locs cells slots) (hx : p.tables.exec = Jvm.exec) (hd : decode c.code pc = .ok (.aconst_null, 1)) (kk : own_Go p e below P T (mkF m (pc + 1) Ls (.null :: st))) : own_Go p e below P T (mkF m pc Ls st) :=
  own_go (fun _ q => XS.aconstNull X.here hx rfl hd q) kk
theorem og_iadd (X : Stand p l e R s m args below meth c T locs cells slots) (hx : p.tables.exec = Jvm.exec) {x y : Int32} (hd : decode c.code pc = .ok (.iadd, 1)) (kk : own_Go p e below P T (mkF m (pc + 1) Ls (.int (x + y) :: st))) : own_Go p e below P T (mkF m pc Ls (.int y :: .int x :: st)) :=
  own_go (fun _ q => XS.iadd X.here hx rfl hd rfl q) kk
theorem og_isub (X : Stand p l e R s m args below meth c T locs cells slots) (hx : p.tables.exec = Jvm.exec) {x y : Int32} (hd : decode c.code pc = .ok (.isub, 1)) (kk : own_Go p e below P T (mkF m (pc + 1) Ls (.int (x - y) :: st))) : own_Go p e below P T (mkF m pc Ls (.int y :: .int x :: st)) :=
  own_go (fun _ q => XS.isub X.here hx rfl hd rfl q) kk
theorem og_iand (X : Stand p l e R s m args below meth c T locs cells slots) (hx : p.tables.exec = Jvm.exec) {x y : Int32} (hd : decode c.code pc = .ok (.iand, 1)) (kk : own_Go p e below P T (mkF m (pc + 1) Ls (.int (x &&& y) :: st))) : own_Go p e below P T (mkF m pc Ls (.int y :: .int x :: st)) :=
  own_go (fun _ q => XS.iand X.here hx rfl hd rfl q) kk
theorem og_imul (X : Stand p l e R s m args below meth c T locs cells slots) (hx : p.tables.exec = Jvm.exec) {x y : Int32} (hd : decode c.code pc = .ok (.imul, 1)) (kk : own_Go p e below P T (mkF m (pc + 1) Ls (.int (x * y) :: st))) : own_Go p e below P T (mkF m pc Ls (.int y :: .int x :: st)) :=
  own_go (fun _ q => XS.imul X.here hx rfl hd rfl q) kk
theorem og_ior (X : Stand p l e R s m args below meth c T locs cells slots) (hx : p.tables.exec = Jvm.exec) {x y : Int32} (hd : decode c.code pc = .ok (.ior, 1)) (kk : own_Go p e below P T (mkF m (pc + 1) Ls (.int (x ||| y) :: st))) : own_Go p e below P T (mkF m pc Ls (.int y :: .int x :: st)) :=
  own_go (fun _ q => XS.ior X.here hx rfl hd rfl q) kk
theorem og_ixor (X : Stand p l e R s m args below meth c T locs cells slots) (hx : p.tables.exec = Jvm.exec) {x y : Int32} (hd : decode c.code pc = .ok (.ixor, 1)) (kk : own_Go p e below P T (mkF m (pc + 1) Ls (.int (x ^^^ y) :: st))) : own_Go p e below P T (mkF m pc Ls (.int y :: .int x :: st)) :=
  own_go (fun _ q => XS.ixor X.here hx rfl hd rfl q) kk
theorem og_dup (X : Stand p l e R s m args below meth c T locs cells slots) (hx : p.tables.exec = Jvm.exec) {x : Value} (hd : decode c.code pc = .ok (.dup, 1)) (hc : x.category = 1) (kk : own_Go p e below P T (mkF m (pc + 1) Ls (x :: x :: st))) : own_Go p e below P T (mkF m pc Ls (x :: st)) :=
  own_go (fun _ q => XS.dup X.here hx rfl hd rfl hc q) kk
theorem og_pop (X : Stand p l e R s m args below meth c T locs cells slots) (hx : p.tables.exec = Jvm.exec) {x : Value} (hd : decode c.code pc = .ok (.pop, 1)) (hc : x.category = 1) (kk : own_Go p e below P T (mkF m (pc + 1) Ls st)) : own_Go p e below P T (mkF m pc Ls (x :: st)) :=
  own_go (fun _ q => XS.pop X.here hx rfl hd rfl hc q) kk
theorem og_goto (X : Stand p l e R s m args below meth c T locs cells slots) (hx : p.tables.exec = Jvm.exec) {o : Int} (pc' : Nat) (hd : decode c.code pc = .ok (.goto o, 3)) (ho : 0 ≤ (pc : Int) + o) (hp : ((pc : Int) + o).toNat = pc') (kk : own_Go p e below P T (mkF m pc' Ls st)) : own_Go p e below P T (mkF m pc Ls st) :=
  own_go (fun _ q => XS.goto X.here hx rfl rfl hd ho hp q) kk
theorem og_ifN (X : Stand p l e R s m args below meth c T locs cells slots) (hx : p.tables.exec = Jvm.exec) {cd : ClassFile.Cond} {o : Int} {x : Int32} (hd : decode c.code pc = .ok (.ifCond cd o, 3)) (hc : if_icmp.holds cd x 0 = false) (kk : own_Go p e below P T (mkF m (pc + 3) Ls st)) : own_Go p e below P T (mkF m pc Ls (.int x :: st)) :=
  own_go (fun _ q => XS.ifNo X.here hx rfl hd rfl ((if0 _ _).trans hc) q) kk
theorem og_ifY (X : Stand p l e R s m args below meth c T locs cells slots) (hx : p.tables.exec = Jvm.exec) {cd : ClassFile.Cond} {o : Int} {x : Int32} (pc' : Nat) (hd : decode c.code pc = .ok (.ifCond cd o, 3)) (hc : if_icmp.holds cd x 0 = true) (ho : 0 ≤ (pc : Int) + o) (hp : ((pc : Int) + o).toNat = pc') (kk : own_Go p e below P T (mkF m pc' Ls st)) : own_Go p e below P T (mkF m pc Ls (.int x :: st)) :=
  own_go (fun _ q => XS.ifYes X.here hx rfl rfl hd rfl ((if0 _ _).trans hc) ho hp q) kk
theorem og_icN (X : Stand p l e R s m args below meth c T locs cells slots) (hx : p.tables.exec = Jvm.exec) {cd : ClassFile.Cond} {o : Int} {x y : Int32} (hd : decode c.code pc = .ok (.if_icmp cd o, 3)) (hc : if_icmp.holds cd x y = false) (kk : own_Go p e below P T (mkF m (pc + 3) Ls st)) : own_Go p e below P T (mkF m pc Ls (.int y :: .int x :: st)) :=
  own_go (fun _ q => XS.icmpNo X.here hx rfl hd rfl hc q) kk
theorem og_icY (X : Stand p l e R s m args below meth c T locs cells slots) (hx : p.tables.exec = Jvm.exec) {cd : ClassFile.Cond} {o : Int} {x y : Int32} (pc' : Nat) (hd : decode c.code pc = .ok (.if_icmp cd o, 3)) (hc : if_icmp.holds cd x y = true) (ho : 0 ≤ (pc : Int) + o) (hp : ((pc : Int) + o).toNat = pc') (kk : own_Go p e below P T (mkF m pc' Ls st)) : own_Go p e below P T (mkF m pc Ls (.int y :: .int x :: st)) :=
  own_go (fun _ q => XS.icmpYes X.here hx rfl rfl hd rfl hc ho hp q) kk
theorem og_ifnullY (X : Stand p l e R s m args below meth c T locs cells slots) (hx : p.tables.exec = Jvm.exec) {o : Int} (pc' : Nat) (hd : decode c.code pc = .ok (.ifnull o, 3)) (ho : 0 ≤ (pc : Int) + o) (hp : ((pc : Int) + o).toNat = pc') (kk : own_Go p e below P T (mkF m pc' Ls st)) : own_Go p e below P T (mkF m pc Ls (.null :: st)) :=
  own_go (fun _ q => XS.ifnullYes X.here hx rfl rfl hd rfl ho hp q) kk
theorem og_ifnullN (X : Stand p l e R s m args below meth c T locs cells slots) (hx : p.tables.exec = Jvm.exec) {b : Addr} {o : Int} (hd : decode c.code pc = .ok (.ifnull o, 3)) (kk : own_Go p e below P T (mkF m (pc + 3) Ls st)) : own_Go p e below P T (mkF m pc Ls (.ref b :: st)) :=
  own_go (fun _ q => XS.ifnullNo X.here hx rfl hd rfl q) kk
theorem og_ifnonnullY (X : Stand p l e R s m args below meth c T locs cells slots) (hx : p.tables.exec = Jvm.exec) {b : Addr} {o : Int} (pc' : Nat) (hd : decode c.code pc = .ok (.ifnonnull o, 3)) (ho : 0 ≤ (pc : Int) + o) (hp : ((pc : Int) + o).toNat = pc') (kk : own_Go p e below P T (mkF m pc' Ls st)) : own_Go p e below P T (mkF m pc Ls (.ref b :: st)) :=
  own_go (fun _ q => XS.ifnonnullYes X.here hx rfl rfl hd rfl ho hp q) kk
theorem og_ifnonnullN (X : Stand p l e R s m args below meth c T locs cells slots) (hx : p.tables.exec = Jvm.exec) {o : Int} (hd : decode c.code pc = .ok (.ifnonnull o, 3)) (kk : own_Go p e below P T (mkF m (pc + 3) Ls st)) : own_Go p e below P T (mkF m pc Ls (.null :: st)) :=
  own_go (fun _ q => XS.ifnonnullNo X.here hx rfl hd rfl q) kk
theorem og_getF (X : Stand p l e R s m args below meth c T locs cells slots) (hx : p.tables.exec = Jvm.exec) (hZ : Z.Warmed39 s.vm) {own R0 O n d : String} {index : Nat} (hown : s.vm.findClass own = some m.cls) (w : (Jvm.Cond.fieldLink own index R0 n d).before a0 Z = true) (via : Via Z R0 O n d) (eT : T.heap = h) {a : Addr} {v : Value} (F : Fld Z h a O n d v) (hd : decode c.code pc = .ok (.getfield index, 3))
    (kk : ∀ T', Stand p l e R s m args below meth c T' locs cells slots → T'.heap = h → own_Go p e below P T' (mkF m (pc + 3) Ls (v :: st))) : own_Go p e below P T (mkF m pc Ls (.ref a :: st)) := by
  obtain ⟨T', X', e', stp⟩ := getF X hx hZ hown (host := "") (Or.inl w) via eT F (g := mkF m pc Ls (.ref a :: st)) rfl rfl hd
  exact own_go stp (kk T' X' e')
theorem og_getS (X : Stand p l e R s m args below meth c T locs cells slots) (hx : p.tables.exec = Jvm.exec) (hZ : Z.Warmed39 s.vm) {own R0 O n d : String} {index : Nat} (hown : s.vm.findClass own = some m.cls) (w : (Jvm.Cond.fieldLink own index R0 n d).before a0 Z = true) (via : Via Z R0 O n d) (eT : T.heap = h) {v : Value} (F : Sta Z h O n d v) (hd : decode c.code pc = .ok (.getstatic index, 3))
    (kk : ∀ T', Stand p l e R s m args below meth c T' locs cells slots → T'.heap = h → own_Go p e below P T' (mkF m (pc + 3) Ls (v :: st))) : own_Go p e below P T (mkF m pc Ls st) := by
  obtain ⟨T', X', e', stp⟩ := getS2 X hx hZ hown (host := "") (Or.inl w) via eT F (g := mkF m pc Ls st) rfl hd
  exact own_go stp (kk T' X' e')
theorem og_ldcI (X : Stand p l e R s m args below meth c T locs cells slots) (hx : p.tables.exec = Jvm.exec) (hZ : Z.Warmed39 s.vm) {own : String} {index : Nat} {v : Int32} (hown : s.vm.findClass own = some m.cls) (w : (Jvm.Cond.constant own index v).before a0 Z = true) (hd : decode c.code pc = .ok (.ldc index, 2)) (kk : own_Go p e below P T (mkF m (pc + 2) Ls (.int v :: st))) : own_Go p e below P T (mkF m pc Ls st) :=
  own_go (fun _ q => X.ldcI hx hown (mvT hZ w) rfl hd q) kk
theorem og_iremM (X : Stand p l e R s m args below meth c T locs cells slots) (hx : p.tables.exec = Jvm.exec) {x y : Int32} (hd : decode c.code pc = .ok (.irem, 1)) (hy : y ≠ 0) (kk : own_Go p e below P T (mkF m (pc + 1) Ls (.int (x % y) :: st))) : own_Go p e below P T (mkF m pc Ls (.int y :: .int x :: st)) :=
  own_go (fun _ q => iremM X hx rfl hd rfl hy q) kk
theorem og_acmp (X : Stand p l e R s m args below meth c T locs cells slots) (hx : p.tables.exec = Jvm.exec) {cd : ACond} {x y : Value} {o : Int} {pc' : Nat} {same : Bool} (h1 : x.isRef = true) (h2 : y.isRef = true) (hd : decode c.code pc = .ok (.if_acmp cd o, 3)) (hq : decide (x = y) = same) (ho : 0 ≤ (pc : Int) + o) (hp : pc' = if acV cd same = true then ((pc : Int) + o).toNat else pc + 3)
    (kk : own_Go p e below P T (mkF m pc' Ls st)) : own_Go p e below P T (mkF m pc Ls (y :: x :: st)) :=
  own_go (fun _ q => Jvm.RoadKit.acmp (g := mkF m pc Ls (y :: x :: st)) X hx rfl h1 h2 rfl hd rfl hq ho hp q) kk
end Og
/-! the calls: by a Back (..B), or by a body's own contract -/
theorem own_callSB (X : Stand p l e R s m args below meth c T locs cells slots) (hx : p.tables.exec = Jvm.exec) (hZ : Z.Warmed39 s.vm) {own : String} {index : Nat} {y : MethodName} {bytes : ByteArray} {maxL : Nat} {ret : Option FieldType} (hown : s.vm.findClass own = some m.cls)
    (w1 : (Jvm.Cond.methodLink own index y).before a0 Z = true) (w2 : (Jvm.Cond.static y).before a0 Z = true) (w3 : (Jvm.Cond.initialized y.cls).before a0 Z = true) (w4 : (Jvm.Cond.code y bytes maxL ret).before a0 Z = true) (hy : y.cls ≠ "java/lang/invoke/MethodHandle" ∧ y.cls ≠ "java/lang/invoke/VarHandle")
    {argsL rest : List Value} {Q : Option Value → Heap → List Loc → Prop} {kc kn W : Nat} (hK : Back l R p e below s args y 3 W (fun A a => a = (argsL).toArray ∧ A.U.heap = h ∧ A.cells + kc ≤ R.cells ∧ A.slots + kn ≤ R.slots) (fun A _ v B => ∃ L, Q v B.U.heap L ∧ B.locs = A.locs ++ L ∧ B.cells = A.cells + kc ∧ B.slots = A.slots + kn)) (eT : T.heap = h) {pc : Nat} {Ls : Array Slot} {st : List Value} (hsize : Ls.size = c.maxLocals)
    (hlen : ∀ sig, parseMethodDescriptor y.desc = some sig → argsL.length = sig.parameters.length) (hstack : st = argsL.reverse ++ rest) (hd : decode c.code pc = .ok (.invokestatic index, 3)) (hW : (rest.map fun v => v.category).sum ≤ W) (hc : cells + kc ≤ R.cells) (hs : slots + kn ≤ R.slots)
    (k : ∀ (v : Option Value) (T' : State) (L : List Loc), Stand p l e R s m args below meth c T' (locs ++ L) (cells + kc) (slots + kn) → Q v T'.heap L → own_Go p e below P T' (mkF m (pc + 3) Ls (v.toList ++ rest))) : own_Go p e below P T (mkF m pc Ls st) := by
  obtain ⟨v, _, ⟨T', L', k', n'⟩, -, X', ⟨Lc, hQ, l1, y1, z1⟩, stp⟩ := Jvm.LawKit.callS X hx (y := y) hown (mvT hZ w1) (mvT hZ w2) (mvT hZ w3) (mvT hZ w4) hy hK (g := mkF m pc Ls st) rfl hsize (argsL := argsL) (rest := rest) hlen hstack (by show 2 * 0 + _ ≤ _; omega) hd (fun _ _ => ⟨rfl, eT, hc, hs⟩)
  dsimp only [Pt.U, Pt.locs, Pt.cells, Pt.slots] at X' l1 y1 z1 stp hQ
  subst l1 y1 z1
  exact own_go stp (k v T' Lc X' hQ)
theorem own_callS (X : Stand p l e R s m args below meth c T locs cells slots) (hx : p.tables.exec = Jvm.exec) (hZ : Z.Warmed39 s.vm) {own : String} {index : Nat} {y : MethodName} {bytes : ByteArray} {maxL : Nat} {ret : Option FieldType} (hown : s.vm.findClass own = some m.cls)
    (w1 : (Jvm.Cond.methodLink own index y).before a0 Z = true) (w2 : (Jvm.Cond.static y).before a0 Z = true) (w3 : (Jvm.Cond.initialized y.cls).before a0 Z = true) (w4 : (Jvm.Cond.code y bytes maxL ret).before a0 Z = true) (hy : y.cls ≠ "java/lang/invoke/MethodHandle" ∧ y.cls ≠ "java/lang/invoke/VarHandle")
    {argsL rest : List Value} {rm : Room} {Q : Option Value → Heap → List Loc → Prop} (hM : own_Met l Z y bytes maxL ret rm (argsL).toArray h Q) (eT : T.heap = h) {pc : Nat} {Ls : Array Slot} {st : List Value} (hsize : Ls.size = c.maxLocals)
    (hlen : ∀ sig, parseMethodDescriptor y.desc = some sig → argsL.length = sig.parameters.length) (hstack : st = argsL.reverse ++ rest) (hd : decode c.code pc = .ok (.invokestatic index, 3)) {W : Nat} (hW : (rest.map fun v => v.category).sum ≤ W) (h4 : rm.frames + 1 ≤ R.frames ∧ W + (maxL + 11) + rm.locals ≤ R.locals ∧ cells + rm.cells ≤ R.cells ∧ slots + rm.slots ≤ R.slots)
    (k : ∀ (v : Option Value) (T' : State) (L : List Loc), Stand p l e R s m args below meth c T' (locs ++ L) (cells + rm.cells) (slots + rm.slots) → Q v T'.heap L → own_Go p e below P T' (mkF m (pc + 3) Ls (v.toList ++ rest))) : own_Go p e below P T (mkF m pc Ls st) :=
  own_callSB X hx hZ hown w1 w2 w3 w4 hy (backOf (W := W) (hM []) hZ w4 w3 h4.1 h4.2.1) eT hsize hlen hstack hd hW h4.2.2.1 h4.2.2.2 k
theorem own_callVB (X : Stand p l e R s m args below meth c T locs cells slots) (hx : p.tables.exec = Jvm.exec) (hZ : Z.Warmed39 s.vm) {own C : String} {index : Nat} {y z : MethodName} {bytes : ByteArray} {maxL : Nat} {ret : Option FieldType} (hown : s.vm.findClass own = some m.cls)
    (w1 : (Jvm.Cond.methodLink own index y).before a0 Z = true) (w2 : (Jvm.Cond.declares y).before a0 Z = true) (nf : NotFace s y) (w3 : (Jvm.Cond.selects C y z).before a0 Z = true) (w4 : (Jvm.Cond.instanceMethod z).before a0 Z = true) (w5 : (Jvm.Cond.code z bytes maxL ret).before a0 Z = true) (w6 : (Jvm.Cond.initialized z.cls).before a0 Z = true) (hy : y.cls ≠ "java/lang/invoke/MethodHandle" ∧ y.cls ≠ "java/lang/invoke/VarHandle")
    {b : Addr} {argsL rest : List Value} {Q : Option Value → Heap → List Loc → Prop} {kc kn W : Nat} (hK : Back l R p e below s args z 3 W (fun A a => a = (.ref b :: argsL).toArray ∧ A.U.heap = h ∧ A.cells + kc ≤ R.cells ∧ A.slots + kn ≤ R.slots) (fun A _ v B => ∃ L, Q v B.U.heap L ∧ B.locs = A.locs ++ L ∧ B.cells = A.cells + kc ∧ B.slots = A.slots + kn)) (eT : T.heap = h) (E : Exa Z h b C) {pc : Nat} {Ls : Array Slot} {st : List Value} (hsize : Ls.size = c.maxLocals)
    (hlen : ∀ sig, parseMethodDescriptor y.desc = some sig → argsL.length = sig.parameters.length) (hstack : st = argsL.reverse ++ .ref b :: rest) (hd : decode c.code pc = .ok (.invokevirtual index, 3)) (hW : (rest.map fun v => v.category).sum ≤ W) (hc : cells + kc ≤ R.cells) (hs : slots + kn ≤ R.slots)
    (k : ∀ (v : Option Value) (T' : State) (L : List Loc), Stand p l e R s m args below meth c T' (locs ++ L) (cells + kc) (slots + kn) → Q v T'.heap L → own_Go p e below P T' (mkF m (pc + 3) Ls (v.toList ++ rest))) : own_Go p e below P T (mkF m pc Ls st) := by
  obtain ⟨cq, kq, qa, qb, qc⟩ := isOf hZ eT E
  obtain ⟨v, _, ⟨T', L', k', n'⟩, -, X', ⟨Lc, hQ, l1, y1, z1⟩, stp⟩ := X.virtualBack hx (y := y) (z := z) hown (mvT hZ w1) (mvT hZ w2) nf (mvT hZ w3) (mvT hZ w4) hy hK qa qc (g := mkF m pc Ls st) rfl hsize (Steps.refl _) (argsL := argsL) (rest := rest) hlen hstack (by show 2 * 0 + _ ≤ _; omega) hd (fun _ _ => ⟨rfl, eT, hc, hs⟩)
  dsimp only [Pt.U, Pt.locs, Pt.cells, Pt.slots] at X' l1 y1 z1 stp hQ
  subst l1 y1 z1
  exact own_go (fun _ q => stp.trans q) (k v T' Lc X' hQ)
theorem own_callV (X : Stand p l e R s m args below meth c T locs cells slots) (hx : p.tables.exec = Jvm.exec) (hZ : Z.Warmed39 s.vm) {own C : String} {index : Nat} {y z : MethodName} {bytes : ByteArray} {maxL : Nat} {ret : Option FieldType} (hown : s.vm.findClass own = some m.cls)
    (w1 : (Jvm.Cond.methodLink own index y).before a0 Z = true) (w2 : (Jvm.Cond.declares y).before a0 Z = true) (nf : NotFace s y) (w3 : (Jvm.Cond.selects C y z).before a0 Z = true) (w4 : (Jvm.Cond.instanceMethod z).before a0 Z = true) (w5 : (Jvm.Cond.code z bytes maxL ret).before a0 Z = true) (w6 : (Jvm.Cond.initialized z.cls).before a0 Z = true) (hy : y.cls ≠ "java/lang/invoke/MethodHandle" ∧ y.cls ≠ "java/lang/invoke/VarHandle")
    {b : Addr} {argsL rest : List Value} {rm : Room} {Q : Option Value → Heap → List Loc → Prop} (hM : own_Met l Z z bytes maxL ret rm (.ref b :: argsL).toArray h Q) (eT : T.heap = h) (E : Exa Z h b C) {pc : Nat} {Ls : Array Slot} {st : List Value} (hsize : Ls.size = c.maxLocals)
    (hlen : ∀ sig, parseMethodDescriptor y.desc = some sig → argsL.length = sig.parameters.length) (hstack : st = argsL.reverse ++ .ref b :: rest) (hd : decode c.code pc = .ok (.invokevirtual index, 3)) {W : Nat} (hW : (rest.map fun v => v.category).sum ≤ W) (h4 : rm.frames + 1 ≤ R.frames ∧ W + (maxL + 11) + rm.locals ≤ R.locals ∧ cells + rm.cells ≤ R.cells ∧ slots + rm.slots ≤ R.slots)
    (k : ∀ (v : Option Value) (T' : State) (L : List Loc), Stand p l e R s m args below meth c T' (locs ++ L) (cells + rm.cells) (slots + rm.slots) → Q v T'.heap L → own_Go p e below P T' (mkF m (pc + 3) Ls (v.toList ++ rest))) : own_Go p e below P T (mkF m pc Ls st) :=
  own_callVB X hx hZ hown w1 w2 nf w3 w4 w5 w6 hy (backOf (W := W) (hM []) hZ w5 w6 h4.1 h4.2.1) eT E hsize hlen hstack hd hW h4.2.2.1 h4.2.2.2 k
theorem own_callUB (X : Stand p l e R s m args below meth c T locs cells slots) (hx : p.tables.exec = Jvm.exec) (hZ : Z.Warmed39 s.vm) {own C owner : String} {index : Nat} {y z : MethodName} {bytes : ByteArray} {maxL : Nat} {ret : Option FieldType} (hown : s.vm.findClass own = some m.cls)
    (w1 : (Jvm.Cond.methodLink own index y).before a0 Z = true) (ws : (Jvm.Cond.sameMethod y.cls owner y.name y.desc).before a0 Z = true) (w2 : (Jvm.Cond.declares ⟨owner, y.name, y.desc⟩).before a0 Z = true) (ho : owner ≠ "java/lang/invoke/MethodHandle" ∧ owner ≠ "java/lang/invoke/VarHandle")
    (w3 : (Jvm.Cond.selects C y z).before a0 Z = true) (w4 : (Jvm.Cond.instanceMethod z).before a0 Z = true) (w5 : (Jvm.Cond.code z bytes maxL ret).before a0 Z = true) (w6 : (Jvm.Cond.initialized z.cls).before a0 Z = true)
    {b : Addr} {argsL rest : List Value} {Q : Option Value → Heap → List Loc → Prop} {kc kn W : Nat} (hK : Back l R p e below s args z 3 W (fun A a => a = (.ref b :: argsL).toArray ∧ A.U.heap = h ∧ A.cells + kc ≤ R.cells ∧ A.slots + kn ≤ R.slots) (fun A _ v B => ∃ L, Q v B.U.heap L ∧ B.locs = A.locs ++ L ∧ B.cells = A.cells + kc ∧ B.slots = A.slots + kn)) (eT : T.heap = h) (E : Exa Z h b C) {pc : Nat} {Ls : Array Slot} {st : List Value} (hsize : Ls.size = c.maxLocals)
    (hlen : ∀ sig, parseMethodDescriptor y.desc = some sig → argsL.length = sig.parameters.length) (hstack : st = argsL.reverse ++ .ref b :: rest) (hd : decode c.code pc = .ok (.invokevirtual index, 3)) (hW : (rest.map fun v => v.category).sum ≤ W) (hc : cells + kc ≤ R.cells) (hs : slots + kn ≤ R.slots)
    (k : ∀ (v : Option Value) (T' : State) (L : List Loc), Stand p l e R s m args below meth c T' (locs ++ L) (cells + kc) (slots + kn) → Q v T'.heap L → own_Go p e below P T' (mkF m (pc + 3) Ls (v.toList ++ rest))) : own_Go p e below P T (mkF m pc Ls st) := by
  obtain ⟨cq, kq, qa, qb, qc⟩ := isOf hZ eT E
  obtain ⟨v, _, ⟨T', L', k', n'⟩, -, X', ⟨Lc, hQ, l1, y1, z1⟩, stp⟩ := X.virtualBackUp hx (x := y) (y := z) (owner := owner) hown (mvT hZ w1) (mvT hZ ws) (mvT hZ w2) ho (mvT hZ w3) (mvT hZ w4) hK qa qc (g := mkF m pc Ls st) rfl hsize (Steps.refl _) (argsL := argsL) (rest := rest) hlen hstack (by show 2 * 0 + _ ≤ _; omega) hd (fun _ _ => ⟨rfl, eT, hc, hs⟩)
  dsimp only [Pt.U, Pt.locs, Pt.cells, Pt.slots] at X' l1 y1 z1 stp hQ
  subst l1 y1 z1
  exact own_go (fun _ q => stp.trans q) (k v T' Lc X' hQ)
theorem own_callU (X : Stand p l e R s m args below meth c T locs cells slots) (hx : p.tables.exec = Jvm.exec) (hZ : Z.Warmed39 s.vm) {own C owner : String} {index : Nat} {y z : MethodName} {bytes : ByteArray} {maxL : Nat} {ret : Option FieldType} (hown : s.vm.findClass own = some m.cls)
    (w1 : (Jvm.Cond.methodLink own index y).before a0 Z = true) (ws : (Jvm.Cond.sameMethod y.cls owner y.name y.desc).before a0 Z = true) (w2 : (Jvm.Cond.declares ⟨owner, y.name, y.desc⟩).before a0 Z = true) (ho : owner ≠ "java/lang/invoke/MethodHandle" ∧ owner ≠ "java/lang/invoke/VarHandle")
    (w3 : (Jvm.Cond.selects C y z).before a0 Z = true) (w4 : (Jvm.Cond.instanceMethod z).before a0 Z = true) (w5 : (Jvm.Cond.code z bytes maxL ret).before a0 Z = true) (w6 : (Jvm.Cond.initialized z.cls).before a0 Z = true)
    {b : Addr} {argsL rest : List Value} {rm : Room} {Q : Option Value → Heap → List Loc → Prop} (hM : own_Met l Z z bytes maxL ret rm (.ref b :: argsL).toArray h Q) (eT : T.heap = h) (E : Exa Z h b C) {pc : Nat} {Ls : Array Slot} {st : List Value} (hsize : Ls.size = c.maxLocals)
    (hlen : ∀ sig, parseMethodDescriptor y.desc = some sig → argsL.length = sig.parameters.length) (hstack : st = argsL.reverse ++ .ref b :: rest) (hd : decode c.code pc = .ok (.invokevirtual index, 3)) {W : Nat} (hW : (rest.map fun v => v.category).sum ≤ W) (h4 : rm.frames + 1 ≤ R.frames ∧ W + (maxL + 11) + rm.locals ≤ R.locals ∧ cells + rm.cells ≤ R.cells ∧ slots + rm.slots ≤ R.slots)
    (k : ∀ (v : Option Value) (T' : State) (L : List Loc), Stand p l e R s m args below meth c T' (locs ++ L) (cells + rm.cells) (slots + rm.slots) → Q v T'.heap L → own_Go p e below P T' (mkF m (pc + 3) Ls (v.toList ++ rest))) : own_Go p e below P T (mkF m pc Ls st) :=
  own_callUB X hx hZ hown w1 ws w2 ho w3 w4 w5 w6 (backOf (W := W) (hM []) hZ w5 w6 h4.1 h4.2.1) eT E hsize hlen hstack hd hW h4.2.2.1 h4.2.2.2 k
theorem own_callNB (X : Stand p l e R s m args below meth c T locs cells slots) (hx : p.tables.exec = Jvm.exec) (hZ : Z.Warmed39 s.vm) {own : String} {index : Nat} {y : MethodName} {bytes : ByteArray} {maxL : Nat} (hown : s.vm.findClass own = some m.cls)
    (w1 : (Jvm.Cond.methodLink own index y).before a0 Z = true) (w2 : (Jvm.Cond.instanceMethod y).before a0 Z = true) (w4 : (Jvm.Cond.code y bytes maxL none).before a0 Z = true) (w3 : (Jvm.Cond.initialized y.cls).before a0 Z = true) (hy : y.cls ≠ "java/lang/invoke/MethodHandle" ∧ y.cls ≠ "java/lang/invoke/VarHandle") (hn : y.name = "<init>")
    {b : Addr} {argsL rest : List Value} {Q : Option Value → Heap → List Loc → Prop} {kc kn W : Nat} (hK : Back l R p e below s args y 3 W (fun A a => a = (.ref b :: argsL).toArray ∧ A.U.heap = h ∧ A.cells + kc ≤ R.cells ∧ A.slots + kn ≤ R.slots) (fun A _ v B => ∃ L, Q v B.U.heap L ∧ B.locs = A.locs ++ L ∧ B.cells = A.cells + kc ∧ B.slots = A.slots + kn)) (eT : T.heap = h) {pc : Nat} {Ls : Array Slot} {st : List Value} (hsize : Ls.size = c.maxLocals)
    (hlen : ∀ sig, parseMethodDescriptor y.desc = some sig → argsL.length = sig.parameters.length) (hstack : st = argsL.reverse ++ .ref b :: rest) (hd : decode c.code pc = .ok (.invokespecial index, 3)) (hW : (rest.map fun v => v.category).sum ≤ W) (hc : cells + kc ≤ R.cells) (hs : slots + kn ≤ R.slots)
    (k : ∀ (v : Option Value) (T' : State) (L : List Loc), Stand p l e R s m args below meth c T' (locs ++ L) (cells + kc) (slots + kn) → Q v T'.heap L → own_Go p e below P T' (mkF m (pc + 3) Ls (v.toList ++ rest))) : own_Go p e below P T (mkF m pc Ls st) := by
  obtain ⟨v, _, ⟨T', L', k', n'⟩, -, X', ⟨Lc, hQ, l1, y1, z1⟩, stp⟩ := X.specialBack hx (y := y) hn hown (mvT hZ w1) (mvT hZ w2) (mvT hZ w4) hy hK (g := mkF m pc Ls st) rfl hsize (Steps.refl _) (a := b) (argsL := argsL) (rest := rest) hlen hstack (by show 2 * 0 + _ ≤ _; omega) hd (fun _ _ => ⟨rfl, eT, hc, hs⟩)
  dsimp only [Pt.U, Pt.locs, Pt.cells, Pt.slots] at X' l1 y1 z1 stp hQ
  subst l1 y1 z1
  exact own_go (fun _ q => stp.trans q) (k v T' Lc X' hQ)
theorem own_callN (X : Stand p l e R s m args below meth c T locs cells slots) (hx : p.tables.exec = Jvm.exec) (hZ : Z.Warmed39 s.vm) {own : String} {index : Nat} {y : MethodName} {bytes : ByteArray} {maxL : Nat} (hown : s.vm.findClass own = some m.cls)
    (w1 : (Jvm.Cond.methodLink own index y).before a0 Z = true) (w2 : (Jvm.Cond.instanceMethod y).before a0 Z = true) (w4 : (Jvm.Cond.code y bytes maxL none).before a0 Z = true) (w3 : (Jvm.Cond.initialized y.cls).before a0 Z = true) (hy : y.cls ≠ "java/lang/invoke/MethodHandle" ∧ y.cls ≠ "java/lang/invoke/VarHandle") (hn : y.name = "<init>")
    {b : Addr} {argsL rest : List Value} {rm : Room} {Q : Option Value → Heap → List Loc → Prop} (hM : own_Met l Z y bytes maxL none rm (.ref b :: argsL).toArray h Q) (eT : T.heap = h) {pc : Nat} {Ls : Array Slot} {st : List Value} (hsize : Ls.size = c.maxLocals)
    (hlen : ∀ sig, parseMethodDescriptor y.desc = some sig → argsL.length = sig.parameters.length) (hstack : st = argsL.reverse ++ .ref b :: rest) (hd : decode c.code pc = .ok (.invokespecial index, 3)) {W : Nat} (hW : (rest.map fun v => v.category).sum ≤ W) (h4 : rm.frames + 1 ≤ R.frames ∧ W + (maxL + 11) + rm.locals ≤ R.locals ∧ cells + rm.cells ≤ R.cells ∧ slots + rm.slots ≤ R.slots)
    (k : ∀ (v : Option Value) (T' : State) (L : List Loc), Stand p l e R s m args below meth c T' (locs ++ L) (cells + rm.cells) (slots + rm.slots) → Q v T'.heap L → own_Go p e below P T' (mkF m (pc + 3) Ls (v.toList ++ rest))) : own_Go p e below P T (mkF m pc Ls st) :=
  own_callNB X hx hZ hown w1 w2 w4 w3 hy hn (backOf (W := W) (hM []) hZ w4 w3 h4.1 h4.2.1) eT hsize hlen hstack hd hW h4.2.2.1 h4.2.2.2 k
/-- answers w, writes nothing old, leaves the heap as it was -/
def own_Qv (w : Option Value) (h0 : Heap) (n0 : Nat) (v : Option Value) (h : Heap) (L : List Loc) : Prop := v = w ∧ Fr n0 L ∧ h = h0
/-- the law's own: it answers 1 and writes nothing old -/
def own_Q1 (n0 : Nat) (v : Option Value) (h : Heap) (L : List Loc) : Prop := v = some (.int 1) ∧ Fr n0 L
theorem own_fldI {t : Term} {C n d : String} {a : Addr} {k : Int32} (ev : t.eval args Z none [] Z = some (.ref a)) (hx : (Jvm.Cond.eq (.field t C n d) (.int k)).value args Z none Z [] = some true) : Fld Z Z.heap a C n d (.int k) := by
  obtain ⟨x, y, h1, h2, k1, k2⟩ := cmp_v (Or.inl hx)
  have h2' : y = .int k := (Option.some.inj (h2.symm.trans (Term.int_eval k)))
  subst h2'
  obtain ⟨z, rfl⟩ : ∃ z, x = .int z := k2
  have hz : z = k := by simpa [Jvm.Cond.value, h1, h2] using hx
  subst hz
  exact Fld.start ((fld_at ev).symm.trans h1)
theorem own_fldN {t : Term} {C n d : String} {a : Addr} (ev : t.eval args Z none [] Z = some (.ref a)) (hx : (Jvm.Cond.eq (.field t C n d) .null).value args Z none Z [] = some true) : Fld Z Z.heap a C n d .null :=
  Fld.start ((fld_at ev).symm.trans (null_v hx))
theorem own_fldR {t : Term} {C n d : String} {a : Addr} (ev : t.eval args Z none [] Z = some (.ref a)) (hx : (Jvm.Cond.not (.eq (.field t C n d) .null)).value args Z none Z [] = some true) : ∃ b, Fld Z Z.heap a C n d (.ref b) := by
  obtain ⟨b, hb⟩ := nn_v (not_v hx)
  exact ⟨b, Fld.start ((fld_at ev).symm.trans hb)⟩
theorem own_fldX {t : Term} {C n d K : String} {a : Addr} (ev : t.eval args Z none [] Z = some (.ref a)) (hx : (Jvm.Cond.exactly (.field t C n d) K).value args Z none Z [] = some true) : ∃ b, (Term.field t C n d).eval args Z none [] Z = some (.ref b) ∧ Fld Z Z.heap a C n d (.ref b) ∧ Exa Z Z.heap b K := by
  obtain ⟨b, hb⟩ := exa_v hx
  exact ⟨b, hb, Fld.start ((fld_at ev).symm.trans hb), Exa.start hb hx⟩
theorem own_fldE {t t' : Term} {C n d : String} {a b : Addr} (ev : t.eval args Z none [] Z = some (.ref a)) (h2 : t'.eval args Z none [] Z = some (.ref b)) (hx : (Jvm.Cond.eq (.field t C n d) t').value args Z none Z [] = some true) : Fld Z Z.heap a C n d (.ref b) := by
  obtain ⟨x, y, h1, h2', k1, k2⟩ := cmp_v (Or.inl hx)
  cases h2.symm.trans h2'
  have k3 : x.isRef = true := k2.2
  have hz : x = .ref b := gotT (eq_R h1 h2 k3 rfl) hx
  subst hz
  exact Fld.start ((fld_at ev).symm.trans h1)
end Own
section Own2
variable {p : Program} {l : Launch} {e : Env} {R : Room} {s : State} {m : MethodId} {args : Array Value} {below : List Frame} {meth : Method} {c : Code} {T T' : State} {locs : List Loc} {cells slots : Nat} {Z : State} {a0 : Array Value} {h : Heap} {P : Outcome → State → Prop} {a b : Addr} {pc : Nat} {Ls : Array Slot} {rest : List Value} {k : ClassId} {ty : FieldType} {n j : Int32} {vs : List Value} {dv v : Value}
theorem own_oldle {n0 : Nat} (O : Old Z n0 h) : n0 ≤ h.size := O.1 ▸ O.2.1
theorem own_newR (X : Stand p l e R s m args below meth c T locs cells slots) (hx : p.tables.exec = Jvm.exec) (hZ : Z.Warmed39 s.vm) {own C : String} {index : Nat} (hown : s.vm.findClass own = some m.cls) (w1 : (Jvm.Cond.classLink own index C).before a0 Z = true) (w2 : (Jvm.Cond.arrayOver (.object C)).before a0 Z = true) (eT : T.heap = h)
    (hd : decode c.code pc = .ok (.anewarray index, 3)) (hn : ¬ n < 0) (cap : Nat) (hcap : n.toNatClampNeg ≤ cap) (hb : cap * 8 ≤ 536870912) (hc : cells + 1 ≤ R.cells) (hl : slots + cap ≤ R.slots)
    (kk : ∀ (T' : State) (h' : Heap) (cA : ClassId) (b : Addr), b = h.size → Stand p l e R s m args below meth c T' locs (cells + 1) (slots + cap) → T'.heap = h' → Ext h h' → Arv Z h' b cA (.object C) n (List.replicate cap .null) .null → Ovr Z cA C → own_Go p e below P T' (mkF m (pc + 3) Ls (.ref b :: rest))) :
    own_Go p e below P T (mkF m pc Ls (.int n :: rest)) := by
  obtain ⟨T', h', cA, X', e', E, A, O, st⟩ := newR X hx hZ hown w1 w2 eT (g := mkF m pc Ls (.int n :: rest)) rfl hd rfl hn hcap hb hc hl
  exact own_go st (kk T' h' cA _ rfl X' e' E ((Arv.new A hn).pad (pad_rep [] .null cap)) O)
theorem own_newP (X : Stand p l e R s m args below meth c T locs cells slots) (hx : p.tables.exec = Jvm.exec) (hZ : Z.Warmed39 s.vm) {aty : ArrayType} (w : (Jvm.Cond.arrayClass (newarray.typeOf aty)).before a0 Z = true) (eT : T.heap = h)
    (hd : decode c.code pc = .ok (.newarray aty, 2)) (hn : ¬ n < 0) (cap : Nat) (hcap : n.toNatClampNeg ≤ cap) (hb : cap * 8 ≤ 536870912) (hc : cells + 1 ≤ R.cells) (hl : slots + cap ≤ R.slots)
    (kk : ∀ (T' : State) (h' : Heap) (cA : ClassId) (b : Addr), b = h.size → Stand p l e R s m args below meth c T' locs (cells + 1) (slots + cap) → T'.heap = h' → Ext h h' → Arv Z h' b cA (newarray.typeOf aty) n (List.replicate cap (defaultValue (newarray.typeOf aty))) (defaultValue (newarray.typeOf aty)) → own_Go p e below P T' (mkF m (pc + 2) Ls (.ref b :: rest))) :
    own_Go p e below P T (mkF m pc Ls (.int n :: rest)) := by
  obtain ⟨T', h', cA, X', e', E, A, st⟩ := newP X hx hZ w eT (g := mkF m pc Ls (.int n :: rest)) rfl hd rfl hn hcap hb hc hl
  exact own_go st (kk T' h' cA _ rfl X' e' E ((Arv.new A hn).pad (pad_rep [] _ cap)))
theorem own_newO (X : Stand p l e R s m args below meth c T locs cells slots) (hx : p.tables.exec = Jvm.exec) (hZ : Z.Warmed39 s.vm) {own C : String} {index n : Nat} {st : List Value} (hown : s.vm.findClass own = some m.cls) (w : (Jvm.Cond.classLink own index C).before a0 Z = true) (wi : (Jvm.Cond.instantiable C n).before a0 Z = true) (wz : (Jvm.Cond.initialized C).before a0 Z = true) (eT : T.heap = h)
    (hd : decode c.code pc = .ok (.new index, 3)) (hc : cells + 1 ≤ R.cells) (hl : slots + n ≤ R.slots)
    (kk : ∀ (T' : State) (h' : Heap) (b : Addr), b = h.size → Stand p l e R s m args below meth c T' locs (cells + 1) (slots + n) → T'.heap = h' → Ext h h' → Exa Z h' b C → (∀ {O nm d : String} {ty : FieldType}, Laid Z a0 C O nm d → parseFieldDescriptor d = some ty → Fld Z h' b O nm d (defaultValue ty)) → own_Go p e below P T' (mkF m (pc + 3) Ls (.ref b :: st))) :
    own_Go p e below P T (mkF m pc Ls st) := by
  obtain ⟨T', h', X', e', E, A, D, -, stp⟩ := newO X hx hZ hown w wi wz eT (g := mkF m pc Ls st) rfl hd hc hl
  exact own_go stp (kk T' h' _ rfl X' e' E A (fun {_ _ _ _} q r => D q r))
theorem own_stR (X : Stand p l e R s m args below meth c T locs cells slots) (hx : p.tables.exec = Jvm.exec) (hZ : Z.Warmed39 s.vm) {C : String} {y : Addr} (eT : T.heap = h) (A : Arv Z h b k (.object C) n vs dv) (O : Ovr Z k C) (I : Ins Z h y C true) (hj : ¬ j < 0 ∧ j < n) (i : Nat) (hi : j.toNatClampNeg = i) (hil : i < vs.length)
    (hd : decode c.code pc = .ok (.aastore, 1))
    (kk : ∀ (T' : State) (h' : Heap), Stand p l e R s m args below meth c T' (locs ++ [⟨b, j.toNatClampNeg⟩]) cells slots → T'.heap = h' → Wr h h' b j.toNatClampNeg (.ref y) → Arv Z h' b k (.object C) n (vs.set i (.ref y)) dv → own_Go p e below P T' (mkF m (pc + 1) Ls rest)) :
    own_Go p e below P T (mkF m pc Ls (.ref y :: .int j :: .ref b :: rest)) := by
  obtain ⟨cl, A1, q1, S, q3, H, G⟩ := A
  obtain ⟨T', h', X', e', W, st⟩ := stR X hx hZ eT A1 (j := j) (v := .ref y) (inb_of S hj) rfl (Sto.ofV A1 q1 O I) (g := mkF m pc Ls (.ref y :: .int j :: .ref b :: rest)) rfl rfl hd
  exact own_go st (kk T' h' X' e' W (Arv.set A1 q1 S q3 H G rfl W i hi hil))
theorem own_stC (X : Stand p l e R s m args below meth c T locs cells slots) (hx : p.tables.exec = Jvm.exec) (hZ : Z.Warmed39 s.vm) {x : Int32} (eT : T.heap = h) (A : Arv Z h b k .char n vs dv) (hj : ¬ j < 0 ∧ j < n) (i : Nat) (hi : j.toNatClampNeg = i) (hil : i < vs.length) (hd : decode c.code pc = .ok (.castore, 1))
    (kk : ∀ (T' : State) (h' : Heap), Stand p l e R s m args below meth c T' (locs ++ [⟨b, j.toNatClampNeg⟩]) cells slots → T'.heap = h' → Wr h h' b j.toNatClampNeg (.int (nar .char x)) → Arv Z h' b k .char n (vs.set i (.int (nar .char x))) dv → own_Go p e below P T' (mkF m (pc + 1) Ls rest)) :
    own_Go p e below P T (mkF m pc Ls (.int x :: .int j :: .ref b :: rest)) := by
  obtain ⟨cl, A1, q1, S, q3, H, G⟩ := A
  obtain ⟨T', h', X', e', W, st⟩ := stC X hx hZ eT A1 (j := j) (x := x) (inb_of S hj) (g := mkF m pc Ls (.int x :: .int j :: .ref b :: rest)) rfl rfl hd
  exact own_go st (kk T' h' X' e' W (Arv.set A1 q1 S q3 H G (fits_nar_char _) W i hi hil))
theorem own_stI (X : Stand p l e R s m args below meth c T locs cells slots) (hx : p.tables.exec = Jvm.exec) (hZ : Z.Warmed39 s.vm) {x : Int32} (eT : T.heap = h) (A : Arv Z h b k .int n vs dv) (hj : ¬ j < 0 ∧ j < n) (i : Nat) (hi : j.toNatClampNeg = i) (hil : i < vs.length) (hd : decode c.code pc = .ok (.iastore, 1))
    (kk : ∀ (T' : State) (h' : Heap), Stand p l e R s m args below meth c T' (locs ++ [⟨b, j.toNatClampNeg⟩]) cells slots → T'.heap = h' → Wr h h' b j.toNatClampNeg (.int x) → Arv Z h' b k .int n (vs.set i (.int x)) dv → own_Go p e below P T' (mkF m (pc + 1) Ls rest)) :
    own_Go p e below P T (mkF m pc Ls (.int x :: .int j :: .ref b :: rest)) := by
  obtain ⟨cl, A1, q1, S, q3, H, G⟩ := A
  obtain ⟨T', h', X', e', W, st⟩ := stI X hx hZ eT A1 (j := j) (x := x) (inb_of S hj) (g := mkF m pc Ls (.int x :: .int j :: .ref b :: rest)) rfl rfl hd
  exact own_go st (kk T' h' X' e' W (Arv.set A1 q1 S q3 H G rfl W i hi hil))
theorem own_stB (X : Stand p l e R s m args below meth c T locs cells slots) (hx : p.tables.exec = Jvm.exec) (hZ : Z.Warmed39 s.vm) {x : Int32} (eT : T.heap = h) (A : Arv Z h b k .byte n vs dv) (hj : ¬ j < 0 ∧ j < n) (i : Nat) (hi : j.toNatClampNeg = i) (hil : i < vs.length) (hd : decode c.code pc = .ok (.bastore, 1))
    (kk : ∀ (T' : State) (h' : Heap), Stand p l e R s m args below meth c T' (locs ++ [⟨b, j.toNatClampNeg⟩]) cells slots → T'.heap = h' → Wr h h' b j.toNatClampNeg (.int (nar .byte x)) → Arv Z h' b k .byte n (vs.set i (.int (nar .byte x))) dv → own_Go p e below P T' (mkF m (pc + 1) Ls rest)) :
    own_Go p e below P T (mkF m pc Ls (.int x :: .int j :: .ref b :: rest)) := by
  obtain ⟨cl, A1, q1, S, q3, H, G⟩ := A
  obtain ⟨T', h', X', e', W, st⟩ := stB X hx hZ eT A1 (j := j) (x := x) (inb_of S hj) (g := mkF m pc Ls (.int x :: .int j :: .ref b :: rest)) rfl rfl hd
  exact own_go st (kk T' h' X' e' W (Arv.set A1 q1 S q3 H G (fits_nar_byte _) W i hi hil))
theorem own_ldA (X : Stand p l e R s m args below meth c T locs cells slots) (hx : p.tables.exec = Jvm.exec) (hZ : Z.Warmed39 s.vm) (eT : T.heap = h) (A : Arv Z h b k ty n vs dv) (hty : ty.isReference = true) (hj : ¬ j < 0 ∧ j < n) (hv : vs.getD j.toNatClampNeg dv = v) (hd : decode c.code pc = .ok (.aaload, 1))
    (kk : own_Go p e below P T (mkF m (pc + 1) Ls (v :: rest))) : own_Go p e below P T (mkF m pc Ls (.int j :: .ref b :: rest)) := by
  obtain ⟨cl, A1, q1, S, q3, H, G⟩ := A
  exact own_go (X.aaload hx (j := j) (v := v) (by rw [eT]; exact A1.1) (State.isArrayOf_alike hZ.alike A1.2.1) hty A1.2.2 (inb_of S hj) (H.at (inb_of S hj) hv) (g := mkF m pc Ls (.int j :: .ref b :: rest)) rfl rfl hd) kk
theorem own_ldC (X : Stand p l e R s m args below meth c T locs cells slots) (hx : p.tables.exec = Jvm.exec) (hZ : Z.Warmed39 s.vm) (eT : T.heap = h) (A : Arv Z h b k .char n vs dv) (hj : ¬ j < 0 ∧ j < n) (hv : vs.getD j.toNatClampNeg dv = v) (hd : decode c.code pc = .ok (.caload, 1))
    (kk : own_Go p e below P T (mkF m (pc + 1) Ls (v :: rest))) : own_Go p e below P T (mkF m pc Ls (.int j :: .ref b :: rest)) := by
  obtain ⟨cl, A1, q1, S, q3, H, G⟩ := A
  exact own_go (X.caload hx (j := j) (v := v) (by rw [eT]; exact A1.1) (State.isArrayOf_alike hZ.alike A1.2.1) A1.2.2 (inb_of S hj) (H.at (inb_of S hj) hv) (g := mkF m pc Ls (.int j :: .ref b :: rest)) rfl rfl hd) kk
theorem own_ldB (X : Stand p l e R s m args below meth c T locs cells slots) (hx : p.tables.exec = Jvm.exec) (hZ : Z.Warmed39 s.vm) (eT : T.heap = h) (A : Arv Z h b k .byte n vs dv) (hj : ¬ j < 0 ∧ j < n) (hv : vs.getD j.toNatClampNeg dv = v) (hd : decode c.code pc = .ok (.baload, 1))
    (kk : own_Go p e below P T (mkF m (pc + 1) Ls (v :: rest))) : own_Go p e below P T (mkF m pc Ls (.int j :: .ref b :: rest)) := by
  obtain ⟨cl, A1, q1, S, q3, H, G⟩ := A
  exact own_go (X.baloadBytes hx (j := j) (v := v) (by rw [eT]; exact A1.1) (State.isArrayOf_alike hZ.alike A1.2.1) A1.2.2 (inb_of S hj) (H.at (inb_of S hj) hv) (g := mkF m pc Ls (.int j :: .ref b :: rest)) rfl rfl hd) kk
theorem own_ldI (X : Stand p l e R s m args below meth c T locs cells slots) (hx : p.tables.exec = Jvm.exec) (hZ : Z.Warmed39 s.vm) (eT : T.heap = h) (A : Arv Z h b k .int n vs dv) (hj : ¬ j < 0 ∧ j < n) (hv : vs.getD j.toNatClampNeg dv = v) (hd : decode c.code pc = .ok (.iaload, 1))
    (kk : own_Go p e below P T (mkF m (pc + 1) Ls (v :: rest))) : own_Go p e below P T (mkF m pc Ls (.int j :: .ref b :: rest)) := by
  obtain ⟨cl, A1, q1, S, q3, H, G⟩ := A
  exact own_go (X.iaload hx (j := j) (v := v) (by rw [eT]; exact A1.1) (State.isArrayOf_alike hZ.alike A1.2.1) A1.2.2 (inb_of S hj) (H.at (inb_of S hj) hv) (g := mkF m pc Ls (.int j :: .ref b :: rest)) rfl rfl hd) kk
theorem own_len (X : Stand p l e R s m args below meth c T locs cells slots) (hx : p.tables.exec = Jvm.exec) (hZ : Z.Warmed39 s.vm) (eT : T.heap = h) (A : Arv Z h b k ty n vs dv) (hd : decode c.code pc = .ok (.arraylength, 1))
    (kk : own_Go p e below P T (mkF m (pc + 1) Ls (.int n :: rest))) : own_Go p e below P T (mkF m pc Ls (.ref b :: rest)) := by
  obtain ⟨cl, A1, q1, S, q3, H, G⟩ := A
  refine own_go (X.arraylength hx (by rw [eT]; exact A1.1) (State.isArrayOf_alike hZ.alike A1.2.1) (g := mkF m pc Ls (.ref b :: rest)) rfl rfl hd) ?_
  rw [len_of S q3]
  exact kk
end Own2
/-- a datum times 2^k -/
def own_sh (k : Int) : FP.Core.Datum → FP.Core.Datum
  | .fin s c q => .fin s c (q + k)
  | .nan => .nan
  | .inf s => .inf s
/-- the datum is i / 2^k -/
def own_Sd (k i : Int) (d : FP.Core.Datum) : Prop := FP.Core.Whole i (own_sh k d)
/-- the double is i / 2^k -/
def own_Sc (k i : Int) (a : UInt64) : Prop := own_Sd k i (FP.Core.val64 a)
theorem own_sd_fin {k i : Int} {d : FP.Core.Datum} (h : own_Sd k i d) : ∃ s c q, d = .fin s c q ∧ FP.Core.Whole i (.fin s c (q + k)) := by
  cases d with
  | nan => exact h.elim
  | inf s => exact h.elim
  | fin s c q => exact ⟨s, c, q, rfl, h⟩
theorem own_sgn {s : Bool} {i : Int} {c : Nat} {q : Int} (h : FP.Core.Whole i (.fin s c q)) : FP.Core.signed s i.natAbs = i := by
  by_cases hi0 : i = 0
  · rw [hi0]; exact FP.Core.signed_zero s
  · rw [FP.Core.whole_sign h hi0]
    show (if decide (i < 0) = true then -((i.natAbs : Nat) : Int) else ((i.natAbs : Nat) : Int)) = i
    by_cases h : i < 0
    · rw [if_pos (decide_eq_true h)]; omega
    · rw [if_neg (by rw [decide_eq_false h]; decide)]; omega
theorem own_sd_round {k : Int} (k0 : 0 ≤ k) (k1 : k ≤ 1000) {i : Int} (hi : i.natAbs < 2 ^ 53) {d : FP.Core.Datum} (h : own_Sd k i d) : own_Sd k i (FP.Core.round FP.Core.b64 d) := by
  obtain ⟨s, c, q, rfl, h0⟩ := own_sd_fin h
  have hn := FP.Core.whole_natAbs h0
  have e1 : FP.Core.round FP.Core.b64 (.fin s c q) = FP.Core.round FP.Core.b64 (.fin s i.natAbs (-k)) := by
    refine FP.Core.roundRatio_congr (by decide) (by decide) ?_
    rw [show (q - -k).toNat = (q + k).toNat by omega, show (-k - q).toNat = (-(q + k)).toNat by omega, Nat.mul_one, Nat.mul_one]
    exact hn
  have b1 : FP.Core.b64.qmin = -1074 := FP.Core.qmin_b64
  have b2 : FP.Core.b64.qmax = 971 := by decide
  obtain ⟨c', q', r1, r2⟩ := FP.Core.round_exact FP.Core.good_b64 s (c := i.natAbs) (q := -k) hi (by rw [b1]; omega) (by rw [b2]; omega)
  have hf : FP.Core.fits FP.Core.b64 (.fin s c' q') := r1 ▸ FP.Core.round_fits FP.Core.good_b64 _
  obtain ⟨-, hq, -, -⟩ := hf
  rw [b1] at hq r2
  rw [e1, r1]
  show FP.Core.signed s (c' * 2 ^ (q' + k).toNat) = i * ((2 ^ (-(q' + k)).toNat : Nat) : Int)
  have r3 : c' * 2 ^ (q' - -1074).toNat = i.natAbs * 2 ^ (-k - -1074).toNat := r2
  have key : c' * 2 ^ (q' + k).toNat = i.natAbs * 2 ^ (-(q' + k)).toNat := by
    by_cases hs : 0 ≤ q' + k
    · have p := Nat.two_pow_pos (-k - -1074).toNat
      have x1 : (q' - -1074).toNat = (q' + k).toNat + (-k - -1074).toNat := by omega
      have x2 : (-(q' + k)).toNat = 0 := by omega
      rw [x1, Nat.pow_add, ← Nat.mul_assoc] at r3
      rw [x2, Nat.pow_zero, Nat.mul_one]
      exact Nat.eq_of_mul_eq_mul_right p r3
    · have p := Nat.two_pow_pos (q' - -1074).toNat
      have x1 : (-k - -1074).toNat = (-(q' + k)).toNat + (q' - -1074).toNat := by omega
      have x2 : (q' + k).toNat = 0 := by omega
      rw [x1, Nat.pow_add, ← Nat.mul_assoc] at r3
      rw [x2, Nat.pow_zero, Nat.mul_one]
      exact Nat.eq_of_mul_eq_mul_right p r3
  rw [key, FP.Core.signed_mul, own_sgn h0]
theorem own_sd_sum {k i j : Int} {x y : FP.Core.Datum} (hx : own_Sd k i x) (hy : own_Sd k j y) : own_Sd k (i + j) (FP.Core.exactSum x y) := by
  obtain ⟨s, c, q, rfl, h1⟩ := own_sd_fin hx
  obtain ⟨t, d, r, rfl, h2⟩ := own_sd_fin hy
  have h3 : FP.Core.Whole (i + j) (.fin (FP.Core.sumSign s t (FP.Core.sumUnits s c (q + k) t d (r + k) (min (q + k) (r + k)))) (FP.Core.sumUnits s c (q + k) t d (r + k) (min (q + k) (r + k))).natAbs (min (q + k) (r + k))) := FP.Core.whole_sum h1 h2
  have e : min (q + k) (r + k) = min q r + k := by omega
  have u : FP.Core.sumUnits s c (q + k) t d (r + k) (min q r + k) = FP.Core.sumUnits s c q t d r (min q r) := by
    show FP.Core.signed s (c * 2 ^ ((q + k) - (min q r + k)).toNat) + FP.Core.signed t (d * 2 ^ ((r + k) - (min q r + k)).toNat) = FP.Core.signed s (c * 2 ^ (q - min q r).toNat) + FP.Core.signed t (d * 2 ^ (r - min q r).toNat)
    rw [show (q + k) - (min q r + k) = q - min q r by omega, show (r + k) - (min q r + k) = r - min q r by omega]
  rw [e, u] at h3
  exact h3
theorem own_sd_neg {k i : Int} {x : FP.Core.Datum} (hx : own_Sd k i x) : own_Sd k (-i) (FP.Core.negate x) := by
  obtain ⟨s, c, q, rfl, h1⟩ := own_sd_fin hx
  exact FP.Core.whole_negate h1
theorem own_sd_mul {k l i j : Int} {x y : FP.Core.Datum} (hx : own_Sd k i x) (hy : own_Sd l j y) : own_Sd (k + l) (i * j) (FP.Core.exactProduct x y) := by
  obtain ⟨s, c, q, rfl, h1⟩ := own_sd_fin hx
  obtain ⟨t, d, r, rfl, h2⟩ := own_sd_fin hy
  have h3 : FP.Core.Whole (i * j) (.fin (s != t) (c * d) (q + k + (r + l))) := FP.Core.whole_product h1 h2
  rw [show q + k + (r + l) = q + r + (k + l) by omega] at h3
  exact h3
theorem own_sd_order {k i j : Int} {x y : FP.Core.Datum} (hx : own_Sd k i x) (hy : own_Sd k j y) : FP.Core.order x y = some (compare i j) := by
  obtain ⟨s, c, q, rfl, h1⟩ := own_sd_fin hx
  obtain ⟨t, d, r, rfl, h2⟩ := own_sd_fin hy
  have h3 : some (compare (FP.Core.signed s (c * 2 ^ ((q + k) - min (q + k) (r + k)).toNat)) (FP.Core.signed t (d * 2 ^ ((r + k) - min (q + k) (r + k)).toNat))) = some (compare i j) := FP.Core.order_whole h1 h2
  rw [show (q + k) - min (q + k) (r + k) = q - min q r by omega, show (r + k) - min (q + k) (r + k) = r - min q r by omega] at h3
  exact h3
theorem own_sc0 {i : Int} {a : UInt64} (h : FP.Core.DInt i a) : own_Sc 0 i a := by
  have h0 : FP.Core.Whole i (FP.Core.val64 a) := h
  show FP.Core.Whole i (own_sh 0 (FP.Core.val64 a))
  cases e : FP.Core.val64 a with
  | nan => rw [e] at h0; exact h0.elim
  | inf s => rw [e] at h0; exact h0.elim
  | fin s c q => rw [e] at h0; show FP.Core.Whole i (.fin s c (q + 0)); rw [Int.add_zero]; exact h0
theorem own_i2d (x : Int32) : own_Sc 0 x.toInt (FP.i2d x) := own_sc0 (FP.Core.i2d_int x)
theorem own_l2d {x : Int64} (h : x.toInt.natAbs ≤ 2 ^ 53) : own_Sc 0 x.toInt (FP.l2d x) := own_sc0 (FP.Core.l2d_int h)
theorem own_dadd {k i j : Int} {a b : UInt64} (ha : own_Sc k i a) (hb : own_Sc k j b) (k0 : 0 ≤ k) (k1 : k ≤ 1000) (h : (i + j).natAbs < 2 ^ 53) : own_Sc k (i + j) (FP.dadd a b) := by
  show own_Sd k (i + j) (FP.Core.val64 (FP.dadd a b))
  rw [FP.Core.val64_dadd]; exact own_sd_round k0 k1 h (own_sd_sum ha hb)
theorem own_dsub {k i j : Int} {a b : UInt64} (ha : own_Sc k i a) (hb : own_Sc k j b) (k0 : 0 ≤ k) (k1 : k ≤ 1000) (h : (i - j).natAbs < 2 ^ 53) : own_Sc k (i - j) (FP.dsub a b) := by
  show own_Sd k (i - j) (FP.Core.val64 (FP.dsub a b))
  rw [FP.Core.val64_dsub]; exact own_sd_round k0 k1 h (own_sd_sum ha (own_sd_neg hb))
theorem own_dmul {k l i j : Int} {a b : UInt64} (ha : own_Sc k i a) (hb : own_Sc l j b) (k0 : 0 ≤ k + l) (k1 : k + l ≤ 1000) (h : (i * j).natAbs < 2 ^ 53) : own_Sc (k + l) (i * j) (FP.dmul a b) := by
  show own_Sd (k + l) (i * j) (FP.Core.val64 (FP.dmul a b))
  rw [FP.Core.val64_dmul]; exact own_sd_round k0 k1 h (own_sd_mul ha hb)
/-- by a power of two -/
theorem own_ddiv {k m i : Int} {a K : UInt64} (ha : own_Sc k i a) (hK : FP.Core.val64 K = .fin false (2 ^ 52) (m - 52)) (k0 : 0 ≤ k + m) (k1 : k + m ≤ 1000) (hi : i.natAbs < 2 ^ 53) : own_Sc (k + m) i (FP.ddiv a K) := by
  show own_Sd (k + m) i (FP.Core.val64 (FP.ddiv a K))
  rw [FP.Core.val64_ddiv, hK]
  obtain ⟨s, c, q, e, h0⟩ := own_sd_fin ha
  rw [e]
  have e2 : FP.Core.quotient FP.Core.b64 (.fin s c q) (.fin false (2 ^ 52) (m - 52)) = FP.Core.round FP.Core.b64 (.fin s c (q - m)) := by
    show (if (2 ^ 52 : Nat) = 0 then (if c = 0 then FP.Core.Datum.nan else .inf (s != false)) else FP.Core.roundRatio FP.Core.b64 (s != false) c (2 ^ 52) (q - (m - 52))) = FP.Core.roundRatio FP.Core.b64 s c 1 (q - m)
    rw [if_neg (by decide), show (s != false) = s by cases s <;> rfl]
    refine FP.Core.roundRatio_congr (by decide) (by decide) ?_
    rw [show (q - (m - 52) - (q - m)).toNat = 52 by omega, show (q - m - (q - (m - 52))).toNat = 0 by omega, Nat.mul_one, Nat.pow_zero, Nat.mul_one]
  rw [e2]
  refine own_sd_round k0 k1 hi ?_
  show FP.Core.Whole i (.fin s c (q - m + (k + m)))
  rw [show q - m + (k + m) = q + k by omega]; exact h0
/-- rescaled -/
theorem own_up {k i : Int} {a : UInt64} (h : own_Sc k i a) (j : Nat) : own_Sc (k + j) (i * ((2 ^ j : Nat) : Int)) a := by
  obtain ⟨s, c, q, e, h0⟩ := own_sd_fin h
  show own_Sd (k + j) _ (FP.Core.val64 a)
  rw [e]
  show FP.Core.signed s (c * 2 ^ (q + (k + j)).toNat) = i * ((2 ^ j : Nat) : Int) * ((2 ^ (-(q + (k + j))).toNat : Nat) : Int)
  have h1 : FP.Core.signed s (c * 2 ^ (q + k).toNat) = i * ((2 ^ (-(q + k)).toNat : Nat) : Int) := h0
  have p2 : ((2 ^ (-(q + k)).toNat : Nat) : Int) ≠ 0 := by
    have := Nat.two_pow_pos (-(q + k)).toNat; omega
  refine Int.eq_of_mul_eq_mul_right p2 ?_
  have hx : (q + (k + j)).toNat + (-(q + k)).toNat = (q + k).toNat + (j + (-(q + (k + j))).toNat) := by omega
  rw [← FP.Core.signed_mul, Nat.mul_assoc, ← Nat.pow_add, hx, Nat.pow_add 2 (q + k).toNat, ← Nat.mul_assoc, FP.Core.signed_mul, h1, Nat.pow_add, Int.natCast_mul]
  ac_rfl
theorem own_scfin {k i : Int} {a : UInt64} (h : own_Sc k i a) : Jvm.Free.Fl.Fin64 a := by
  obtain ⟨s, c, q, e, -⟩ := own_sd_fin h
  exact Jvm.Free.Fl.fin64_core.mpr ⟨s, c, q, e⟩
theorem own_scnn {k i : Int} {a b : UInt64} (e : b = a) (h : own_Sc k i a) : Jvm.Free.Fl.NoNaN64 b := e ▸ (own_scfin h).noNaN
theorem own_dcmp {k i j : Int} {a b : UInt64} (ha : own_Sc k i a) (hb : own_Sc k j b) : FP.dcmp a b = some (compare i j) := own_sd_order ha hb
theorem own_cmpLt {k i j : Int} {a b : UInt64} (ha : own_Sc k i a) (hb : own_Sc k j b) (h : i < j) (o : CmpOp) : cmpValue (FP.dcmp a b) o = -1 := by
  rw [own_dcmp ha hb, show compare i j = Ordering.lt from Int.compare_eq_lt.mpr h]; rfl
theorem own_cmpEq {k i j : Int} {a b : UInt64} (ha : own_Sc k i a) (hb : own_Sc k j b) (h : i = j) (o : CmpOp) : cmpValue (FP.dcmp a b) o = 0 := by
  rw [own_dcmp ha hb, show compare i j = Ordering.eq from Int.compare_eq_eq.mpr h]; rfl
theorem own_cmpGt {k i j : Int} {a b : UInt64} (ha : own_Sc k i a) (hb : own_Sc k j b) (h : j < i) (o : CmpOp) : cmpValue (FP.dcmp a b) o = 1 := by
  rw [own_dcmp ha hb, show compare i j = Ordering.gt from Int.compare_eq_gt.mpr h]; rfl
/-- not less: the answer is no negative int -/
theorem own_cmpGe {k i j : Int} {a b : UInt64} (ha : own_Sc k i a) (hb : own_Sc k j b) (h : j ≤ i) (o : CmpOp) : ¬ cmpValue (FP.dcmp a b) o < 0 := by
  rcases Int.lt_or_eq_of_le h with h | h
  · rw [own_cmpGt ha hb h]; decide
  · rw [own_cmpEq ha hb h.symm]; decide
theorem own_cmpLe {k i j : Int} {a b : UInt64} (ha : own_Sc k i a) (hb : own_Sc k j b) (h : i ≤ j) (o : CmpOp) : ¬ 0 < cmpValue (FP.dcmp a b) o := by
  rcases Int.lt_or_eq_of_le h with h | h
  · rw [own_cmpLt ha hb h]; decide
  · rw [own_cmpEq ha hb h]; decide
theorem own_d0 (k : Nat) : own_Sc k 0 FP.dconst0 := by
  show FP.Core.Whole 0 (own_sh k (FP.Core.val64 FP.Core.dconst0))
  rw [FP.Core.val64_dconst0]
  show FP.Core.signed false (0 * _) = 0 * _
  rw [Nat.zero_mul, Int.zero_mul]; rfl
theorem own_d1 : own_Sc 0 1 FP.dconst1 := by
  show FP.Core.Whole 1 (own_sh 0 (FP.Core.val64 FP.Core.dconst1))
  rw [FP.Core.val64_dconst1]
  show FP.Core.signed false (2 ^ 52 * 2 ^ (-52 + 0 : Int).toNat) = 1 * ((2 ^ (-(-52 + 0 : Int)).toNat : Nat) : Int)
  decide +kernel
theorem own_eqSc {k k' i i' : Int} {a : UInt64} (h : own_Sc k i a) (ek : k = k') (ei : i = i') : own_Sc k' i' a := by subst ek ei; exact h
/-- a quotient, by the whole numbers alone -/
theorem own_quo {k i j : Int} {a b : UInt64} (ha : own_Sc k i a) (hb : own_Sc k j b) (hi : 0 < i) (hj : 0 < j) : FP.Core.val64 (FP.ddiv a b) = FP.Core.roundRatio FP.Core.b64 false i.natAbs j.natAbs 0 := by
  rw [FP.Core.val64_ddiv]
  obtain ⟨s, c, q, e, h1⟩ := own_sd_fin ha
  obtain ⟨t, d, r, e', h2⟩ := own_sd_fin hb
  rw [e, e']
  have s1 := FP.Core.whole_sign h1 (by omega)
  have s2 := FP.Core.whole_sign h2 (by omega)
  rw [decide_eq_false (by omega)] at s1 s2
  subst s1 s2
  have hd : d ≠ 0 := fun q => by have := (FP.Core.whole_zero h2).mp q; omega
  show (if d = 0 then (if c = 0 then FP.Core.Datum.nan else .inf (false != false)) else FP.Core.roundRatio FP.Core.b64 (false != false) c d (q - r)) = _
  rw [if_neg hd]
  refine FP.Core.roundRatio_congr (by omega) (by omega) ?_
  have n1 := FP.Core.whole_natAbs h1
  have n2 := FP.Core.whole_natAbs h2
  have p : 0 < 2 ^ (q + k).toNat * 2 ^ (-(r + k)).toNat := Nat.mul_pos (Nat.two_pow_pos _) (Nat.two_pow_pos _)
  have n3 : c * j.natAbs * (2 ^ (q + k).toNat * 2 ^ (-(r + k)).toNat) = i.natAbs * d * (2 ^ (-(q + k)).toNat * 2 ^ (r + k).toNat) := by
    calc c * j.natAbs * (2 ^ (q + k).toNat * 2 ^ (-(r + k)).toNat) = (c * 2 ^ (q + k).toNat) * (j.natAbs * 2 ^ (-(r + k)).toNat) := by ac_rfl
      _ = (i.natAbs * 2 ^ (-(q + k)).toNat) * (d * 2 ^ (r + k).toNat) := by rw [n1, ← n2]
      _ = i.natAbs * d * (2 ^ (-(q + k)).toNat * 2 ^ (r + k).toNat) := by ac_rfl
  refine Nat.eq_of_mul_eq_mul_right p ?_
  have hx : (-(q + k)).toNat + (r + k).toNat + (q - r - 0).toNat = (q + k).toNat + (-(r + k)).toNat + (0 - (q - r)).toNat := by omega
  calc c * j.natAbs * 2 ^ (q - r - 0).toNat * (2 ^ (q + k).toNat * 2 ^ (-(r + k)).toNat)
      = c * j.natAbs * (2 ^ (q + k).toNat * 2 ^ (-(r + k)).toNat) * 2 ^ (q - r - 0).toNat := by ac_rfl
    _ = i.natAbs * d * 2 ^ ((-(q + k)).toNat + (r + k).toNat + (q - r - 0).toNat) := by rw [n3, Nat.pow_add, Nat.pow_add]; ac_rfl
    _ = i.natAbs * d * 2 ^ (0 - (q - r)).toNat * (2 ^ (q + k).toNat * 2 ^ (-(r + k)).toNat) := by rw [hx, Nat.pow_add, Nat.pow_add]; ac_rfl
theorem og_ldcD (X : Stand p l e R s m args below meth c T locs cells slots) (hx : p.tables.exec = Jvm.exec) (hZ : Z.Warmed39 s.vm) {own : String} {index : Nat} {v : UInt64} (hown : s.vm.findClass own = some m.cls) (w : (Jvm.Cond.constantDouble own index v).before a0 Z = true) (hd : decode c.code pc = .ok (.ldc2_w index, 3)) (kk : own_Go p e below P T (mkF m (pc + 3) Ls (.double v :: st))) : own_Go p e below P T (mkF m pc Ls st) :=
  own_go (fun t q => X.ldc2DoubleC hx hown (mvT hZ w) (g := mkF m pc Ls st) rfl hd t q) kk
theorem own_retD (X : Stand p l e R s m args below meth c T locs cells slots) (hx : p.tables.exec = Jvm.exec) {pc : Nat} {Ls : Array Slot} {z : UInt64} {rest : List Value} (hret : meth.sig.returnType = some .double) (hlk : meth.locks = false) (hd : decode c.code pc = .ok (.dreturn, 1))
    {Q : Option Value → Heap → List Loc → Prop} {kc kn : Nat} (hc : cells ≤ kc) (hs : slots ≤ kn) (hQ : Q (some (.double z)) T.heap locs) : own_Go p e below (own_End s Q kc kn) T (mkF m pc Ls (.double z :: rest)) :=
  own_ret X hx hret hlk hd rfl (Or.inr (Or.inr (Or.inl ⟨rfl, rfl, z, rfl⟩))) hc hs hQ
/-- by a double that is a power of two -/
theorem own_ddivP {a i : Int} {k l : Nat} {x y : UInt64} (hx : own_Sc a i x) (hy : own_Sc l ((2 ^ k : Nat) : Int) y) (k0 : 0 ≤ a + k) (k1 : a + k ≤ 1000) (hi : (i * ((2 ^ l : Nat) : Int)).natAbs < 2 ^ 53) : own_Sc (a + k) (i * ((2 ^ l : Nat) : Int)) (FP.ddiv x y) := by
  show own_Sd (a + k) _ (FP.Core.val64 (FP.ddiv x y))
  rw [FP.Core.val64_ddiv]
  obtain ⟨s, c, q, e, h1⟩ := own_sd_fin hx
  obtain ⟨t, d, r, e', h2⟩ := own_sd_fin hy
  rw [e, e']
  have pk := Nat.two_pow_pos k
  have s2 := FP.Core.whole_sign h2 (by omega)
  rw [decide_eq_false (by omega)] at s2
  subst s2
  have hd : d ≠ 0 := fun q => by have := (FP.Core.whole_zero h2).mp q; omega
  have n1 := FP.Core.whole_natAbs h1
  have n2 := FP.Core.whole_natAbs h2
  rw [Int.natAbs_natCast] at n2
  have e2 : FP.Core.quotient FP.Core.b64 (.fin s c q) (.fin false d r) = FP.Core.round FP.Core.b64 (.fin s (i.natAbs * 2 ^ l) (-(a + k))) := by
    show (if d = 0 then (if c = 0 then FP.Core.Datum.nan else .inf (s != false)) else FP.Core.roundRatio FP.Core.b64 (s != false) c d (q - r)) = FP.Core.roundRatio FP.Core.b64 s (i.natAbs * 2 ^ l) 1 (-(a + k))
    rw [if_neg hd, show (s != false) = s by cases s <;> rfl]
    refine FP.Core.roundRatio_congr (Nat.pos_of_ne_zero hd) (by decide) ?_
    rw [Nat.mul_one]
    have p : 0 < 2 ^ (q + a).toNat * 2 ^ (r + l).toNat := Nat.mul_pos (Nat.two_pow_pos _) (Nat.two_pow_pos _)
    refine Nat.eq_of_mul_eq_mul_right p ?_
    have hh : (-(q + a)).toNat + (q - r - -(a + k)).toNat + (r + l).toNat = l + k + (-(r + l)).toNat + (-(a + k) - (q - r)).toNat + (q + a).toNat := by omega
    calc c * 2 ^ (q - r - -(a + k)).toNat * (2 ^ (q + a).toNat * 2 ^ (r + l).toNat)
        = (c * 2 ^ (q + a).toNat) * 2 ^ (q - r - -(a + k)).toNat * 2 ^ (r + l).toNat := by ac_rfl
      _ = i.natAbs * 2 ^ ((-(q + a)).toNat + (q - r - -(a + k)).toNat + (r + l).toNat) := by rw [n1, Nat.pow_add, Nat.pow_add]; ac_rfl
      _ = i.natAbs * 2 ^ l * (2 ^ k * 2 ^ (-(r + l)).toNat) * 2 ^ (-(a + k) - (q - r)).toNat * 2 ^ (q + a).toNat := by rw [hh, Nat.pow_add, Nat.pow_add, Nat.pow_add, Nat.pow_add]; ac_rfl
      _ = i.natAbs * 2 ^ l * d * 2 ^ (-(a + k) - (q - r)).toNat * (2 ^ (q + a).toNat * 2 ^ (r + l).toNat) := by rw [← n2]; ac_rfl
  rw [e2]
  refine own_sd_round k0 k1 hi ?_
  show FP.Core.signed s (i.natAbs * 2 ^ l * 2 ^ (-(a + k) + (a + k)).toNat) = i * ((2 ^ l : Nat) : Int) * ((2 ^ (-(-(a + k) + (a + k))).toNat : Nat) : Int)
  rw [show (-(a + k) + (a + k)).toNat = 0 by omega, show (-(-(a + k) + (a + k))).toNat = 0 by omega, Nat.pow_zero, Nat.mul_one, FP.Core.signed_mul, own_sgn h1, Int.natCast_one, Int.mul_one]
theorem own_mulb {a b A B : Int} (ha : 0 ≤ a ∧ a ≤ A) (hb : 0 ≤ b ∧ b ≤ B) : 0 ≤ a * b ∧ a * b ≤ A * B :=
  ⟨Int.mul_nonneg ha.1 hb.1, Int.mul_le_mul ha.2 hb.2 hb.1 (Int.le_trans ha.1 ha.2)⟩
/-- two quotients of the same whole numbers are one double -/
theorem own_quoEq {k i j : Int} {a b : UInt64} {N D : Int64} (ha : own_Sc k i a) (hb : own_Sc k j b) (hN : N.toInt = i) (hD : D.toInt = j) (hi : 0 < i) (hj : 0 < j) (i1 : i < 9007199254740992) (j1 : j < 9007199254740992) : FP.ddiv a b = FP.ddiv (FP.l2d N) (FP.l2d D) := by
  have q1 := own_quo ha hb hi hj
  have q2 := own_quo (own_l2d (x := N) (by rw [hN]; omega)) (own_l2d (x := D) (by rw [hD]; omega)) (by omega) (by omega)
  rw [hN, hD] at q2
  refine FP.Core.val64_inj ?_ (q1.trans q2.symm)
  rw [q1]
  intro z
  have f := FP.Core.round_nan (f := FP.Core.b64) (d := .fin false i.natAbs 0)
  have hf : ∀ (s : Bool) (A B : Nat) (e : Int), FP.Core.roundRatio FP.Core.b64 s A B e ≠ .nan := by
    intro s A B e
    show (if A = 0 then FP.Core.Datum.fin s 0 FP.Core.b64.qmin else FP.Core.settle FP.Core.b64 s (FP.Core.nearest (FP.Core.unitsNum A e (FP.Core.quantum FP.Core.b64 A B e)) (FP.Core.unitsDen B e (FP.Core.quantum FP.Core.b64 A B e))) (FP.Core.quantum FP.Core.b64 A B e)) ≠ .nan
    by_cases h : A = 0
    · rw [if_pos h]; exact nofun
    · rw [if_neg h]
      generalize FP.Core.nearest _ _ = c
      generalize FP.Core.quantum _ _ _ _ = q
      show (if c < 2 ^ FP.Core.b64.p then (if q ≤ FP.Core.b64.qmax then FP.Core.Datum.fin s c q else .inf s) else (if q + 1 ≤ FP.Core.b64.qmax then FP.Core.Datum.fin s FP.Core.b64.tails (q + 1) else .inf s)) ≠ .nan
      by_cases h1 : c < 2 ^ FP.Core.b64.p
      · rw [if_pos h1]; by_cases h2 : q ≤ FP.Core.b64.qmax
        · rw [if_pos h2]; exact nofun
        · rw [if_neg h2]; exact nofun
      · rw [if_neg h1]; by_cases h2 : q + 1 ≤ FP.Core.b64.qmax
        · rw [if_pos h2]; exact nofun
        · rw [if_neg h2]; exact nofun
  exact hf _ _ _ _ z
theorem own_quoMag {N D : Int64} (h : D ≠ 0) : Jvm.Free.Fl.Mag64 1089 (FP.ddiv (FP.l2d N) (FP.l2d D)) := (Jvm.RoadKit.ddiv_mag (K := 1088) (L := 1023) (Jvm.Free.Fl.l2d_mag N) (Jvm.RoadKit.l2d_big h) (by decide) (by decide)).mono (by decide)
theorem own_mulJ {x y : Int64} {A B : Int} (hx : 0 ≤ x.toInt ∧ x.toInt ≤ A) (hy : 0 ≤ y.toInt ∧ y.toInt ≤ B) (h : A * B < 2 ^ 63) : (x * y).toInt = x.toInt * y.toInt ∧ 0 ≤ (x * y).toInt ∧ (x * y).toInt ≤ A * B := by
  have m := own_mulb hx hy
  have e := Jvm.Kit.i64_mul (x := x) (y := y) (by omega) (by omega)
  rw [e]; exact ⟨rfl, m⟩
theorem own_addJ {x y : Int64} {A B : Int} (hx : 0 ≤ x.toInt ∧ x.toInt ≤ A) (hy : 0 ≤ y.toInt ∧ y.toInt ≤ B) (h : A + B < 2 ^ 63) : (x + y).toInt = x.toInt + y.toInt ∧ 0 ≤ (x + y).toInt ∧ (x + y).toInt ≤ A + B := by
  have e := Jvm.Kit.i64_add (x := x) (y := y) (by omega) (by omega)
  rw [e]; exact ⟨rfl, by omega, by omega⟩
theorem own_sh16 : ∀ n : Fin 16, ((1 : Int32) <<< (Int32.ofNat n.val &&& 31)).toInt = ((2 ^ n.val : Nat) : Int) ∧ ((4 : Int64) <<< (Int32.ofNat n.val &&& 0x3f).toInt64).toInt = 4 * ((2 ^ n.val : Nat) : Int) ∧ ((1 : Int64) <<< (Int32.ofNat n.val &&& 0x3f).toInt64).toInt = ((2 ^ n.val : Nat) : Int) := by decide +kernel
theorem own_shift {s : Int32} (h : 0 ≤ s.toInt ∧ s.toInt ≤ 15) : ∃ k : Nat, k ≤ 15 ∧ ((1 : Int32) <<< (s &&& 31)).toInt = ((2 ^ k : Nat) : Int) ∧ ((4 : Int64) <<< (s &&& 0x3f).toInt64).toInt = 4 * ((2 ^ k : Nat) : Int) ∧ ((1 : Int64) <<< (s &&& 0x3f).toInt64).toInt = ((2 ^ k : Nat) : Int) := by
  obtain ⟨n, rfl⟩ : ∃ n : Fin 16, s = Int32.ofNat n.val := by
    refine ⟨⟨s.toInt.toNat, by omega⟩, Int32.toInt_inj.mp ?_⟩
    rw [Int32.toInt_ofNat_small (by show s.toInt.toNat < 2 ^ 31; omega)]
    show s.toInt = (s.toInt.toNat : Int); omega
  exact ⟨n.val, by omega, own_sh16 n⟩
theorem own_pow15 {k : Nat} (h : k ≤ 15) : 0 ≤ ((2 ^ k : Nat) : Int) ∧ ((2 ^ k : Nat) : Int) ≤ 32768 := by
  have q := Nat.pow_le_pow_right (show 0 < 2 by decide) h
  generalize 2 ^ k = P at q ⊢
  omega
theorem own_pow1 (k : Nat) : 0 < ((2 ^ k : Nat) : Int) := by
  have q := Nat.two_pow_pos k
  generalize 2 ^ k = P at q ⊢
  omega
theorem own_and1048575 (x : Int32) : 0 ≤ (x &&& 1048575).toInt ∧ (x &&& 1048575).toInt ≤ 1048575 := by
  have h : (x &&& 1048575).toInt = x.toInt % 2 ^ 20 := Jvm.Kit.i32_mask x 1048575 (k := 20) (by decide) (by decide)
  rw [h]; omega
theorem own_and63 (x : Int32) : 0 ≤ (x &&& 63).toInt ∧ (x &&& 63).toInt ≤ 63 := by
  have h : (x &&& 63).toInt = x.toInt % 2 ^ 6 := Jvm.Kit.i32_mask x 63 (k := 6) (by decide) (by decide)
  rw [h]; omega
theorem own_and7 (x : Int32) : 0 ≤ (x &&& 7).toInt ∧ (x &&& 7).toInt ≤ 7 := by
  have h : (x &&& 7).toInt = x.toInt % 2 ^ 3 := Jvm.Kit.i32_mask x 7 (k := 3) (by decide) (by decide)
  rw [h]; omega
theorem own_and15 (x : Int32) : 0 ≤ (x &&& 15).toInt ∧ (x &&& 15).toInt ≤ 15 := by
  have h : (x &&& 15).toInt = x.toInt % 2 ^ 4 := Jvm.Kit.i32_mask x 15 (k := 4) (by decide) (by decide)
  rw [h]; omega
theorem own_and255 (x : Int32) : 0 ≤ (x &&& 255).toInt ∧ (x &&& 255).toInt ≤ 255 := by
  have h : (x &&& 255).toInt = x.toInt % 2 ^ 8 := Jvm.Kit.i32_mask x 255 (k := 8) (by decide) (by decide)
  rw [h]; omega
theorem own_rem7 (x : Int32) : 0 ≤ ((x &&& 7) % 5).toInt ∧ ((x &&& 7) % 5).toInt ≤ 4 := by
  have h := own_and7 x
  have q : ((x &&& 7) % 5).toInt = (x &&& 7).toInt % (5 : Int32).toInt := Jvm.Kit.i32_rem_nonneg h.1
  have e : (5 : Int32).toInt = 5 := rfl
  rw [q, e]; omega
theorem own_e16 (a P : Int) : 4 * a * (4 * P) = a * (P * 16) := by rw [show P * 16 = 4 * (4 * P) by omega, Int.mul_comm 4 a, Int.mul_assoc]
theorem own_p4 (k : Nat) : ((2 ^ (k + 4) : Nat) : Int) = ((2 ^ k : Nat) : Int) * 16 := by rw [Nat.pow_add, Int.natCast_mul]; rfl
theorem own_p2 (k : Nat) : ((2 ^ (k + 2) : Nat) : Int) = 4 * ((2 ^ k : Nat) : Int) := by rw [Nat.pow_add, Int.natCast_mul, Int.mul_comm]; rfl
def own_Qi (Z : State) (a1 : Addr) (x1 x2 x3 : UInt64) (h0 : Heap) (n0 : Nat) (v : Option Value) (h : Heap) (L : List Loc) : Prop := v = none ∧ Fr n0 L ∧ Keep h0 h [a1] ∧ Fld Z h a1 "com/example/hypatia/hypatia/engine/Bm25Plus" "k1" "D" (.double x1) ∧ Fld Z h a1 "com/example/hypatia/hypatia/engine/Bm25Plus" "b" "D" (.double x2) ∧ Fld Z h a1 "com/example/hypatia/hypatia/engine/Bm25Plus" "delta" "D" (.double x3)
theorem d1_0 : decode prog_1_method_1_code 0 = .ok (.aload_n 0, 1) := by decide +kernel
theorem d1_1 : decode prog_1_method_1_code 1 = .ok (.invokespecial 1, 3) := by decide +kernel
theorem d1_4 : decode prog_1_method_1_code 4 = .ok (.dload_n 1, 1) := by decide +kernel
theorem d1_5 : decode prog_1_method_1_code 5 = .ok (.dconst 0, 1) := by decide +kernel
theorem d1_6 : decode prog_1_method_1_code 6 = .ok (.dcmp .l, 1) := by decide +kernel
theorem d1_7 : decode prog_1_method_1_code 7 = .ok (.ifCond .lt 11, 3) := by decide +kernel
theorem d1_10 : decode prog_1_method_1_code 10 = .ok (.dload_n 1, 1) := by decide +kernel
theorem d1_11 : decode prog_1_method_1_code 11 = .ok (.ldc2_w 9, 3) := by decide +kernel
theorem d1_14 : decode prog_1_method_1_code 14 = .ok (.dcmp .g, 1) := by decide +kernel
theorem d1_15 : decode prog_1_method_1_code 15 = .ok (.ifCond .lt 17, 3) := by decide +kernel
theorem d1_32 : decode prog_1_method_1_code 32 = .ok (.dload_n 3, 1) := by decide +kernel
theorem d1_33 : decode prog_1_method_1_code 33 = .ok (.dconst 0, 1) := by decide +kernel
theorem d1_34 : decode prog_1_method_1_code 34 = .ok (.dcmp .l, 1) := by decide +kernel
theorem d1_35 : decode prog_1_method_1_code 35 = .ok (.ifCond .lt 9, 3) := by decide +kernel
theorem d1_38 : decode prog_1_method_1_code 38 = .ok (.dload_n 3, 1) := by decide +kernel
theorem d1_39 : decode prog_1_method_1_code 39 = .ok (.dconst 1, 1) := by decide +kernel
theorem d1_40 : decode prog_1_method_1_code 40 = .ok (.dcmp .g, 1) := by decide +kernel
theorem d1_41 : decode prog_1_method_1_code 41 = .ok (.ifCond .le 17, 3) := by decide +kernel
theorem d1_58 : decode prog_1_method_1_code 58 = .ok (.dload 5, 2) := by decide +kernel
theorem d1_60 : decode prog_1_method_1_code 60 = .ok (.dconst 0, 1) := by decide +kernel
theorem d1_61 : decode prog_1_method_1_code 61 = .ok (.dcmp .l, 1) := by decide +kernel
theorem d1_62 : decode prog_1_method_1_code 62 = .ok (.ifCond .lt 12, 3) := by decide +kernel
theorem d1_65 : decode prog_1_method_1_code 65 = .ok (.dload 5, 2) := by decide +kernel
theorem d1_67 : decode prog_1_method_1_code 67 = .ok (.ldc2_w 9, 3) := by decide +kernel
theorem d1_70 : decode prog_1_method_1_code 70 = .ok (.dcmp .g, 1) := by decide +kernel
theorem d1_71 : decode prog_1_method_1_code 71 = .ok (.ifCond .lt 18, 3) := by decide +kernel
theorem d1_89 : decode prog_1_method_1_code 89 = .ok (.aload_n 0, 1) := by decide +kernel
theorem d1_90 : decode prog_1_method_1_code 90 = .ok (.dload_n 1, 1) := by decide +kernel
theorem d1_91 : decode prog_1_method_1_code 91 = .ok (.putfield 22, 3) := by decide +kernel
theorem d1_94 : decode prog_1_method_1_code 94 = .ok (.aload_n 0, 1) := by decide +kernel
theorem d1_95 : decode prog_1_method_1_code 95 = .ok (.dload_n 3, 1) := by decide +kernel
theorem d1_96 : decode prog_1_method_1_code 96 = .ok (.putfield 28, 3) := by decide +kernel
theorem d1_99 : decode prog_1_method_1_code 99 = .ok (.aload_n 0, 1) := by decide +kernel
theorem d1_100 : decode prog_1_method_1_code 100 = .ok (.dload 5, 2) := by decide +kernel
theorem d1_102 : decode prog_1_method_1_code 102 = .ok (.putfield 31, 3) := by decide +kernel
theorem d1_105 : decode prog_1_method_1_code 105 = .ok (.return_, 1) := by decide +kernel
def own_r_own_init : Room := { frames := 1, cells := 0, slots := 0, locals := 12 }
theorem own_init (l : Launch) (Z : State) (a0 : Array Value) (hw : own_W a0 Z) (a1 : Addr) (x1 x2 x3 : UInt64) (i1 i2 i3 : Int) (u0 u1 u2 : Value) (h0 : Heap) (n0 : Nat) (hO : Old Z n0 h0) (g1 : n0 ≤ a1) (E1 : Exa Z h0 a1 "com/example/hypatia/hypatia/engine/Bm25Plus") (F0 : Fld Z h0 a1 "com/example/hypatia/hypatia/engine/Bm25Plus" "k1" "D" u0) (F1 : Fld Z h0 a1 "com/example/hypatia/hypatia/engine/Bm25Plus" "b" "D" u1) (F2 : Fld Z h0 a1 "com/example/hypatia/hypatia/engine/Bm25Plus" "delta" "D" u2) (S1 : own_Sc 2 i1 x1) (S2 : own_Sc 2 i2 x2) (S3 : own_Sc 3 i3 x3) (b1 : 0 ≤ i1) (b2 : 0 ≤ i2) (b3 : i2 ≤ 4) (b4 : 0 ≤ i3) :
    own_Met l Z (⟨"com/example/hypatia/hypatia/engine/Bm25Plus", "<init>", "(DDD)V"⟩ : MethodName) prog_1_method_1_code 7 none own_r_own_init #[(.ref a1), (.double x1), (.double x2), (.double x3)] h0 (own_Qi Z a1 x1 x2 x3 h0 n0) := by
  refine own_body (by decide +kernel) ?_
  intro p e s m below meth c T0 X0 hx hZ hby hml hown hnm hret hlk e0
  have N0 := Fr.nil n0
  refine own_cast (own_frame (L := [rv a1, .val (.double x1), .second, .val (.double x2), .second, .val (.double x3), .second]) (ls := #[rv a1, .val (.double x1), .second, .val (.double x2), .second, .val (.double x3), .second]) rfl rfl) ?_
  refine og_aloadN X0 hx (hb hby d1_0) rfl rfl ?_
  obtain ⟨T1, X1, e1, st1⟩ := initO X0 hx hZ hown (own_hw hw 11 rfl) (own_hw hw 12 rfl) (own_hw hw 13 rfl) e0 (g := (mkF m 1 #[rv a1, .val (.double x1), .second, .val (.double x2), .second, .val (.double x3), .second] [(.ref a1)])) rfl (by rw [hml]; rfl) rfl (hb hby d1_1) (by decide) (W := 0) (by show 2 * 0 + _ ≤ _; exact Nat.le_of_eq rfl) (by decide)
  refine own_go st1 ?_
  show own_Go p e below _ T1 (mkF m 4 #[rv a1, .val (.double x1), .second, .val (.double x2), .second, .val (.double x3), .second] [])
  refine own_go (fun t k => XS.dloadN X1.here hx rfl (hb hby d1_4) rfl k) ?_
  show own_Go p e below _ T1 (mkF m 5 #[rv a1, .val (.double x1), .second, .val (.double x2), .second, .val (.double x3), .second] [(.double x1)])
  refine own_go (fun t k => XS.dconst0 X1.here hx rfl (hb hby d1_5) rfl k) ?_
  show own_Go p e below _ T1 (mkF m 6 #[rv a1, .val (.double x1), .second, .val (.double x2), .second, .val (.double x3), .second] [(.double FP.dconst0), (.double x1)])
  refine own_go (fun t k => XS.dcmpS X1.here hx rfl (hb hby d1_6) rfl rfl k) ?_
  show own_Go p e below _ T1 (mkF m 7 #[rv a1, .val (.double x1), .second, .val (.double x2), .second, .val (.double x3), .second] [(.int (cmpValue (FP.dcmp x1 FP.dconst0) .l))])
  refine og_ifN X1 hx (hb hby d1_7) (flt (own_cmpGe S1 (own_d0 2) b1 _)).1 ?_
  refine own_go (fun t k => XS.dloadN X1.here hx rfl (hb hby d1_10) rfl k) ?_
  show own_Go p e below _ T1 (mkF m 11 #[rv a1, .val (.double x1), .second, .val (.double x2), .second, .val (.double x3), .second] [(.double x1)])
  refine og_ldcD X1 hx hZ hown (own_hw hw 14 rfl) (hb hby d1_11) ?_
  show own_Go p e below _ T1 (mkF m 14 #[rv a1, .val (.double x1), .second, .val (.double x2), .second, .val (.double x3), .second] [(.double 9218868437227405312), (.double x1)])
  refine own_go (fun t k => XS.dcmpS X1.here hx rfl (hb hby d1_14) rfl rfl k) ?_
  show own_Go p e below _ T1 (mkF m 15 #[rv a1, .val (.double x1), .second, .val (.double x2), .second, .val (.double x3), .second] [(.int (cmpValue (FP.dcmp x1 9218868437227405312) .g))])
  refine og_ifY X1 hx 32 (hb hby d1_15) (tlt (by rw [dcmp_pinf (own_scfin S1)]; decide)).1 (by decide) (by decide) ?_
  refine own_go (fun t k => XS.dloadN X1.here hx rfl (hb hby d1_32) rfl k) ?_
  show own_Go p e below _ T1 (mkF m 33 #[rv a1, .val (.double x1), .second, .val (.double x2), .second, .val (.double x3), .second] [(.double x2)])
  refine own_go (fun t k => XS.dconst0 X1.here hx rfl (hb hby d1_33) rfl k) ?_
  show own_Go p e below _ T1 (mkF m 34 #[rv a1, .val (.double x1), .second, .val (.double x2), .second, .val (.double x3), .second] [(.double FP.dconst0), (.double x2)])
  refine own_go (fun t k => XS.dcmpS X1.here hx rfl (hb hby d1_34) rfl rfl k) ?_
  show own_Go p e below _ T1 (mkF m 35 #[rv a1, .val (.double x1), .second, .val (.double x2), .second, .val (.double x3), .second] [(.int (cmpValue (FP.dcmp x2 FP.dconst0) .l))])
  refine og_ifN X1 hx (hb hby d1_35) (flt (own_cmpGe S2 (own_d0 2) b2 _)).1 ?_
  refine own_go (fun t k => XS.dloadN X1.here hx rfl (hb hby d1_38) rfl k) ?_
  show own_Go p e below _ T1 (mkF m 39 #[rv a1, .val (.double x1), .second, .val (.double x2), .second, .val (.double x3), .second] [(.double x2)])
  refine own_go (fun t k => XS.dconst1 X1.here hx rfl (hb hby d1_39) rfl k) ?_
  show own_Go p e below _ T1 (mkF m 40 #[rv a1, .val (.double x1), .second, .val (.double x2), .second, .val (.double x3), .second] [(.double FP.dconst1), (.double x2)])
  refine own_go (fun t k => XS.dcmpS X1.here hx rfl (hb hby d1_40) rfl rfl k) ?_
  show own_Go p e below _ T1 (mkF m 41 #[rv a1, .val (.double x1), .second, .val (.double x2), .second, .val (.double x3), .second] [(.int (cmpValue (FP.dcmp x2 FP.dconst1) .g))])
  refine og_ifY X1 hx 58 (hb hby d1_41) (flt (own_cmpLe S2 (own_eqSc (own_up own_d1 2) (by decide) (by decide) : own_Sc 2 4 FP.dconst1) b3 _)).2.2.2 (by decide) (by decide) ?_
  refine own_go (fun t k => XS.dload X1.here hx rfl (hb hby d1_58) rfl k) ?_
  show own_Go p e below _ T1 (mkF m 60 #[rv a1, .val (.double x1), .second, .val (.double x2), .second, .val (.double x3), .second] [(.double x3)])
  refine own_go (fun t k => XS.dconst0 X1.here hx rfl (hb hby d1_60) rfl k) ?_
  show own_Go p e below _ T1 (mkF m 61 #[rv a1, .val (.double x1), .second, .val (.double x2), .second, .val (.double x3), .second] [(.double FP.dconst0), (.double x3)])
  refine own_go (fun t k => XS.dcmpS X1.here hx rfl (hb hby d1_61) rfl rfl k) ?_
  show own_Go p e below _ T1 (mkF m 62 #[rv a1, .val (.double x1), .second, .val (.double x2), .second, .val (.double x3), .second] [(.int (cmpValue (FP.dcmp x3 FP.dconst0) .l))])
  refine og_ifN X1 hx (hb hby d1_62) (flt (own_cmpGe S3 (own_d0 3) b4 _)).1 ?_
  refine own_go (fun t k => XS.dload X1.here hx rfl (hb hby d1_65) rfl k) ?_
  show own_Go p e below _ T1 (mkF m 67 #[rv a1, .val (.double x1), .second, .val (.double x2), .second, .val (.double x3), .second] [(.double x3)])
  refine og_ldcD X1 hx hZ hown (own_hw hw 14 rfl) (hb hby d1_67) ?_
  show own_Go p e below _ T1 (mkF m 70 #[rv a1, .val (.double x1), .second, .val (.double x2), .second, .val (.double x3), .second] [(.double 9218868437227405312), (.double x3)])
  refine own_go (fun t k => XS.dcmpS X1.here hx rfl (hb hby d1_70) rfl rfl k) ?_
  show own_Go p e below _ T1 (mkF m 71 #[rv a1, .val (.double x1), .second, .val (.double x2), .second, .val (.double x3), .second] [(.int (cmpValue (FP.dcmp x3 9218868437227405312) .g))])
  refine og_ifY X1 hx 89 (hb hby d1_71) (tlt (by rw [dcmp_pinf (own_scfin S3)]; decide)).1 (by decide) (by decide) ?_
  refine og_aloadN X1 hx (hb hby d1_89) rfl rfl ?_
  refine own_go (fun t k => XS.dloadN X1.here hx rfl (hb hby d1_90) rfl k) ?_
  show own_Go p e below _ T1 (mkF m 91 #[rv a1, .val (.double x1), .second, .val (.double x2), .second, .val (.double x3), .second] [(.double x1), (.ref a1)])
  obtain ⟨T2, h2, X2, e2, W2, st2⟩ := putF X1 hx hZ hown (host := "") (Or.inl (own_hw hw 15 rfl)) Via.refl e1 F0 E1 (Or.inr ⟨(own_hw hw 16 rfl), rfl, hnm⟩) (own_hw hw 6 rfl) (ty := .double) (by decide) rfl rfl (g := (mkF m 91 #[rv a1, .val (.double x1), .second, .val (.double x2), .second, .val (.double x3), .second] [(.double x1), (.ref a1)])) rfl rfl (hb hby d1_91)
  refine own_go st2 ?_
  have E_a1_2 := E1.wr W2
  have F_a1_b_2 := F1.other W2 (Or.inr (slot_ne (Or.inr (own_hw hw 18 rfl)) (Or.inr (own_hw hw 16 rfl)) (by decide) (t := .double) (t' := .double) (by decide) (by decide)))
  have F_a1_delta_2 := F2.other W2 (Or.inr (slot_ne (Or.inr (own_hw hw 20 rfl)) (Or.inr (own_hw hw 16 rfl)) (by decide) (t := .double) (t' := .double) (by decide) (by decide)))
  have O2 := hO.wr W2 g1
  have K2 := (Keep.refl h0 [a1]).wr W2 (Or.inl (by simp))
  have N2 := Fr.snoc X2 N0 g1
  have F_a1_k1_2 : Fld Z h2 a1 "com/example/hypatia/hypatia/engine/Bm25Plus" "k1" "D" (.double x1) := F0.same W2
  show own_Go p e below _ T2 (mkF m 94 #[rv a1, .val (.double x1), .second, .val (.double x2), .second, .val (.double x3), .second] [])
  refine og_aloadN X2 hx (hb hby d1_94) rfl rfl ?_
  refine own_go (fun t k => XS.dloadN X2.here hx rfl (hb hby d1_95) rfl k) ?_
  show own_Go p e below _ T2 (mkF m 96 #[rv a1, .val (.double x1), .second, .val (.double x2), .second, .val (.double x3), .second] [(.double x2), (.ref a1)])
  obtain ⟨T3, h3, X3, e3, W3, st3⟩ := putF X2 hx hZ hown (host := "") (Or.inl (own_hw hw 17 rfl)) Via.refl e2 F_a1_b_2 E_a1_2 (Or.inr ⟨(own_hw hw 18 rfl), rfl, hnm⟩) (own_hw hw 6 rfl) (ty := .double) (by decide) rfl rfl (g := (mkF m 96 #[rv a1, .val (.double x1), .second, .val (.double x2), .second, .val (.double x3), .second] [(.double x2), (.ref a1)])) rfl rfl (hb hby d1_96)
  refine own_go st3 ?_
  have E_a1_3 := E_a1_2.wr W3
  have F_a1_delta_3 := F_a1_delta_2.other W3 (Or.inr (slot_ne (Or.inr (own_hw hw 20 rfl)) (Or.inr (own_hw hw 18 rfl)) (by decide) (t := .double) (t' := .double) (by decide) (by decide)))
  have F_a1_k1_3 := F_a1_k1_2.other W3 (Or.inr (slot_ne (Or.inr (own_hw hw 16 rfl)) (Or.inr (own_hw hw 18 rfl)) (by decide) (t := .double) (t' := .double) (by decide) (by decide)))
  have O3 := O2.wr W3 g1
  have K3 := K2.wr W3 (Or.inl (by simp))
  have N3 := Fr.snoc X3 N2 g1
  have F_a1_b_3 : Fld Z h3 a1 "com/example/hypatia/hypatia/engine/Bm25Plus" "b" "D" (.double x2) := F_a1_b_2.same W3
  show own_Go p e below _ T3 (mkF m 99 #[rv a1, .val (.double x1), .second, .val (.double x2), .second, .val (.double x3), .second] [])
  refine og_aloadN X3 hx (hb hby d1_99) rfl rfl ?_
  refine own_go (fun t k => XS.dload X3.here hx rfl (hb hby d1_100) rfl k) ?_
  show own_Go p e below _ T3 (mkF m 102 #[rv a1, .val (.double x1), .second, .val (.double x2), .second, .val (.double x3), .second] [(.double x3), (.ref a1)])
  obtain ⟨T4, h4, X4, e4, W4, st4⟩ := putF X3 hx hZ hown (host := "") (Or.inl (own_hw hw 19 rfl)) Via.refl e3 F_a1_delta_3 E_a1_3 (Or.inr ⟨(own_hw hw 20 rfl), rfl, hnm⟩) (own_hw hw 6 rfl) (ty := .double) (by decide) rfl rfl (g := (mkF m 102 #[rv a1, .val (.double x1), .second, .val (.double x2), .second, .val (.double x3), .second] [(.double x3), (.ref a1)])) rfl rfl (hb hby d1_102)
  refine own_go st4 ?_
  have E_a1_4 := E_a1_3.wr W4
  have F_a1_k1_4 := F_a1_k1_3.other W4 (Or.inr (slot_ne (Or.inr (own_hw hw 16 rfl)) (Or.inr (own_hw hw 20 rfl)) (by decide) (t := .double) (t' := .double) (by decide) (by decide)))
  have F_a1_b_4 := F_a1_b_3.other W4 (Or.inr (slot_ne (Or.inr (own_hw hw 18 rfl)) (Or.inr (own_hw hw 20 rfl)) (by decide) (t := .double) (t' := .double) (by decide) (by decide)))
  have O4 := O3.wr W4 g1
  have K4 := K3.wr W4 (Or.inl (by simp))
  have N4 := Fr.snoc X4 N3 g1
  have F_a1_delta_4 : Fld Z h4 a1 "com/example/hypatia/hypatia/engine/Bm25Plus" "delta" "D" (.double x3) := F_a1_delta_3.same W4
  show own_Go p e below _ T4 (mkF m 105 #[rv a1, .val (.double x1), .second, .val (.double x2), .second, .val (.double x3), .second] [])
  exact own_retV X4 hx hret hlk (hb hby d1_105) (by decide) (by decide) (by rw [e4]; exact ⟨rfl, N4, K4, F_a1_k1_4, F_a1_b_4, F_a1_delta_4⟩)
def own_Qd (x : UInt64) (h0 : Heap) (n0 : Nat) (v : Option Value) (h : Heap) (L : List Loc) : Prop := v = some (.double x) ∧ Fr n0 L ∧ h = h0
theorem d3_0 : decode prog_1_method_3_code 0 = .ok (.lload_n 3, 1) := by decide +kernel
theorem d3_1 : decode prog_1_method_3_code 1 = .ok (.lconst 1, 1) := by decide +kernel
theorem d3_2 : decode prog_1_method_3_code 2 = .ok (.lcmp, 1) := by decide +kernel
theorem d3_3 : decode prog_1_method_3_code 3 = .ok (.ifCond .lt 10, 3) := by decide +kernel
theorem d3_6 : decode prog_1_method_3_code 6 = .ok (.lload 5, 2) := by decide +kernel
theorem d3_8 : decode prog_1_method_3_code 8 = .ok (.lload_n 3, 1) := by decide +kernel
theorem d3_9 : decode prog_1_method_3_code 9 = .ok (.lcmp, 1) := by decide +kernel
theorem d3_10 : decode prog_1_method_3_code 10 = .ok (.ifCond .ge 19, 3) := by decide +kernel
theorem d3_29 : decode prog_1_method_3_code 29 = .ok (.dload 7, 2) := by decide +kernel
theorem d3_31 : decode prog_1_method_3_code 31 = .ok (.dconst 0, 1) := by decide +kernel
theorem d3_32 : decode prog_1_method_3_code 32 = .ok (.dcmp .l, 1) := by decide +kernel
theorem d3_33 : decode prog_1_method_3_code 33 = .ok (.ifCond .le 12, 3) := by decide +kernel
theorem d3_36 : decode prog_1_method_3_code 36 = .ok (.dload 7, 2) := by decide +kernel
theorem d3_38 : decode prog_1_method_3_code 38 = .ok (.ldc2_w 9, 3) := by decide +kernel
theorem d3_41 : decode prog_1_method_3_code 41 = .ok (.dcmp .g, 1) := by decide +kernel
theorem d3_42 : decode prog_1_method_3_code 42 = .ok (.ifCond .lt 18, 3) := by decide +kernel
theorem d3_60 : decode prog_1_method_3_code 60 = .ok (.dconst 1, 1) := by decide +kernel
theorem d3_61 : decode prog_1_method_3_code 61 = .ok (.aload_n 0, 1) := by decide +kernel
theorem d3_62 : decode prog_1_method_3_code 62 = .ok (.getfield 28, 3) := by decide +kernel
theorem d3_65 : decode prog_1_method_3_code 65 = .ok (.dsub, 1) := by decide +kernel
theorem d3_66 : decode prog_1_method_3_code 66 = .ok (.aload_n 0, 1) := by decide +kernel
theorem d3_67 : decode prog_1_method_3_code 67 = .ok (.getfield 28, 3) := by decide +kernel
theorem d3_70 : decode prog_1_method_3_code 70 = .ok (.lload 5, 2) := by decide +kernel
theorem d3_72 : decode prog_1_method_3_code 72 = .ok (.l2d, 1) := by decide +kernel
theorem d3_73 : decode prog_1_method_3_code 73 = .ok (.dmul, 1) := by decide +kernel
theorem d3_74 : decode prog_1_method_3_code 74 = .ok (.dload 7, 2) := by decide +kernel
theorem d3_76 : decode prog_1_method_3_code 76 = .ok (.ddiv, 1) := by decide +kernel
theorem d3_77 : decode prog_1_method_3_code 77 = .ok (.dadd, 1) := by decide +kernel
theorem d3_78 : decode prog_1_method_3_code 78 = .ok (.dstore 9, 2) := by decide +kernel
theorem d3_80 : decode prog_1_method_3_code 80 = .ok (.aload_n 0, 1) := by decide +kernel
theorem d3_81 : decode prog_1_method_3_code 81 = .ok (.getfield 22, 3) := by decide +kernel
theorem d3_84 : decode prog_1_method_3_code 84 = .ok (.dconst 1, 1) := by decide +kernel
theorem d3_85 : decode prog_1_method_3_code 85 = .ok (.dadd, 1) := by decide +kernel
theorem d3_86 : decode prog_1_method_3_code 86 = .ok (.lload_n 3, 1) := by decide +kernel
theorem d3_87 : decode prog_1_method_3_code 87 = .ok (.l2d, 1) := by decide +kernel
theorem d3_88 : decode prog_1_method_3_code 88 = .ok (.dmul, 1) := by decide +kernel
theorem d3_89 : decode prog_1_method_3_code 89 = .ok (.aload_n 0, 1) := by decide +kernel
theorem d3_90 : decode prog_1_method_3_code 90 = .ok (.getfield 22, 3) := by decide +kernel
theorem d3_93 : decode prog_1_method_3_code 93 = .ok (.dload 9, 2) := by decide +kernel
theorem d3_95 : decode prog_1_method_3_code 95 = .ok (.dmul, 1) := by decide +kernel
theorem d3_96 : decode prog_1_method_3_code 96 = .ok (.lload_n 3, 1) := by decide +kernel
theorem d3_97 : decode prog_1_method_3_code 97 = .ok (.l2d, 1) := by decide +kernel
theorem d3_98 : decode prog_1_method_3_code 98 = .ok (.dadd, 1) := by decide +kernel
theorem d3_99 : decode prog_1_method_3_code 99 = .ok (.ddiv, 1) := by decide +kernel
theorem d3_100 : decode prog_1_method_3_code 100 = .ok (.dstore 11, 2) := by decide +kernel
theorem d3_102 : decode prog_1_method_3_code 102 = .ok (.dload 11, 2) := by decide +kernel
theorem d3_104 : decode prog_1_method_3_code 104 = .ok (.aload_n 0, 1) := by decide +kernel
theorem d3_105 : decode prog_1_method_3_code 105 = .ok (.getfield 31, 3) := by decide +kernel
theorem d3_108 : decode prog_1_method_3_code 108 = .ok (.dadd, 1) := by decide +kernel
theorem d3_109 : decode prog_1_method_3_code 109 = .ok (.dload_n 1, 1) := by decide +kernel
theorem d3_110 : decode prog_1_method_3_code 110 = .ok (.dmul, 1) := by decide +kernel
theorem d3_111 : decode prog_1_method_3_code 111 = .ok (.dreturn, 1) := by decide +kernel
def own_r_own_wt : Room := { frames := 0, cells := 0, slots := 0, locals := 0 }
theorem own_wt (l : Launch) (Z : State) (a0 : Array Value) (hw : own_W a0 Z) (a1 : Addr) (x1 x2 x3 xi xa : UInt64) (i1 i2 i3 i4 : Int) (k : Nat) (tf dl N D : Int64) (h0 : Heap) (n0 : Nat) (F0 : Fld Z h0 a1 "com/example/hypatia/hypatia/engine/Bm25Plus" "k1" "D" (.double x1)) (F1 : Fld Z h0 a1 "com/example/hypatia/hypatia/engine/Bm25Plus" "b" "D" (.double x2)) (F2 : Fld Z h0 a1 "com/example/hypatia/hypatia/engine/Bm25Plus" "delta" "D" (.double x3)) (S1 : own_Sc 2 i1 x1) (S2 : own_Sc 2 i2 x2) (S3 : own_Sc 3 i3 x3) (S4 : own_Sc 6 i4 xi) (Sa : own_Sc (8 : Nat) ((2 ^ k : Nat) : Int) xa) (hk : k ≤ 15) (b1 : 0 ≤ i1 ∧ i1 ≤ 63) (b2 : 0 ≤ i2 ∧ i2 ≤ 4) (b4 : 1 ≤ tf.toInt ∧ tf.toInt ≤ 1048576) (b5 : tf.toInt ≤ dl.toInt ∧ dl.toInt ≤ 2097152) (hN : N.toInt = ((i1 + 4) * tf.toInt * (4 * ((2 ^ k : Nat) : Int)))) (hD : D.toInt = (i1 * ((4 - i2) * ((2 ^ k : Nat) : Int) + i2 * dl.toInt * 256) + tf.toInt * (((2 ^ k : Nat) : Int) * 16))) (hfin : Jvm.Free.Fl.Fin64 (FP.dadd (FP.ddiv (FP.l2d N) (FP.l2d D)) x3)) :
    own_Met l Z (⟨"com/example/hypatia/hypatia/engine/Bm25Plus", "weight", "(DJJD)D"⟩ : MethodName) prog_1_method_3_code 13 (some .double) own_r_own_wt #[(.ref a1), (.double xi), (.long tf), (.long dl), (.double xa)] h0 (own_Qd (FP.dmul (FP.dadd (FP.ddiv (FP.l2d N) (FP.l2d D)) x3) xi) h0 n0) := by
  refine own_body (by decide +kernel) ?_
  intro p e s m below meth c T0 X0 hx hZ hby hml hown hnm hret hlk e0
  have N0 := Fr.nil n0
  refine own_cast (own_frame (L := [rv a1, .val (.double xi), .second, .val (.long tf), .second, .val (.long dl), .second, .val (.double xa), .second]) (ls := #[rv a1, .val (.double xi), .second, .val (.long tf), .second, .val (.long dl), .second, .val (.double xa), .second, .unset, .unset, .unset, .unset]) rfl rfl) ?_
  have bP := own_pow15 hk
  have pP := own_pow1 k
  have m1 := own_mulb (a := i2) (b := dl.toInt) ⟨b2.1, b2.2⟩ ⟨by omega, b5.2⟩
  have m2 := own_mulb (a := 4 - i2) (A := 4) ⟨by omega, by omega⟩ bP
  have m3 := own_mulb (a := i1) (b := ((4 - i2) * ((2 ^ k : Nat) : Int) + i2 * dl.toInt * 256)) (A := 63) (B := 131072 + 2147483648) b1 ⟨by omega, by omega⟩
  have m4 := own_mulb (a := i1 + 4) (b := tf.toInt) (A := 67) (B := 1048576) ⟨by omega, by omega⟩ ⟨by omega, by omega⟩
  have m5 := own_mulb (a := tf.toInt) (b := ((2 ^ k : Nat) : Int) * 16) (A := 1048576) (B := 524288) ⟨by omega, by omega⟩ ⟨by omega, by omega⟩
  have m6 := own_mulb (a := (i1 + 4) * tf.toInt) (b := 4 * ((2 ^ k : Nat) : Int)) (A := 67 * 1048576) (B := 131072) m4 ⟨by omega, by omega⟩
  have q1 : 0 < (i1 + 4) * tf.toInt := Int.mul_pos (by omega) (by omega)
  have q2 : 0 < ((i1 + 4) * tf.toInt * (4 * ((2 ^ k : Nat) : Int))) := Int.mul_pos q1 (by omega)
  have q3 : 0 < tf.toInt * (((2 ^ k : Nat) : Int) * 16) := Int.mul_pos (by omega) (by omega)
  have hDn : D ≠ 0 := fun z => by rw [z] at hD; have : (0 : Int64).toInt = 0 := rfl; omega
  have qm := own_quoMag (N := N) hDn
  have qf := qm.fin (by decide)
  refine og_lloadN X0 hx (hb hby d3_0) rfl ?_
  refine og_lconst X0 hx (hb hby d3_1) ?_
  refine own_go (fun t k => XS.lcmp X0.here hx rfl (hb hby d3_2) rfl k) ?_
  show own_Go p e below _ T0 (mkF m 3 #[rv a1, .val (.double xi), .second, .val (.long tf), .second, .val (.long dl), .second, .val (.double xa), .second, .unset, .unset, .unset, .unset] [(.int (lcmpW tf (1 : Int64)))])
  refine og_ifN X0 hx (hb hby d3_3) (flt (fun z => by rw [lw_lt, Int64.lt_iff_toInt_lt] at z; have : (1 : Int64).toInt = 1 := rfl; omega)).1 ?_
  refine og_lload X0 hx (hb hby d3_6) rfl ?_
  refine og_lloadN X0 hx (hb hby d3_8) rfl ?_
  refine own_go (fun t k => XS.lcmp X0.here hx rfl (hb hby d3_9) rfl k) ?_
  show own_Go p e below _ T0 (mkF m 10 #[rv a1, .val (.double xi), .second, .val (.long tf), .second, .val (.long dl), .second, .val (.double xa), .second, .unset, .unset, .unset, .unset] [(.int (lcmpW dl tf))])
  refine og_ifY X0 hx 29 (hb hby d3_10) (flt (fun z => by rw [lw_lt, Int64.lt_iff_toInt_lt] at z; omega)).2.1 (by decide) (by decide) ?_
  refine own_go (fun t k => XS.dload X0.here hx rfl (hb hby d3_29) rfl k) ?_
  show own_Go p e below _ T0 (mkF m 31 #[rv a1, .val (.double xi), .second, .val (.long tf), .second, .val (.long dl), .second, .val (.double xa), .second, .unset, .unset, .unset, .unset] [(.double xa)])
  refine own_go (fun t k => XS.dconst0 X0.here hx rfl (hb hby d3_31) rfl k) ?_
  show own_Go p e below _ T0 (mkF m 32 #[rv a1, .val (.double xi), .second, .val (.long tf), .second, .val (.long dl), .second, .val (.double xa), .second, .unset, .unset, .unset, .unset] [(.double FP.dconst0), (.double xa)])
  refine own_go (fun t k => XS.dcmpS X0.here hx rfl (hb hby d3_32) rfl rfl k) ?_
  show own_Go p e below _ T0 (mkF m 33 #[rv a1, .val (.double xi), .second, .val (.long tf), .second, .val (.long dl), .second, .val (.double xa), .second, .unset, .unset, .unset, .unset] [(.int (cmpValue (FP.dcmp xa FP.dconst0) .l))])
  refine og_ifN X0 hx (hb hby d3_33) (tlt (by rw [own_cmpGt Sa (own_d0 8) (by omega)]; decide)).2.2.2 ?_
  refine own_go (fun t k => XS.dload X0.here hx rfl (hb hby d3_36) rfl k) ?_
  show own_Go p e below _ T0 (mkF m 38 #[rv a1, .val (.double xi), .second, .val (.long tf), .second, .val (.long dl), .second, .val (.double xa), .second, .unset, .unset, .unset, .unset] [(.double xa)])
  refine og_ldcD X0 hx hZ hown (own_hw hw 14 rfl) (hb hby d3_38) ?_
  show own_Go p e below _ T0 (mkF m 41 #[rv a1, .val (.double xi), .second, .val (.long tf), .second, .val (.long dl), .second, .val (.double xa), .second, .unset, .unset, .unset, .unset] [(.double 9218868437227405312), (.double xa)])
  refine own_go (fun t k => XS.dcmpS X0.here hx rfl (hb hby d3_41) rfl rfl k) ?_
  show own_Go p e below _ T0 (mkF m 42 #[rv a1, .val (.double xi), .second, .val (.long tf), .second, .val (.long dl), .second, .val (.double xa), .second, .unset, .unset, .unset, .unset] [(.int (cmpValue (FP.dcmp xa 9218868437227405312) .g))])
  refine og_ifY X0 hx 60 (hb hby d3_42) (tlt (by rw [dcmp_pinf (own_scfin Sa)]; decide)).1 (by decide) (by decide) ?_
  refine own_go (fun t k => XS.dconst1 X0.here hx rfl (hb hby d3_60) rfl k) ?_
  show own_Go p e below _ T0 (mkF m 61 #[rv a1, .val (.double xi), .second, .val (.long tf), .second, .val (.long dl), .second, .val (.double xa), .second, .unset, .unset, .unset, .unset] [(.double FP.dconst1)])
  refine og_aloadN X0 hx (hb hby d3_61) rfl rfl ?_
  refine og_getF X0 hx hZ hown (own_hw hw 17 rfl) Via.refl e0 F1 (hb hby d3_62) ?_
  intro T1 X1 e1
  show own_Go p e below _ T1 (mkF m 65 #[rv a1, .val (.double xi), .second, .val (.long tf), .second, .val (.long dl), .second, .val (.double xa), .second, .unset, .unset, .unset, .unset] [(.double x2), (.double FP.dconst1)])
  obtain ⟨dx2, dhv2, dS2⟩ : ∃ v, FP.dsub FP.dconst1 x2 = v ∧ own_Sc 2 (4 - i2) v := ⟨_, rfl, own_dsub (own_eqSc (own_up own_d1 2) (by decide) (by decide) : own_Sc 2 4 FP.dconst1) S2 (by decide) (by decide) (by omega)⟩
  refine own_go (fun t k => XS.dsubS X1.here hx rfl (hb hby d3_65) rfl (own_scnn dhv2 dS2) dhv2 k) ?_
  show own_Go p e below _ T1 (mkF m 66 #[rv a1, .val (.double xi), .second, .val (.long tf), .second, .val (.long dl), .second, .val (.double xa), .second, .unset, .unset, .unset, .unset] [(.double dx2)])
  refine og_aloadN X1 hx (hb hby d3_66) rfl rfl ?_
  refine og_getF X1 hx hZ hown (own_hw hw 17 rfl) Via.refl e1 F1 (hb hby d3_67) ?_
  intro T3 X3 e3
  refine og_lload X3 hx (hb hby d3_70) rfl ?_
  obtain ⟨dx4, dhv4, dS4⟩ : ∃ v, FP.l2d dl = v ∧ own_Sc 0 (dl.toInt) v := ⟨_, rfl, own_l2d (by omega)⟩
  refine own_go (fun t k => XS.l2dS X3.here hx rfl (hb hby d3_72) rfl dhv4 k) ?_
  show own_Go p e below _ T3 (mkF m 73 #[rv a1, .val (.double xi), .second, .val (.long tf), .second, .val (.long dl), .second, .val (.double xa), .second, .unset, .unset, .unset, .unset] [(.double dx4), (.double x2), (.double dx2)])
  obtain ⟨dx5, dhv5, dS5⟩ : ∃ v, FP.dmul x2 dx4 = v ∧ own_Sc 2 (i2 * dl.toInt) v := ⟨_, rfl, own_eqSc (own_dmul S2 dS4 (by decide) (by decide) (by omega)) (by decide) rfl⟩
  refine own_go (fun t k => XS.dmulS X3.here hx rfl (hb hby d3_73) rfl (own_scnn dhv5 dS5) dhv5 k) ?_
  show own_Go p e below _ T3 (mkF m 74 #[rv a1, .val (.double xi), .second, .val (.long tf), .second, .val (.long dl), .second, .val (.double xa), .second, .unset, .unset, .unset, .unset] [(.double dx5), (.double dx2)])
  refine own_go (fun t k => XS.dload X3.here hx rfl (hb hby d3_74) rfl k) ?_
  show own_Go p e below _ T3 (mkF m 76 #[rv a1, .val (.double xi), .second, .val (.long tf), .second, .val (.long dl), .second, .val (.double xa), .second, .unset, .unset, .unset, .unset] [(.double xa), (.double dx5), (.double dx2)])
  obtain ⟨dx6, dhv6, dS6⟩ : ∃ v, FP.ddiv dx5 xa = v ∧ own_Sc (2 + k) (i2 * dl.toInt * 256) v := ⟨_, rfl, own_eqSc (own_ddivP (l := 8) dS5 Sa (by omega) (by omega) (by show (i2 * dl.toInt * 256).natAbs < 2 ^ 53; omega)) rfl rfl⟩
  refine own_go (fun t k => XS.ddivS X3.here hx rfl (hb hby d3_76) rfl (own_scnn dhv6 dS6) dhv6 k) ?_
  show own_Go p e below _ T3 (mkF m 77 #[rv a1, .val (.double xi), .second, .val (.long tf), .second, .val (.long dl), .second, .val (.double xa), .second, .unset, .unset, .unset, .unset] [(.double dx6), (.double dx2)])
  obtain ⟨dx7, dhv7, dS7⟩ : ∃ v, FP.dadd dx2 dx6 = v ∧ own_Sc (2 + k) (((4 - i2) * ((2 ^ k : Nat) : Int) + i2 * dl.toInt * 256)) v := ⟨_, rfl, own_dadd (own_up dS2 k) dS6 (by omega) (by omega) (by omega)⟩
  refine own_go (fun t k => XS.daddS X3.here hx rfl (hb hby d3_77) rfl (own_scnn dhv7 dS7) dhv7 k) ?_
  show own_Go p e below _ T3 (mkF m 78 #[rv a1, .val (.double xi), .second, .val (.long tf), .second, .val (.long dl), .second, .val (.double xa), .second, .unset, .unset, .unset, .unset] [(.double dx7)])
  refine own_go (fun t k => XS.dstore X3.here hx rfl (hb hby d3_78) rfl (l' := #[rv a1, .val (.double xi), .second, .val (.long tf), .second, .val (.long dl), .second, .val (.double xa), .second, .val (.double dx7), .second, .unset, .unset]) rfl k) ?_
  show own_Go p e below _ T3 (mkF m 80 #[rv a1, .val (.double xi), .second, .val (.long tf), .second, .val (.long dl), .second, .val (.double xa), .second, .val (.double dx7), .second, .unset, .unset] [])
  refine og_aloadN X3 hx (hb hby d3_80) rfl rfl ?_
  refine og_getF X3 hx hZ hown (own_hw hw 15 rfl) Via.refl e3 F0 (hb hby d3_81) ?_
  intro T8 X8 e8
  show own_Go p e below _ T8 (mkF m 84 #[rv a1, .val (.double xi), .second, .val (.long tf), .second, .val (.long dl), .second, .val (.double xa), .second, .val (.double dx7), .second, .unset, .unset] [(.double x1)])
  refine own_go (fun t k => XS.dconst1 X8.here hx rfl (hb hby d3_84) rfl k) ?_
  show own_Go p e below _ T8 (mkF m 85 #[rv a1, .val (.double xi), .second, .val (.long tf), .second, .val (.long dl), .second, .val (.double xa), .second, .val (.double dx7), .second, .unset, .unset] [(.double FP.dconst1), (.double x1)])
  obtain ⟨dx9, dhv9, dS9⟩ : ∃ v, FP.dadd x1 FP.dconst1 = v ∧ own_Sc 2 (i1 + 4) v := ⟨_, rfl, own_dadd S1 (own_eqSc (own_up own_d1 2) (by decide) (by decide) : own_Sc 2 4 FP.dconst1) (by decide) (by decide) (by omega)⟩
  refine own_go (fun t k => XS.daddS X8.here hx rfl (hb hby d3_85) rfl (own_scnn dhv9 dS9) dhv9 k) ?_
  show own_Go p e below _ T8 (mkF m 86 #[rv a1, .val (.double xi), .second, .val (.long tf), .second, .val (.long dl), .second, .val (.double xa), .second, .val (.double dx7), .second, .unset, .unset] [(.double dx9)])
  refine og_lloadN X8 hx (hb hby d3_86) rfl ?_
  obtain ⟨dx10, dhv10, dS10⟩ : ∃ v, FP.l2d tf = v ∧ own_Sc 0 (tf.toInt) v := ⟨_, rfl, own_l2d (by omega)⟩
  refine own_go (fun t k => XS.l2dS X8.here hx rfl (hb hby d3_87) rfl dhv10 k) ?_
  show own_Go p e below _ T8 (mkF m 88 #[rv a1, .val (.double xi), .second, .val (.long tf), .second, .val (.long dl), .second, .val (.double xa), .second, .val (.double dx7), .second, .unset, .unset] [(.double dx10), (.double dx9)])
  obtain ⟨dx11, dhv11, dS11⟩ : ∃ v, FP.dmul dx9 dx10 = v ∧ own_Sc 2 ((i1 + 4) * tf.toInt) v := ⟨_, rfl, own_eqSc (own_dmul dS9 dS10 (by decide) (by decide) (by omega)) (by decide) rfl⟩
  refine own_go (fun t k => XS.dmulS X8.here hx rfl (hb hby d3_88) rfl (own_scnn dhv11 dS11) dhv11 k) ?_
  show own_Go p e below _ T8 (mkF m 89 #[rv a1, .val (.double xi), .second, .val (.long tf), .second, .val (.long dl), .second, .val (.double xa), .second, .val (.double dx7), .second, .unset, .unset] [(.double dx11)])
  refine og_aloadN X8 hx (hb hby d3_89) rfl rfl ?_
  refine og_getF X8 hx hZ hown (own_hw hw 15 rfl) Via.refl e8 F0 (hb hby d3_90) ?_
  intro T12 X12 e12
  show own_Go p e below _ T12 (mkF m 93 #[rv a1, .val (.double xi), .second, .val (.long tf), .second, .val (.long dl), .second, .val (.double xa), .second, .val (.double dx7), .second, .unset, .unset] [(.double x1), (.double dx11)])
  refine own_go (fun t k => XS.dload X12.here hx rfl (hb hby d3_93) rfl k) ?_
  show own_Go p e below _ T12 (mkF m 95 #[rv a1, .val (.double xi), .second, .val (.long tf), .second, .val (.long dl), .second, .val (.double xa), .second, .val (.double dx7), .second, .unset, .unset] [(.double dx7), (.double x1), (.double dx11)])
  obtain ⟨dx13, dhv13, dS13⟩ : ∃ v, FP.dmul x1 dx7 = v ∧ own_Sc (4 + k) (i1 * ((4 - i2) * ((2 ^ k : Nat) : Int) + i2 * dl.toInt * 256)) v := ⟨_, rfl, own_eqSc (own_dmul S1 dS7 (by omega) (by omega) (by omega)) (by omega) rfl⟩
  refine own_go (fun t k => XS.dmulS X12.here hx rfl (hb hby d3_95) rfl (own_scnn dhv13 dS13) dhv13 k) ?_
  show own_Go p e below _ T12 (mkF m 96 #[rv a1, .val (.double xi), .second, .val (.long tf), .second, .val (.long dl), .second, .val (.double xa), .second, .val (.double dx7), .second, .unset, .unset] [(.double dx13), (.double dx11)])
  refine og_lloadN X12 hx (hb hby d3_96) rfl ?_
  obtain ⟨dx14, dhv14, dS14⟩ : ∃ v, FP.l2d tf = v ∧ own_Sc 0 (tf.toInt) v := ⟨_, rfl, own_l2d (by omega)⟩
  refine own_go (fun t k => XS.l2dS X12.here hx rfl (hb hby d3_97) rfl dhv14 k) ?_
  show own_Go p e below _ T12 (mkF m 98 #[rv a1, .val (.double xi), .second, .val (.long tf), .second, .val (.long dl), .second, .val (.double xa), .second, .val (.double dx7), .second, .unset, .unset] [(.double dx14), (.double dx13), (.double dx11)])
  obtain ⟨dx15, dhv15, dS15⟩ : ∃ v, FP.dadd dx13 dx14 = v ∧ own_Sc (4 + k) ((i1 * ((4 - i2) * ((2 ^ k : Nat) : Int) + i2 * dl.toInt * 256) + tf.toInt * (((2 ^ k : Nat) : Int) * 16))) v := ⟨_, rfl, own_dadd dS13 (own_eqSc (own_up dS14 (k + 4)) (by omega) (by rw [own_p4])) (by omega) (by omega) (by omega)⟩
  refine own_go (fun t k => XS.daddS X12.here hx rfl (hb hby d3_98) rfl (own_scnn dhv15 dS15) dhv15 k) ?_
  show own_Go p e below _ T12 (mkF m 99 #[rv a1, .val (.double xi), .second, .val (.long tf), .second, .val (.long dl), .second, .val (.double xa), .second, .val (.double dx7), .second, .unset, .unset] [(.double dx15), (.double dx11)])
  have hq := own_quoEq (own_eqSc (own_up dS11 (k + 2)) (k' := 4 + k) (i' := ((i1 + 4) * tf.toInt * (4 * ((2 ^ k : Nat) : Int)))) (by omega) (by rw [own_p2])) dS15 hN hD (by omega) (by omega) (by omega) (by omega)
  refine own_go (fun t k => XS.ddivS X12.here hx rfl (hb hby d3_99) rfl (by rw [hq]; exact qf.noNaN) hq k) ?_
  show own_Go p e below _ T12 (mkF m 100 #[rv a1, .val (.double xi), .second, .val (.long tf), .second, .val (.long dl), .second, .val (.double xa), .second, .val (.double dx7), .second, .unset, .unset] [(.double (FP.ddiv (FP.l2d N) (FP.l2d D)))])
  refine own_go (fun t k => XS.dstore X12.here hx rfl (hb hby d3_100) rfl (l' := #[rv a1, .val (.double xi), .second, .val (.long tf), .second, .val (.long dl), .second, .val (.double xa), .second, .val (.double dx7), .second, .val (.double (FP.ddiv (FP.l2d N) (FP.l2d D))), .second]) rfl k) ?_
  show own_Go p e below _ T12 (mkF m 102 #[rv a1, .val (.double xi), .second, .val (.long tf), .second, .val (.long dl), .second, .val (.double xa), .second, .val (.double dx7), .second, .val (.double (FP.ddiv (FP.l2d N) (FP.l2d D))), .second] [])
  refine own_go (fun t k => XS.dload X12.here hx rfl (hb hby d3_102) rfl k) ?_
  show own_Go p e below _ T12 (mkF m 104 #[rv a1, .val (.double xi), .second, .val (.long tf), .second, .val (.long dl), .second, .val (.double xa), .second, .val (.double dx7), .second, .val (.double (FP.ddiv (FP.l2d N) (FP.l2d D))), .second] [(.double (FP.ddiv (FP.l2d N) (FP.l2d D)))])
  refine og_aloadN X12 hx (hb hby d3_104) rfl rfl ?_
  refine og_getF X12 hx hZ hown (own_hw hw 19 rfl) Via.refl e12 F2 (hb hby d3_105) ?_
  intro T17 X17 e17
  show own_Go p e below _ T17 (mkF m 108 #[rv a1, .val (.double xi), .second, .val (.long tf), .second, .val (.long dl), .second, .val (.double xa), .second, .val (.double dx7), .second, .val (.double (FP.ddiv (FP.l2d N) (FP.l2d D))), .second] [(.double x3), (.double (FP.ddiv (FP.l2d N) (FP.l2d D)))])
  refine own_go (fun t k => XS.daddS X17.here hx rfl (hb hby d3_108) rfl (Jvm.Free.Fl.dadd_out qf.noNaN (own_scfin S3)) rfl k) ?_
  show own_Go p e below _ T17 (mkF m 109 #[rv a1, .val (.double xi), .second, .val (.long tf), .second, .val (.long dl), .second, .val (.double xa), .second, .val (.double dx7), .second, .val (.double (FP.ddiv (FP.l2d N) (FP.l2d D))), .second] [(.double (FP.dadd (FP.ddiv (FP.l2d N) (FP.l2d D)) x3))])
  refine own_go (fun t k => XS.dloadN X17.here hx rfl (hb hby d3_109) rfl k) ?_
  show own_Go p e below _ T17 (mkF m 110 #[rv a1, .val (.double xi), .second, .val (.long tf), .second, .val (.long dl), .second, .val (.double xa), .second, .val (.double dx7), .second, .val (.double (FP.ddiv (FP.l2d N) (FP.l2d D))), .second] [(.double xi), (.double (FP.dadd (FP.ddiv (FP.l2d N) (FP.l2d D)) x3))])
  refine own_go (fun t k => XS.dmulS X17.here hx rfl (hb hby d3_110) rfl (Jvm.Free.Fl.dmul_out hfin (own_scfin S4)) rfl k) ?_
  show own_Go p e below _ T17 (mkF m 111 #[rv a1, .val (.double xi), .second, .val (.long tf), .second, .val (.long dl), .second, .val (.double xa), .second, .val (.double dx7), .second, .val (.double (FP.ddiv (FP.l2d N) (FP.l2d D))), .second] [(.double (FP.dmul (FP.dadd (FP.ddiv (FP.l2d N) (FP.l2d D)) x3) xi))])
  exact own_retD X17 hx hret hlk (hb hby d3_111) (by decide) (by decide) (⟨rfl, N0, e17⟩)
theorem own_tf {a : Int32} (h : 0 ≤ a.toInt ∧ a.toInt ≤ 1048575) : 1 ≤ (a.toInt64 + 1).toInt ∧ (a.toInt64 + 1).toInt ≤ 1048576 := by
  have e1 : (1 : Int64).toInt = 1 := rfl
  rw [Jvm.Kit.i64_add (by rw [Int32.toInt_toInt64, e1]; omega) (by rw [Int32.toInt_toInt64, e1]; omega), Int32.toInt_toInt64, e1]; omega
theorem own_dl {t : Int64} {a : Int32} (ht : 1 ≤ t.toInt ∧ t.toInt ≤ 1048576) (h : 0 ≤ a.toInt ∧ a.toInt ≤ 1048575) : t.toInt ≤ (t + a.toInt64).toInt ∧ (t + a.toInt64).toInt ≤ 2097152 := by
  rw [Jvm.Kit.i64_add (by rw [Int32.toInt_toInt64]; omega) (by rw [Int32.toInt_toInt64]; omega), Int32.toInt_toInt64]; omega
theorem own_S {bq : Int32} {o dl : Int64} {P : Int} (hb : 0 ≤ bq.toInt ∧ bq.toInt ≤ 4) (ho : o.toInt = P) (bP : 0 ≤ P ∧ P ≤ 32768) (hd : 0 ≤ dl.toInt ∧ dl.toInt ≤ 2097152) : ((4 - bq).toInt64 * o + bq.toInt64 * dl * 256).toInt = (4 - bq.toInt) * P + bq.toInt * dl.toInt * 256 ∧ 0 ≤ ((4 - bq).toInt64 * o + bq.toInt64 * dl * 256).toInt ∧ ((4 - bq).toInt64 * o + bq.toInt64 * dl * 256).toInt ≤ 131072 + 2147483648 := by
  have e4 : (4 : Int32).toInt = 4 := rfl
  have e5 : (256 : Int64).toInt = 256 := rfl
  have d1 : (4 - bq).toInt64.toInt = 4 - bq.toInt := by rw [Int32.toInt_toInt64, Jvm.Kit.i32_sub (by rw [e4]; omega) (by rw [e4]; omega), e4]
  have d2 : bq.toInt64.toInt = bq.toInt := Int32.toInt_toInt64 bq
  have j1 := own_mulJ (x := (4 - bq).toInt64) (y := o) (A := 4) (B := 32768) (by omega) (by omega) (by decide)
  have j2 := own_mulJ (x := bq.toInt64) (y := dl) (A := 4) (B := 2097152) (by omega) hd (by decide)
  have j3 := own_mulJ (x := bq.toInt64 * dl) (y := 256) (A := 4 * 2097152) (B := 256) j2.2 (by omega) (by decide)
  have j4 := own_addJ (A := 4 * 32768) (B := 4 * 2097152 * 256) j1.2 j3.2 (by decide)
  refine ⟨?_, j4.2.1, j4.2.2⟩
  rw [j4.1, j1.1, j3.1, j2.1, d1, d2, ho, e5]
theorem own_N {kk : Int32} {tf q : Int64} {P : Int} (hk : 0 ≤ kk.toInt ∧ kk.toInt ≤ 63) (ht : 1 ≤ tf.toInt ∧ tf.toInt ≤ 1048576) (hq : q.toInt = 4 * P) (bP : 0 ≤ P ∧ P ≤ 32768) : ((kk + 4).toInt64 * tf * q).toInt = (kk.toInt + 4) * tf.toInt * (4 * P) := by
  have e4 : (4 : Int32).toInt = 4 := rfl
  have d1 : (kk + 4).toInt64.toInt = kk.toInt + 4 := by rw [Int32.toInt_toInt64, Jvm.Kit.i32_add (by rw [e4]; omega) (by rw [e4]; omega), e4]
  have j1 := own_mulJ (x := (kk + 4).toInt64) (y := tf) (A := 67) (B := 1048576) (by omega) (by omega) (by decide)
  have j2 := own_mulJ (x := (kk + 4).toInt64 * tf) (y := q) (A := 67 * 1048576) (B := 131072) j1.2 (by omega) (by decide)
  rw [j2.1, j1.1, d1, hq]
theorem own_D {kk : Int32} {tf q S : Int64} {P SS : Int} (hk : 0 ≤ kk.toInt ∧ kk.toInt ≤ 63) (ht : 1 ≤ tf.toInt ∧ tf.toInt ≤ 1048576) (hq : q.toInt = 4 * P) (bP : 0 ≤ P ∧ P ≤ 32768) (hS : S.toInt = SS) (bS : 0 ≤ S.toInt ∧ S.toInt ≤ 131072 + 2147483648) : (kk.toInt64 * S + 4 * tf * q).toInt = kk.toInt * SS + tf.toInt * (P * 16) := by
  have e4 : (4 : Int64).toInt = 4 := rfl
  have d1 : kk.toInt64.toInt = kk.toInt := Int32.toInt_toInt64 kk
  have j1 := own_mulJ (x := kk.toInt64) (y := S) (A := 63) (B := 131072 + 2147483648) (by omega) bS (by decide)
  have j2 := own_mulJ (x := 4) (y := tf) (A := 4) (B := 1048576) (by omega) (by omega) (by decide)
  have j3 := own_mulJ (x := 4 * tf) (y := q) (A := 4 * 1048576) (B := 131072) j2.2 (by omega) (by decide)
  have j4 := own_addJ (A := 63 * (131072 + 2147483648)) (B := 4 * 1048576 * 131072) j1.2 j3.2 (by decide)
  rw [j4.1, j1.1, j3.1, j2.1, d1, hS, hq, e4, own_e16]
theorem own_pd62285 : parseMethodDescriptor "(DDD)V" = some ⟨[.double, .double, .double], none⟩ := by decide +kernel
theorem own_pd94384 : parseMethodDescriptor "(DJJD)D" = some ⟨[.double, .long, .long, .double], some .double⟩ := by decide +kernel
theorem own_rm0 (l : Launch) (Z : State) (a0 : Array Value) (hw : own_W a0 Z) (p1 p2 p3 p4 p5 : Int32) (h0 : Heap) (n0 : Nat) (hO : Old Z n0 h0) :
    own_Met l Z x code maxLocals ret room_1 #[(.int p1), (.int p2), (.int p3), (.int p4), (.int p5)] h0 (own_Q1 n0) := by
  refine own_body (by decide +kernel) ?_
  intro p e s m below meth c T0 X0 hx hZ hby hml hown hnm hret hlk e0
  have N0 := Fr.nil n0
  refine own_cast (own_frame (L := [iv p1, iv p2, iv p3, iv p4, iv p5]) (ls := #[iv p1, iv p2, iv p3, iv p4, iv p5, .unset, .unset, .unset, .unset, .unset, .unset, .unset, .unset, .unset, .unset, .unset, .unset, .unset, .unset, .unset, .unset, .unset, .unset, .unset, .unset, .unset, .unset, .unset, .unset, .unset, .unset, .unset, .unset, .unset, .unset, .unset, .unset, .unset]) rfl rfl) ?_
  refine og_iloadN X0 hx (hb hby at_0) rfl ?_
  refine og_bipush X0 hx (hb hby at_1) ?_
  refine og_iand X0 hx (hb hby at_3) ?_
  show own_Go p e below _ T0 (mkF m 4 #[iv p1, iv p2, iv p3, iv p4, iv p5, .unset, .unset, .unset, .unset, .unset, .unset, .unset, .unset, .unset, .unset, .unset, .unset, .unset, .unset, .unset, .unset, .unset, .unset, .unset, .unset, .unset, .unset, .unset, .unset, .unset, .unset, .unset, .unset, .unset, .unset, .unset, .unset, .unset] [(.int (p1 &&& 63))])
  obtain ⟨kk, e_kk, B_kk⟩ : ∃ s : Int32, (p1 &&& 63) = s ∧ (0 ≤ s.toInt ∧ s.toInt ≤ 63) := ⟨_, rfl, own_and63 _⟩
  rw [e_kk]
  show own_Go p e below _ T0 (mkF m 4 #[iv p1, iv p2, iv p3, iv p4, iv p5, .unset, .unset, .unset, .unset, .unset, .unset, .unset, .unset, .unset, .unset, .unset, .unset, .unset, .unset, .unset, .unset, .unset, .unset, .unset, .unset, .unset, .unset, .unset, .unset, .unset, .unset, .unset, .unset, .unset, .unset, .unset, .unset, .unset] [(.int kk)])
  refine og_istore X0 hx #[iv p1, iv p2, iv p3, iv p4, iv p5, iv kk, .unset, .unset, .unset, .unset, .unset, .unset, .unset, .unset, .unset, .unset, .unset, .unset, .unset, .unset, .unset, .unset, .unset, .unset, .unset, .unset, .unset, .unset, .unset, .unset, .unset, .unset, .unset, .unset, .unset, .unset, .unset, .unset] (hb hby at_4) rfl ?_
  refine og_iloadN X0 hx (hb hby at_6) rfl ?_
  refine og_bipush X0 hx (hb hby at_7) ?_
  refine og_iand X0 hx (hb hby at_9) ?_
  refine og_iconst X0 hx (hb hby at_10) ?_
  refine og_iremM X0 hx (hb hby at_11) (by decide) ?_
  show own_Go p e below _ T0 (mkF m 12 #[iv p1, iv p2, iv p3, iv p4, iv p5, iv kk, .unset, .unset, .unset, .unset, .unset, .unset, .unset, .unset, .unset, .unset, .unset, .unset, .unset, .unset, .unset, .unset, .unset, .unset, .unset, .unset, .unset, .unset, .unset, .unset, .unset, .unset, .unset, .unset, .unset, .unset, .unset, .unset] [(.int ((p2 &&& 7) % 5))])
  obtain ⟨bq, e_bq, B_bq⟩ : ∃ s : Int32, ((p2 &&& 7) % 5) = s ∧ (0 ≤ s.toInt ∧ s.toInt ≤ 4) := ⟨_, rfl, own_rem7 _⟩
  rw [e_bq]
  show own_Go p e below _ T0 (mkF m 12 #[iv p1, iv p2, iv p3, iv p4, iv p5, iv kk, .unset, .unset, .unset, .unset, .unset, .unset, .unset, .unset, .unset, .unset, .unset, .unset, .unset, .unset, .unset, .unset, .unset, .unset, .unset, .unset, .unset, .unset, .unset, .unset, .unset, .unset, .unset, .unset, .unset, .unset, .unset, .unset] [(.int bq)])
  refine og_istore X0 hx #[iv p1, iv p2, iv p3, iv p4, iv p5, iv kk, iv bq, .unset, .unset, .unset, .unset, .unset, .unset, .unset, .unset, .unset, .unset, .unset, .unset, .unset, .unset, .unset, .unset, .unset, .unset, .unset, .unset, .unset, .unset, .unset, .unset, .unset, .unset, .unset, .unset, .unset, .unset, .unset] (hb hby at_12) rfl ?_
  refine og_iloadN X0 hx (hb hby at_14) rfl ?_
  refine og_iconst X0 hx (hb hby at_15) ?_
  refine own_go (fun t k => XS.iushr X0.here hx rfl (hb hby at_16) rfl k) ?_
  show own_Go p e below _ T0 (mkF m 17 #[iv p1, iv p2, iv p3, iv p4, iv p5, iv kk, iv bq, .unset, .unset, .unset, .unset, .unset, .unset, .unset, .unset, .unset, .unset, .unset, .unset, .unset, .unset, .unset, .unset, .unset, .unset, .unset, .unset, .unset, .unset, .unset, .unset, .unset, .unset, .unset, .unset, .unset, .unset, .unset] [(.int ((p2.toUInt32 >>> ((3 : Int32) &&& 31).toUInt32).toInt32))])
  refine og_bipush X0 hx (hb hby at_17) ?_
  refine og_iand X0 hx (hb hby at_19) ?_
  show own_Go p e below _ T0 (mkF m 20 #[iv p1, iv p2, iv p3, iv p4, iv p5, iv kk, iv bq, .unset, .unset, .unset, .unset, .unset, .unset, .unset, .unset, .unset, .unset, .unset, .unset, .unset, .unset, .unset, .unset, .unset, .unset, .unset, .unset, .unset, .unset, .unset, .unset, .unset, .unset, .unset, .unset, .unset, .unset, .unset] [(.int (((p2.toUInt32 >>> ((3 : Int32) &&& 31).toUInt32).toInt32) &&& 15))])
  obtain ⟨sh, e_sh, B_sh⟩ : ∃ s : Int32, (((p2.toUInt32 >>> ((3 : Int32) &&& 31).toUInt32).toInt32) &&& 15) = s ∧ (0 ≤ s.toInt ∧ s.toInt ≤ 15) := ⟨_, rfl, own_and15 _⟩
  rw [e_sh]
  show own_Go p e below _ T0 (mkF m 20 #[iv p1, iv p2, iv p3, iv p4, iv p5, iv kk, iv bq, .unset, .unset, .unset, .unset, .unset, .unset, .unset, .unset, .unset, .unset, .unset, .unset, .unset, .unset, .unset, .unset, .unset, .unset, .unset, .unset, .unset, .unset, .unset, .unset, .unset, .unset, .unset, .unset, .unset, .unset, .unset] [(.int sh)])
  obtain ⟨k, hk, t1, t2, t3⟩ := own_shift B_sh
  have bP := own_pow15 hk
  have pP := own_pow1 k
  refine og_istore X0 hx #[iv p1, iv p2, iv p3, iv p4, iv p5, iv kk, iv bq, iv sh, .unset, .unset, .unset, .unset, .unset, .unset, .unset, .unset, .unset, .unset, .unset, .unset, .unset, .unset, .unset, .unset, .unset, .unset, .unset, .unset, .unset, .unset, .unset, .unset, .unset, .unset, .unset, .unset, .unset, .unset] (hb hby at_20) rfl ?_
  refine og_iloadN X0 hx (hb hby at_22) rfl ?_
  refine og_bipush X0 hx (hb hby at_23) ?_
  refine own_go (fun t k => XS.iushr X0.here hx rfl (hb hby at_25) rfl k) ?_
  show own_Go p e below _ T0 (mkF m 26 #[iv p1, iv p2, iv p3, iv p4, iv p5, iv kk, iv bq, iv sh, .unset, .unset, .unset, .unset, .unset, .unset, .unset, .unset, .unset, .unset, .unset, .unset, .unset, .unset, .unset, .unset, .unset, .unset, .unset, .unset, .unset, .unset, .unset, .unset, .unset, .unset, .unset, .unset, .unset, .unset] [(.int ((p2.toUInt32 >>> ((7 : Int32) &&& 31).toUInt32).toInt32))])
  refine og_sipush X0 hx (hb hby at_26) ?_
  refine og_iand X0 hx (hb hby at_29) ?_
  show own_Go p e below _ T0 (mkF m 30 #[iv p1, iv p2, iv p3, iv p4, iv p5, iv kk, iv bq, iv sh, .unset, .unset, .unset, .unset, .unset, .unset, .unset, .unset, .unset, .unset, .unset, .unset, .unset, .unset, .unset, .unset, .unset, .unset, .unset, .unset, .unset, .unset, .unset, .unset, .unset, .unset, .unset, .unset, .unset, .unset] [(.int (((p2.toUInt32 >>> ((7 : Int32) &&& 31).toUInt32).toInt32) &&& 255))])
  obtain ⟨ee, e_ee, B_ee⟩ : ∃ s : Int32, (((p2.toUInt32 >>> ((7 : Int32) &&& 31).toUInt32).toInt32) &&& 255) = s ∧ (0 ≤ s.toInt ∧ s.toInt ≤ 255) := ⟨_, rfl, own_and255 _⟩
  rw [e_ee]
  show own_Go p e below _ T0 (mkF m 30 #[iv p1, iv p2, iv p3, iv p4, iv p5, iv kk, iv bq, iv sh, .unset, .unset, .unset, .unset, .unset, .unset, .unset, .unset, .unset, .unset, .unset, .unset, .unset, .unset, .unset, .unset, .unset, .unset, .unset, .unset, .unset, .unset, .unset, .unset, .unset, .unset, .unset, .unset, .unset, .unset] [(.int ee)])
  refine og_istore X0 hx #[iv p1, iv p2, iv p3, iv p4, iv p5, iv kk, iv bq, iv sh, iv ee, .unset, .unset, .unset, .unset, .unset, .unset, .unset, .unset, .unset, .unset, .unset, .unset, .unset, .unset, .unset, .unset, .unset, .unset, .unset, .unset, .unset, .unset, .unset, .unset, .unset, .unset, .unset, .unset, .unset] (hb hby at_30) rfl ?_
  refine og_iload X0 hx (hb hby at_32) rfl ?_
  obtain ⟨dx1, dhv1, dS1⟩ : ∃ v, FP.i2d kk = v ∧ own_Sc 0 (kk.toInt) v := ⟨_, rfl, own_i2d _⟩
  refine own_go (fun t k => XS.i2dS X0.here hx rfl (hb hby at_34) rfl dhv1 k) ?_
  show own_Go p e below _ T0 (mkF m 35 #[iv p1, iv p2, iv p3, iv p4, iv p5, iv kk, iv bq, iv sh, iv ee, .unset, .unset, .unset, .unset, .unset, .unset, .unset, .unset, .unset, .unset, .unset, .unset, .unset, .unset, .unset, .unset, .unset, .unset, .unset, .unset, .unset, .unset, .unset, .unset, .unset, .unset, .unset, .unset, .unset] [(.double dx1)])
  refine og_ldcD X0 hx hZ hown (own_hw hw 0 rfl) (hb hby at_35) ?_
  show own_Go p e below _ T0 (mkF m 38 #[iv p1, iv p2, iv p3, iv p4, iv p5, iv kk, iv bq, iv sh, iv ee, .unset, .unset, .unset, .unset, .unset, .unset, .unset, .unset, .unset, .unset, .unset, .unset, .unset, .unset, .unset, .unset, .unset, .unset, .unset, .unset, .unset, .unset, .unset, .unset, .unset, .unset, .unset, .unset, .unset] [(.double 4616189618054758400), (.double dx1)])
  obtain ⟨dx2, dhv2, dS2⟩ : ∃ v, FP.ddiv dx1 4616189618054758400 = v ∧ own_Sc 2 (kk.toInt) v := ⟨_, rfl, own_eqSc (own_ddiv (m := 2) dS1 (by decide +kernel) (by decide) (by decide) (by omega)) (by decide) rfl⟩
  refine own_go (fun t k => XS.ddivS X0.here hx rfl (hb hby at_38) rfl (own_scnn dhv2 dS2) dhv2 k) ?_
  show own_Go p e below _ T0 (mkF m 39 #[iv p1, iv p2, iv p3, iv p4, iv p5, iv kk, iv bq, iv sh, iv ee, .unset, .unset, .unset, .unset, .unset, .unset, .unset, .unset, .unset, .unset, .unset, .unset, .unset, .unset, .unset, .unset, .unset, .unset, .unset, .unset, .unset, .unset, .unset, .unset, .unset, .unset, .unset, .unset, .unset] [(.double dx2)])
  refine own_go (fun t k => XS.dstore X0.here hx rfl (hb hby at_39) rfl (l' := #[iv p1, iv p2, iv p3, iv p4, iv p5, iv kk, iv bq, iv sh, iv ee, .val (.double dx2), .second, .unset, .unset, .unset, .unset, .unset, .unset, .unset, .unset, .unset, .unset, .unset, .unset, .unset, .unset, .unset, .unset, .unset, .unset, .unset, .unset, .unset, .unset, .unset, .unset, .unset, .unset, .unset]) rfl k) ?_
  show own_Go p e below _ T0 (mkF m 41 #[iv p1, iv p2, iv p3, iv p4, iv p5, iv kk, iv bq, iv sh, iv ee, .val (.double dx2), .second, .unset, .unset, .unset, .unset, .unset, .unset, .unset, .unset, .unset, .unset, .unset, .unset, .unset, .unset, .unset, .unset, .unset, .unset, .unset, .unset, .unset, .unset, .unset, .unset, .unset, .unset, .unset] [])
  refine og_iload X0 hx (hb hby at_41) rfl ?_
  obtain ⟨dx3, dhv3, dS3⟩ : ∃ v, FP.i2d bq = v ∧ own_Sc 0 (bq.toInt) v := ⟨_, rfl, own_i2d _⟩
  refine own_go (fun t k => XS.i2dS X0.here hx rfl (hb hby at_43) rfl dhv3 k) ?_
  show own_Go p e below _ T0 (mkF m 44 #[iv p1, iv p2, iv p3, iv p4, iv p5, iv kk, iv bq, iv sh, iv ee, .val (.double dx2), .second, .unset, .unset, .unset, .unset, .unset, .unset, .unset, .unset, .unset, .unset, .unset, .unset, .unset, .unset, .unset, .unset, .unset, .unset, .unset, .unset, .unset, .unset, .unset, .unset, .unset, .unset, .unset] [(.double dx3)])
  refine og_ldcD X0 hx hZ hown (own_hw hw 0 rfl) (hb hby at_44) ?_
  show own_Go p e below _ T0 (mkF m 47 #[iv p1, iv p2, iv p3, iv p4, iv p5, iv kk, iv bq, iv sh, iv ee, .val (.double dx2), .second, .unset, .unset, .unset, .unset, .unset, .unset, .unset, .unset, .unset, .unset, .unset, .unset, .unset, .unset, .unset, .unset, .unset, .unset, .unset, .unset, .unset, .unset, .unset, .unset, .unset, .unset, .unset] [(.double 4616189618054758400), (.double dx3)])
  obtain ⟨dx4, dhv4, dS4⟩ : ∃ v, FP.ddiv dx3 4616189618054758400 = v ∧ own_Sc 2 (bq.toInt) v := ⟨_, rfl, own_eqSc (own_ddiv (m := 2) dS3 (by decide +kernel) (by decide) (by decide) (by omega)) (by decide) rfl⟩
  refine own_go (fun t k => XS.ddivS X0.here hx rfl (hb hby at_47) rfl (own_scnn dhv4 dS4) dhv4 k) ?_
  show own_Go p e below _ T0 (mkF m 48 #[iv p1, iv p2, iv p3, iv p4, iv p5, iv kk, iv bq, iv sh, iv ee, .val (.double dx2), .second, .unset, .unset, .unset, .unset, .unset, .unset, .unset, .unset, .unset, .unset, .unset, .unset, .unset, .unset, .unset, .unset, .unset, .unset, .unset, .unset, .unset, .unset, .unset, .unset, .unset, .unset, .unset] [(.double dx4)])
  refine own_go (fun t k => XS.dstore X0.here hx rfl (hb hby at_48) rfl (l' := #[iv p1, iv p2, iv p3, iv p4, iv p5, iv kk, iv bq, iv sh, iv ee, .val (.double dx2), .second, .val (.double dx4), .second, .unset, .unset, .unset, .unset, .unset, .unset, .unset, .unset, .unset, .unset, .unset, .unset, .unset, .unset, .unset, .unset, .unset, .unset, .unset, .unset, .unset, .unset, .unset, .unset, .unset]) rfl k) ?_
  show own_Go p e below _ T0 (mkF m 50 #[iv p1, iv p2, iv p3, iv p4, iv p5, iv kk, iv bq, iv sh, iv ee, .val (.double dx2), .second, .val (.double dx4), .second, .unset, .unset, .unset, .unset, .unset, .unset, .unset, .unset, .unset, .unset, .unset, .unset, .unset, .unset, .unset, .unset, .unset, .unset, .unset, .unset, .unset, .unset, .unset, .unset, .unset] [])
  refine og_iload X0 hx (hb hby at_50) rfl ?_
  obtain ⟨dx5, dhv5, dS5⟩ : ∃ v, FP.i2d ee = v ∧ own_Sc 0 (ee.toInt) v := ⟨_, rfl, own_i2d _⟩
  refine own_go (fun t k => XS.i2dS X0.here hx rfl (hb hby at_52) rfl dhv5 k) ?_
  show own_Go p e below _ T0 (mkF m 53 #[iv p1, iv p2, iv p3, iv p4, iv p5, iv kk, iv bq, iv sh, iv ee, .val (.double dx2), .second, .val (.double dx4), .second, .unset, .unset, .unset, .unset, .unset, .unset, .unset, .unset, .unset, .unset, .unset, .unset, .unset, .unset, .unset, .unset, .unset, .unset, .unset, .unset, .unset, .unset, .unset, .unset, .unset] [(.double dx5)])
  refine og_ldcD X0 hx hZ hown (own_hw hw 1 rfl) (hb hby at_53) ?_
  show own_Go p e below _ T0 (mkF m 56 #[iv p1, iv p2, iv p3, iv p4, iv p5, iv kk, iv bq, iv sh, iv ee, .val (.double dx2), .second, .val (.double dx4), .second, .unset, .unset, .unset, .unset, .unset, .unset, .unset, .unset, .unset, .unset, .unset, .unset, .unset, .unset, .unset, .unset, .unset, .unset, .unset, .unset, .unset, .unset, .unset, .unset, .unset] [(.double 4620693217682128896), (.double dx5)])
  obtain ⟨dx6, dhv6, dS6⟩ : ∃ v, FP.ddiv dx5 4620693217682128896 = v ∧ own_Sc 3 (ee.toInt) v := ⟨_, rfl, own_eqSc (own_ddiv (m := 3) dS5 (by decide +kernel) (by decide) (by decide) (by omega)) (by decide) rfl⟩
  refine own_go (fun t k => XS.ddivS X0.here hx rfl (hb hby at_56) rfl (own_scnn dhv6 dS6) dhv6 k) ?_
  show own_Go p e below _ T0 (mkF m 57 #[iv p1, iv p2, iv p3, iv p4, iv p5, iv kk, iv bq, iv sh, iv ee, .val (.double dx2), .second, .val (.double dx4), .second, .unset, .unset, .unset, .unset, .unset, .unset, .unset, .unset, .unset, .unset, .unset, .unset, .unset, .unset, .unset, .unset, .unset, .unset, .unset, .unset, .unset, .unset, .unset, .unset, .unset] [(.double dx6)])
  refine own_go (fun t k => XS.dstore X0.here hx rfl (hb hby at_57) rfl (l' := #[iv p1, iv p2, iv p3, iv p4, iv p5, iv kk, iv bq, iv sh, iv ee, .val (.double dx2), .second, .val (.double dx4), .second, .val (.double dx6), .second, .unset, .unset, .unset, .unset, .unset, .unset, .unset, .unset, .unset, .unset, .unset, .unset, .unset, .unset, .unset, .unset, .unset, .unset, .unset, .unset, .unset, .unset, .unset]) rfl k) ?_
  show own_Go p e below _ T0 (mkF m 59 #[iv p1, iv p2, iv p3, iv p4, iv p5, iv kk, iv bq, iv sh, iv ee, .val (.double dx2), .second, .val (.double dx4), .second, .val (.double dx6), .second, .unset, .unset, .unset, .unset, .unset, .unset, .unset, .unset, .unset, .unset, .unset, .unset, .unset, .unset, .unset, .unset, .unset, .unset, .unset, .unset, .unset, .unset, .unset] [])
  refine og_iconst X0 hx (hb hby at_59) ?_
  refine og_iload X0 hx (hb hby at_60) rfl ?_
  refine own_go (fun t k => XS.ishl X0.here hx rfl (hb hby at_62) rfl k) ?_
  show own_Go p e below _ T0 (mkF m 63 #[iv p1, iv p2, iv p3, iv p4, iv p5, iv kk, iv bq, iv sh, iv ee, .val (.double dx2), .second, .val (.double dx4), .second, .val (.double dx6), .second, .unset, .unset, .unset, .unset, .unset, .unset, .unset, .unset, .unset, .unset, .unset, .unset, .unset, .unset, .unset, .unset, .unset, .unset, .unset, .unset, .unset, .unset, .unset] [(.int ((1 : Int32) <<< (sh &&& 31)))])
  obtain ⟨av, e_av, B_av⟩ : ∃ s : Int32, ((1 : Int32) <<< (sh &&& 31)) = s ∧ (s.toInt = ((2 ^ k : Nat) : Int)) := ⟨_, rfl, t1⟩
  rw [e_av]
  show own_Go p e below _ T0 (mkF m 63 #[iv p1, iv p2, iv p3, iv p4, iv p5, iv kk, iv bq, iv sh, iv ee, .val (.double dx2), .second, .val (.double dx4), .second, .val (.double dx6), .second, .unset, .unset, .unset, .unset, .unset, .unset, .unset, .unset, .unset, .unset, .unset, .unset, .unset, .unset, .unset, .unset, .unset, .unset, .unset, .unset, .unset, .unset, .unset] [(.int av)])
  obtain ⟨dx7, dhv7, dS7⟩ : ∃ v, FP.i2d av = v ∧ own_Sc 0 (av.toInt) v := ⟨_, rfl, own_i2d _⟩
  refine own_go (fun t k => XS.i2dS X0.here hx rfl (hb hby at_63) rfl dhv7 k) ?_
  show own_Go p e below _ T0 (mkF m 64 #[iv p1, iv p2, iv p3, iv p4, iv p5, iv kk, iv bq, iv sh, iv ee, .val (.double dx2), .second, .val (.double dx4), .second, .val (.double dx6), .second, .unset, .unset, .unset, .unset, .unset, .unset, .unset, .unset, .unset, .unset, .unset, .unset, .unset, .unset, .unset, .unset, .unset, .unset, .unset, .unset, .unset, .unset, .unset] [(.double dx7)])
  refine og_ldcD X0 hx hZ hown (own_hw hw 2 rfl) (hb hby at_64) ?_
  show own_Go p e below _ T0 (mkF m 67 #[iv p1, iv p2, iv p3, iv p4, iv p5, iv kk, iv bq, iv sh, iv ee, .val (.double dx2), .second, .val (.double dx4), .second, .val (.double dx6), .second, .unset, .unset, .unset, .unset, .unset, .unset, .unset, .unset, .unset, .unset, .unset, .unset, .unset, .unset, .unset, .unset, .unset, .unset, .unset, .unset, .unset, .unset, .unset] [(.double 4643211215818981376), (.double dx7)])
  obtain ⟨dx8, dhv8, dS8⟩ : ∃ v, FP.ddiv dx7 4643211215818981376 = v ∧ own_Sc (8 : Nat) (((2 ^ k : Nat) : Int)) v := ⟨_, rfl, own_eqSc (own_ddiv (m := 8) dS7 (by decide +kernel) (by decide) (by decide) (by omega)) (by decide) B_av⟩
  refine own_go (fun t k => XS.ddivS X0.here hx rfl (hb hby at_67) rfl (own_scnn dhv8 dS8) dhv8 k) ?_
  show own_Go p e below _ T0 (mkF m 68 #[iv p1, iv p2, iv p3, iv p4, iv p5, iv kk, iv bq, iv sh, iv ee, .val (.double dx2), .second, .val (.double dx4), .second, .val (.double dx6), .second, .unset, .unset, .unset, .unset, .unset, .unset, .unset, .unset, .unset, .unset, .unset, .unset, .unset, .unset, .unset, .unset, .unset, .unset, .unset, .unset, .unset, .unset, .unset] [(.double dx8)])
  refine own_go (fun t k => XS.dstore X0.here hx rfl (hb hby at_68) rfl (l' := #[iv p1, iv p2, iv p3, iv p4, iv p5, iv kk, iv bq, iv sh, iv ee, .val (.double dx2), .second, .val (.double dx4), .second, .val (.double dx6), .second, .val (.double dx8), .second, .unset, .unset, .unset, .unset, .unset, .unset, .unset, .unset, .unset, .unset, .unset, .unset, .unset, .unset, .unset, .unset, .unset, .unset, .unset, .unset, .unset]) rfl k) ?_
  show own_Go p e below _ T0 (mkF m 70 #[iv p1, iv p2, iv p3, iv p4, iv p5, iv kk, iv bq, iv sh, iv ee, .val (.double dx2), .second, .val (.double dx4), .second, .val (.double dx6), .second, .val (.double dx8), .second, .unset, .unset, .unset, .unset, .unset, .unset, .unset, .unset, .unset, .unset, .unset, .unset, .unset, .unset, .unset, .unset, .unset, .unset, .unset, .unset, .unset] [])
  refine og_iloadN X0 hx (hb hby at_70) rfl ?_
  obtain ⟨dx9, dhv9, dS9⟩ : ∃ v, FP.i2d p3 = v ∧ own_Sc 0 (p3.toInt) v := ⟨_, rfl, own_i2d _⟩
  refine own_go (fun t k => XS.i2dS X0.here hx rfl (hb hby at_71) rfl dhv9 k) ?_
  show own_Go p e below _ T0 (mkF m 72 #[iv p1, iv p2, iv p3, iv p4, iv p5, iv kk, iv bq, iv sh, iv ee, .val (.double dx2), .second, .val (.double dx4), .second, .val (.double dx6), .second, .val (.double dx8), .second, .unset, .unset, .unset, .unset, .unset, .unset, .unset, .unset, .unset, .unset, .unset, .unset, .unset, .unset, .unset, .unset, .unset, .unset, .unset, .unset, .unset] [(.double dx9)])
  refine og_ldcD X0 hx hZ hown (own_hw hw 3 rfl) (hb hby at_72) ?_
  show own_Go p e below _ T0 (mkF m 75 #[iv p1, iv p2, iv p3, iv p4, iv p5, iv kk, iv bq, iv sh, iv ee, .val (.double dx2), .second, .val (.double dx4), .second, .val (.double dx6), .second, .val (.double dx8), .second, .unset, .unset, .unset, .unset, .unset, .unset, .unset, .unset, .unset, .unset, .unset, .unset, .unset, .unset, .unset, .unset, .unset, .unset, .unset, .unset, .unset] [(.double 4634204016564240384), (.double dx9)])
  obtain ⟨dx10, dhv10, dS10⟩ : ∃ v, FP.ddiv dx9 4634204016564240384 = v ∧ own_Sc 6 (p3.toInt) v := ⟨_, rfl, own_eqSc (own_ddiv (m := 6) dS9 (by decide +kernel) (by decide) (by decide) (by have q := FP.Core.int32_abs p3; omega)) (by decide) rfl⟩
  refine own_go (fun t k => XS.ddivS X0.here hx rfl (hb hby at_75) rfl (own_scnn dhv10 dS10) dhv10 k) ?_
  show own_Go p e below _ T0 (mkF m 76 #[iv p1, iv p2, iv p3, iv p4, iv p5, iv kk, iv bq, iv sh, iv ee, .val (.double dx2), .second, .val (.double dx4), .second, .val (.double dx6), .second, .val (.double dx8), .second, .unset, .unset, .unset, .unset, .unset, .unset, .unset, .unset, .unset, .unset, .unset, .unset, .unset, .unset, .unset, .unset, .unset, .unset, .unset, .unset, .unset] [(.double dx10)])
  refine own_go (fun t k => XS.dstore X0.here hx rfl (hb hby at_76) rfl (l' := #[iv p1, iv p2, iv p3, iv p4, iv p5, iv kk, iv bq, iv sh, iv ee, .val (.double dx2), .second, .val (.double dx4), .second, .val (.double dx6), .second, .val (.double dx8), .second, .val (.double dx10), .second, .unset, .unset, .unset, .unset, .unset, .unset, .unset, .unset, .unset, .unset, .unset, .unset, .unset, .unset, .unset, .unset, .unset, .unset, .unset]) rfl k) ?_
  show own_Go p e below _ T0 (mkF m 78 #[iv p1, iv p2, iv p3, iv p4, iv p5, iv kk, iv bq, iv sh, iv ee, .val (.double dx2), .second, .val (.double dx4), .second, .val (.double dx6), .second, .val (.double dx8), .second, .val (.double dx10), .second, .unset, .unset, .unset, .unset, .unset, .unset, .unset, .unset, .unset, .unset, .unset, .unset, .unset, .unset, .unset, .unset, .unset, .unset, .unset] [])
  refine og_iloadN X0 hx (hb hby at_78) rfl ?_
  refine og_ldcI X0 hx hZ hown (own_hw hw 4 rfl) (hb hby at_79) ?_
  show own_Go p e below _ T0 (mkF m 81 #[iv p1, iv p2, iv p3, iv p4, iv p5, iv kk, iv bq, iv sh, iv ee, .val (.double dx2), .second, .val (.double dx4), .second, .val (.double dx6), .second, .val (.double dx8), .second, .val (.double dx10), .second, .unset, .unset, .unset, .unset, .unset, .unset, .unset, .unset, .unset, .unset, .unset, .unset, .unset, .unset, .unset, .unset, .unset, .unset, .unset] [(.int 1048575), (.int p4)])
  refine og_iand X0 hx (hb hby at_81) ?_
  show own_Go p e below _ T0 (mkF m 82 #[iv p1, iv p2, iv p3, iv p4, iv p5, iv kk, iv bq, iv sh, iv ee, .val (.double dx2), .second, .val (.double dx4), .second, .val (.double dx6), .second, .val (.double dx8), .second, .val (.double dx10), .second, .unset, .unset, .unset, .unset, .unset, .unset, .unset, .unset, .unset, .unset, .unset, .unset, .unset, .unset, .unset, .unset, .unset, .unset, .unset] [(.int (p4 &&& 1048575))])
  obtain ⟨a4, e_a4, B_a4⟩ : ∃ s : Int32, (p4 &&& 1048575) = s ∧ (0 ≤ s.toInt ∧ s.toInt ≤ 1048575) := ⟨_, rfl, own_and1048575 _⟩
  rw [e_a4]
  show own_Go p e below _ T0 (mkF m 82 #[iv p1, iv p2, iv p3, iv p4, iv p5, iv kk, iv bq, iv sh, iv ee, .val (.double dx2), .second, .val (.double dx4), .second, .val (.double dx6), .second, .val (.double dx8), .second, .val (.double dx10), .second, .unset, .unset, .unset, .unset, .unset, .unset, .unset, .unset, .unset, .unset, .unset, .unset, .unset, .unset, .unset, .unset, .unset, .unset, .unset] [(.int a4)])
  refine own_go (fun t k => XS.i2l X0.here hx rfl (hb hby at_82) rfl k) ?_
  show own_Go p e below _ T0 (mkF m 83 #[iv p1, iv p2, iv p3, iv p4, iv p5, iv kk, iv bq, iv sh, iv ee, .val (.double dx2), .second, .val (.double dx4), .second, .val (.double dx6), .second, .val (.double dx8), .second, .val (.double dx10), .second, .unset, .unset, .unset, .unset, .unset, .unset, .unset, .unset, .unset, .unset, .unset, .unset, .unset, .unset, .unset, .unset, .unset, .unset, .unset] [(.long (a4.toInt64))])
  refine og_lconst X0 hx (hb hby at_83) ?_
  refine own_go (fun t k => XS.ladd X0.here hx rfl (hb hby at_84) rfl k) ?_
  show own_Go p e below _ T0 (mkF m 85 #[iv p1, iv p2, iv p3, iv p4, iv p5, iv kk, iv bq, iv sh, iv ee, .val (.double dx2), .second, .val (.double dx4), .second, .val (.double dx6), .second, .val (.double dx8), .second, .val (.double dx10), .second, .unset, .unset, .unset, .unset, .unset, .unset, .unset, .unset, .unset, .unset, .unset, .unset, .unset, .unset, .unset, .unset, .unset, .unset, .unset] [(.long ((a4.toInt64) + (1 : Int64)))])
  obtain ⟨tf, e_tf, B_tf⟩ : ∃ s : Int64, ((a4.toInt64) + (1 : Int64)) = s ∧ (1 ≤ s.toInt ∧ s.toInt ≤ 1048576) := ⟨_, rfl, own_tf B_a4⟩
  rw [e_tf]
  show own_Go p e below _ T0 (mkF m 85 #[iv p1, iv p2, iv p3, iv p4, iv p5, iv kk, iv bq, iv sh, iv ee, .val (.double dx2), .second, .val (.double dx4), .second, .val (.double dx6), .second, .val (.double dx8), .second, .val (.double dx10), .second, .unset, .unset, .unset, .unset, .unset, .unset, .unset, .unset, .unset, .unset, .unset, .unset, .unset, .unset, .unset, .unset, .unset, .unset, .unset] [(.long tf)])
  refine og_lstore X0 hx #[iv p1, iv p2, iv p3, iv p4, iv p5, iv kk, iv bq, iv sh, iv ee, .val (.double dx2), .second, .val (.double dx4), .second, .val (.double dx6), .second, .val (.double dx8), .second, .val (.double dx10), .second, .val (.long tf), .second, .unset, .unset, .unset, .unset, .unset, .unset, .unset, .unset, .unset, .unset, .unset, .unset, .unset, .unset, .unset, .unset, .unset] (hb hby at_85) rfl ?_
  refine og_lload X0 hx (hb hby at_87) rfl ?_
  refine og_iload X0 hx (hb hby at_89) rfl ?_
  refine og_ldcI X0 hx hZ hown (own_hw hw 4 rfl) (hb hby at_91) ?_
  show own_Go p e below _ T0 (mkF m 93 #[iv p1, iv p2, iv p3, iv p4, iv p5, iv kk, iv bq, iv sh, iv ee, .val (.double dx2), .second, .val (.double dx4), .second, .val (.double dx6), .second, .val (.double dx8), .second, .val (.double dx10), .second, .val (.long tf), .second, .unset, .unset, .unset, .unset, .unset, .unset, .unset, .unset, .unset, .unset, .unset, .unset, .unset, .unset, .unset, .unset, .unset] [(.int 1048575), (.int p5), (.long tf)])
  refine og_iand X0 hx (hb hby at_93) ?_
  show own_Go p e below _ T0 (mkF m 94 #[iv p1, iv p2, iv p3, iv p4, iv p5, iv kk, iv bq, iv sh, iv ee, .val (.double dx2), .second, .val (.double dx4), .second, .val (.double dx6), .second, .val (.double dx8), .second, .val (.double dx10), .second, .val (.long tf), .second, .unset, .unset, .unset, .unset, .unset, .unset, .unset, .unset, .unset, .unset, .unset, .unset, .unset, .unset, .unset, .unset, .unset] [(.int (p5 &&& 1048575)), (.long tf)])
  obtain ⟨a5, e_a5, B_a5⟩ : ∃ s : Int32, (p5 &&& 1048575) = s ∧ (0 ≤ s.toInt ∧ s.toInt ≤ 1048575) := ⟨_, rfl, own_and1048575 _⟩
  rw [e_a5]
  show own_Go p e below _ T0 (mkF m 94 #[iv p1, iv p2, iv p3, iv p4, iv p5, iv kk, iv bq, iv sh, iv ee, .val (.double dx2), .second, .val (.double dx4), .second, .val (.double dx6), .second, .val (.double dx8), .second, .val (.double dx10), .second, .val (.long tf), .second, .unset, .unset, .unset, .unset, .unset, .unset, .unset, .unset, .unset, .unset, .unset, .unset, .unset, .unset, .unset, .unset, .unset] [(.int a5), (.long tf)])
  refine own_go (fun t k => XS.i2l X0.here hx rfl (hb hby at_94) rfl k) ?_
  show own_Go p e below _ T0 (mkF m 95 #[iv p1, iv p2, iv p3, iv p4, iv p5, iv kk, iv bq, iv sh, iv ee, .val (.double dx2), .second, .val (.double dx4), .second, .val (.double dx6), .second, .val (.double dx8), .second, .val (.double dx10), .second, .val (.long tf), .second, .unset, .unset, .unset, .unset, .unset, .unset, .unset, .unset, .unset, .unset, .unset, .unset, .unset, .unset, .unset, .unset, .unset] [(.long (a5.toInt64)), (.long tf)])
  refine own_go (fun t k => XS.ladd X0.here hx rfl (hb hby at_95) rfl k) ?_
  show own_Go p e below _ T0 (mkF m 96 #[iv p1, iv p2, iv p3, iv p4, iv p5, iv kk, iv bq, iv sh, iv ee, .val (.double dx2), .second, .val (.double dx4), .second, .val (.double dx6), .second, .val (.double dx8), .second, .val (.double dx10), .second, .val (.long tf), .second, .unset, .unset, .unset, .unset, .unset, .unset, .unset, .unset, .unset, .unset, .unset, .unset, .unset, .unset, .unset, .unset, .unset] [(.long (tf + (a5.toInt64)))])
  obtain ⟨dl, e_dl, B_dl⟩ : ∃ s : Int64, (tf + (a5.toInt64)) = s ∧ (tf.toInt ≤ s.toInt ∧ s.toInt ≤ 2097152) := ⟨_, rfl, own_dl B_tf B_a5⟩
  rw [e_dl]
  show own_Go p e below _ T0 (mkF m 96 #[iv p1, iv p2, iv p3, iv p4, iv p5, iv kk, iv bq, iv sh, iv ee, .val (.double dx2), .second, .val (.double dx4), .second, .val (.double dx6), .second, .val (.double dx8), .second, .val (.double dx10), .second, .val (.long tf), .second, .unset, .unset, .unset, .unset, .unset, .unset, .unset, .unset, .unset, .unset, .unset, .unset, .unset, .unset, .unset, .unset, .unset] [(.long dl)])
  refine og_lstore X0 hx #[iv p1, iv p2, iv p3, iv p4, iv p5, iv kk, iv bq, iv sh, iv ee, .val (.double dx2), .second, .val (.double dx4), .second, .val (.double dx6), .second, .val (.double dx8), .second, .val (.double dx10), .second, .val (.long tf), .second, .val (.long dl), .second, .unset, .unset, .unset, .unset, .unset, .unset, .unset, .unset, .unset, .unset, .unset, .unset, .unset, .unset, .unset] (hb hby at_96) rfl ?_
  refine own_newO X0 hx hZ hown (own_hw hw 5 rfl) (own_hw hw 6 rfl) (own_hw hw 7 rfl) e0 (hb hby at_98) (by decide) (by decide) ?_
  intro T11 h11 b11 g11 X11 e11 E11 A11 D11
  have ge_b11 : n0 ≤ b11 := Nat.le_trans (own_oldle hO) (Nat.le_of_eq g11.symm)
  have O11 := hO.ext E11
  have F_b11_k1_11 : Fld Z h11 b11 "com/example/hypatia/hypatia/engine/Bm25Plus" "k1" "D" (.double (0)) := D11 (Or.inr (own_hw hw 16 rfl)) (ty := .double) (by decide)
  have F_b11_b_11 : Fld Z h11 b11 "com/example/hypatia/hypatia/engine/Bm25Plus" "b" "D" (.double (0)) := D11 (Or.inr (own_hw hw 18 rfl)) (ty := .double) (by decide)
  have F_b11_delta_11 : Fld Z h11 b11 "com/example/hypatia/hypatia/engine/Bm25Plus" "delta" "D" (.double (0)) := D11 (Or.inr (own_hw hw 20 rfl)) (ty := .double) (by decide)
  show own_Go p e below _ T11 (mkF m 101 #[iv p1, iv p2, iv p3, iv p4, iv p5, iv kk, iv bq, iv sh, iv ee, .val (.double dx2), .second, .val (.double dx4), .second, .val (.double dx6), .second, .val (.double dx8), .second, .val (.double dx10), .second, .val (.long tf), .second, .val (.long dl), .second, .unset, .unset, .unset, .unset, .unset, .unset, .unset, .unset, .unset, .unset, .unset, .unset, .unset, .unset, .unset] [(.ref b11)])
  refine og_dup X11 hx (hb hby at_101) rfl ?_
  refine own_go (fun t k => XS.dload X11.here hx rfl (hb hby at_102) rfl k) ?_
  show own_Go p e below _ T11 (mkF m 104 #[iv p1, iv p2, iv p3, iv p4, iv p5, iv kk, iv bq, iv sh, iv ee, .val (.double dx2), .second, .val (.double dx4), .second, .val (.double dx6), .second, .val (.double dx8), .second, .val (.double dx10), .second, .val (.long tf), .second, .val (.long dl), .second, .unset, .unset, .unset, .unset, .unset, .unset, .unset, .unset, .unset, .unset, .unset, .unset, .unset, .unset, .unset] [(.double dx2), (.ref b11), (.ref b11)])
  refine own_go (fun t k => XS.dload X11.here hx rfl (hb hby at_104) rfl k) ?_
  show own_Go p e below _ T11 (mkF m 106 #[iv p1, iv p2, iv p3, iv p4, iv p5, iv kk, iv bq, iv sh, iv ee, .val (.double dx2), .second, .val (.double dx4), .second, .val (.double dx6), .second, .val (.double dx8), .second, .val (.double dx10), .second, .val (.long tf), .second, .val (.long dl), .second, .unset, .unset, .unset, .unset, .unset, .unset, .unset, .unset, .unset, .unset, .unset, .unset, .unset, .unset, .unset] [(.double dx4), (.double dx2), (.ref b11), (.ref b11)])
  refine own_go (fun t k => XS.dload X11.here hx rfl (hb hby at_106) rfl k) ?_
  show own_Go p e below _ T11 (mkF m 108 #[iv p1, iv p2, iv p3, iv p4, iv p5, iv kk, iv bq, iv sh, iv ee, .val (.double dx2), .second, .val (.double dx4), .second, .val (.double dx6), .second, .val (.double dx8), .second, .val (.double dx10), .second, .val (.long tf), .second, .val (.long dl), .second, .unset, .unset, .unset, .unset, .unset, .unset, .unset, .unset, .unset, .unset, .unset, .unset, .unset, .unset, .unset] [(.double dx6), (.double dx4), (.double dx2), (.ref b11), (.ref b11)])
  refine own_callN X11 hx hZ hown (own_hw hw 8 rfl) (own_hw hw 9 rfl) (own_hw hw 10 rfl) (own_hw hw 7 rfl) (by decide) rfl (b := b11) (argsL := [(.double dx2), (.double dx4), (.double dx6)]) (rest := [(.ref b11)]) (own_init l Z a0 hw b11 dx2 dx4 dx6 _ _ _ _ _ _ h11 n0 O11 ge_b11 A11 F_b11_k1_11 F_b11_b_11 F_b11_delta_11 dS2 dS4 dS6 B_kk.1 B_bq.1 B_bq.2 B_ee.1) e11 (by rw [hml]; rfl) (lenOf own_pd62285 rfl) rfl (hb hby at_108) (W := 1) (Nat.le_of_eq rfl) (by decide) ?_
  intro v12 T12 L12 X12 q12
  obtain ⟨rfl, N12q, K12q, Fa12, Fb12, Fc12⟩ := q12
  have N12 := Fr.app N0 N12q
  have E_b11_12 := A11.keep K12q
  have O12 := O11.keep K12q (allS ge_b11 all0)
  show own_Go p e below _ T12 (mkF m 111 #[iv p1, iv p2, iv p3, iv p4, iv p5, iv kk, iv bq, iv sh, iv ee, .val (.double dx2), .second, .val (.double dx4), .second, .val (.double dx6), .second, .val (.double dx8), .second, .val (.double dx10), .second, .val (.long tf), .second, .val (.long dl), .second, .unset, .unset, .unset, .unset, .unset, .unset, .unset, .unset, .unset, .unset, .unset, .unset, .unset, .unset, .unset] [(.ref b11)])
  refine og_astore X12 hx #[iv p1, iv p2, iv p3, iv p4, iv p5, iv kk, iv bq, iv sh, iv ee, .val (.double dx2), .second, .val (.double dx4), .second, .val (.double dx6), .second, .val (.double dx8), .second, .val (.double dx10), .second, .val (.long tf), .second, .val (.long dl), .second, rv b11, .unset, .unset, .unset, .unset, .unset, .unset, .unset, .unset, .unset, .unset, .unset, .unset, .unset, .unset] (hb hby at_111) rfl rfl ?_
  refine og_aload X12 hx (hb hby at_113) rfl rfl ?_
  refine own_go (fun t k => XS.dload X12.here hx rfl (hb hby at_115) rfl k) ?_
  show own_Go p e below _ T12 (mkF m 117 #[iv p1, iv p2, iv p3, iv p4, iv p5, iv kk, iv bq, iv sh, iv ee, .val (.double dx2), .second, .val (.double dx4), .second, .val (.double dx6), .second, .val (.double dx8), .second, .val (.double dx10), .second, .val (.long tf), .second, .val (.long dl), .second, rv b11, .unset, .unset, .unset, .unset, .unset, .unset, .unset, .unset, .unset, .unset, .unset, .unset, .unset, .unset] [(.double dx10), (.ref b11)])
  refine og_lload X12 hx (hb hby at_117) rfl ?_
  refine og_lload X12 hx (hb hby at_119) rfl ?_
  refine own_go (fun t k => XS.dload X12.here hx rfl (hb hby at_121) rfl k) ?_
  show own_Go p e below _ T12 (mkF m 123 #[iv p1, iv p2, iv p3, iv p4, iv p5, iv kk, iv bq, iv sh, iv ee, .val (.double dx2), .second, .val (.double dx4), .second, .val (.double dx6), .second, .val (.double dx8), .second, .val (.double dx10), .second, .val (.long tf), .second, .val (.long dl), .second, rv b11, .unset, .unset, .unset, .unset, .unset, .unset, .unset, .unset, .unset, .unset, .unset, .unset, .unset, .unset] [(.double dx8), (.long dl), (.long tf), (.double dx10), (.ref b11)])
  have hS := own_S (bq := bq) (o := (1 : Int64) <<< (sh &&& 0x3f).toInt64) (dl := dl) B_bq t3 bP ⟨by omega, by omega⟩
  have hN := own_N (kk := kk) (tf := tf) B_kk B_tf t2 bP
  have hD := own_D (kk := kk) (tf := tf) B_kk B_tf t2 bP hS.1 hS.2
  obtain ⟨NL, eNL⟩ : ∃ s : Int64, ((kk + 4).toInt64 * tf * ((4 : Int64) <<< (sh &&& 0x3f).toInt64)) = s := ⟨_, rfl⟩
  obtain ⟨DL, eDL⟩ : ∃ s : Int64, (kk.toInt64 * ((4 - bq).toInt64 * ((1 : Int64) <<< (sh &&& 0x3f).toInt64) + bq.toInt64 * dl * 256) + 4 * tf * ((4 : Int64) <<< (sh &&& 0x3f).toInt64)) = s := ⟨_, rfl⟩
  rw [eNL] at hN
  rw [eDL] at hD
  have m5 : 0 < tf.toInt * (((2 ^ k : Nat) : Int) * 16) := Int.mul_pos (by omega) (by omega)
  have m6 := own_mulb (a := kk.toInt) (b := (4 - bq.toInt) * ((2 ^ k : Nat) : Int) + bq.toInt * dl.toInt * 256) (A := 63) (B := 131072 + 2147483648) B_kk (hS.1 ▸ hS.2)
  have hDn : DL ≠ 0 := fun z => by rw [z] at hD; have : (0 : Int64).toInt = 0 := rfl; omega
  have qm := own_quoMag (N := NL) hDn
  have mg : Jvm.Free.Fl.Mag64 1100 dx6 := by rw [← dhv6, ← dhv5]; exact (Jvm.RoadKit.ddiv_mag (L := 1026) (Jvm.Free.Fl.i2d_mag ee) (by show _ ∧ _; decide) (by decide) (by decide)).mono (by decide)
  have qf := qm.fin (by decide)
  have hfin : Jvm.Free.Fl.Fin64 (FP.dadd (FP.ddiv (FP.l2d NL) (FP.l2d DL)) dx6) := (Jvm.Free.Fl.dadd_mag (K := 1100) (qm.mono (by decide)) mg (by decide)).fin (by decide)
  refine own_callV X12 hx hZ hown (own_hw hw 21 rfl) (own_hw hw 22 rfl) (notFace_of_selects (args := #[]) (mvT hZ (own_hw hw 24 rfl))) (own_hw hw 24 rfl) (own_hw hw 23 rfl) (own_hw hw 25 rfl) (own_hw hw 7 rfl) (by decide) (b := b11) (argsL := [(.double dx10), (.long tf), (.long dl), (.double dx8)]) (rest := []) (own_wt l Z a0 hw b11 dx2 dx4 dx6 dx10 dx8 _ _ _ _ k tf dl NL DL T12.heap n0 Fa12 Fb12 Fc12 dS2 dS4 dS6 dS10 dS8 hk B_kk B_bq B_tf B_dl hN hD hfin) rfl E_b11_12 (by rw [hml]; rfl) (lenOf own_pd94384 rfl) rfl (hb hby at_123) (W := 0) (Nat.le_of_eq rfl) (by decide) ?_
  intro v13 T13 L13 X13 q13
  obtain ⟨rfl, N13q, e13⟩ := q13
  have N13 := Fr.app N12 N13q
  show own_Go p e below _ T13 (mkF m 126 #[iv p1, iv p2, iv p3, iv p4, iv p5, iv kk, iv bq, iv sh, iv ee, .val (.double dx2), .second, .val (.double dx4), .second, .val (.double dx6), .second, .val (.double dx8), .second, .val (.double dx10), .second, .val (.long tf), .second, .val (.long dl), .second, rv b11, .unset, .unset, .unset, .unset, .unset, .unset, .unset, .unset, .unset, .unset, .unset, .unset, .unset, .unset] [(.double (FP.dmul (FP.dadd (FP.ddiv (FP.l2d NL) (FP.l2d DL)) dx6) dx10))])
  refine own_go (fun t k => XS.dstore X13.here hx rfl (hb hby at_126) rfl (l' := #[iv p1, iv p2, iv p3, iv p4, iv p5, iv kk, iv bq, iv sh, iv ee, .val (.double dx2), .second, .val (.double dx4), .second, .val (.double dx6), .second, .val (.double dx8), .second, .val (.double dx10), .second, .val (.long tf), .second, .val (.long dl), .second, rv b11, .val (.double (FP.dmul (FP.dadd (FP.ddiv (FP.l2d NL) (FP.l2d DL)) dx6) dx10)), .second, .unset, .unset, .unset, .unset, .unset, .unset, .unset, .unset, .unset, .unset, .unset, .unset]) rfl k) ?_
  show own_Go p e below _ T13 (mkF m 128 #[iv p1, iv p2, iv p3, iv p4, iv p5, iv kk, iv bq, iv sh, iv ee, .val (.double dx2), .second, .val (.double dx4), .second, .val (.double dx6), .second, .val (.double dx8), .second, .val (.double dx10), .second, .val (.long tf), .second, .val (.long dl), .second, rv b11, .val (.double (FP.dmul (FP.dadd (FP.ddiv (FP.l2d NL) (FP.l2d DL)) dx6) dx10)), .second, .unset, .unset, .unset, .unset, .unset, .unset, .unset, .unset, .unset, .unset, .unset, .unset] [])
  refine own_go (fun t k => X13.ldc2J hx hown (mvT hZ (own_hw hw 26 rfl)) rfl (hb hby at_128) k) ?_
  show own_Go p e below _ T13 (mkF m 131 #[iv p1, iv p2, iv p3, iv p4, iv p5, iv kk, iv bq, iv sh, iv ee, .val (.double dx2), .second, .val (.double dx4), .second, .val (.double dx6), .second, .val (.double dx8), .second, .val (.double dx10), .second, .val (.long tf), .second, .val (.long dl), .second, rv b11, .val (.double (FP.dmul (FP.dadd (FP.ddiv (FP.l2d NL) (FP.l2d DL)) dx6) dx10)), .second, .unset, .unset, .unset, .unset, .unset, .unset, .unset, .unset, .unset, .unset, .unset, .unset] [(.long (4 : Int64))])
  refine og_iload X13 hx (hb hby at_131) rfl ?_
  refine own_go (fun t k => XS.lshl X13.here hx rfl (hb hby at_133) rfl k) ?_
  show own_Go p e below _ T13 (mkF m 134 #[iv p1, iv p2, iv p3, iv p4, iv p5, iv kk, iv bq, iv sh, iv ee, .val (.double dx2), .second, .val (.double dx4), .second, .val (.double dx6), .second, .val (.double dx8), .second, .val (.double dx10), .second, .val (.long tf), .second, .val (.long dl), .second, rv b11, .val (.double (FP.dmul (FP.dadd (FP.ddiv (FP.l2d NL) (FP.l2d DL)) dx6) dx10)), .second, .unset, .unset, .unset, .unset, .unset, .unset, .unset, .unset, .unset, .unset, .unset, .unset] [(.long ((4 : Int64) <<< (sh &&& 0x3f).toInt64))])
  refine og_lstore X13 hx #[iv p1, iv p2, iv p3, iv p4, iv p5, iv kk, iv bq, iv sh, iv ee, .val (.double dx2), .second, .val (.double dx4), .second, .val (.double dx6), .second, .val (.double dx8), .second, .val (.double dx10), .second, .val (.long tf), .second, .val (.long dl), .second, rv b11, .val (.double (FP.dmul (FP.dadd (FP.ddiv (FP.l2d NL) (FP.l2d DL)) dx6) dx10)), .second, .val (.long ((4 : Int64) <<< (sh &&& 0x3f).toInt64)), .second, .unset, .unset, .unset, .unset, .unset, .unset, .unset, .unset, .unset, .unset] (hb hby at_134) rfl ?_
  refine og_iconst X13 hx (hb hby at_136) ?_
  refine og_iload X13 hx (hb hby at_137) rfl ?_
  refine og_isub X13 hx (hb hby at_139) ?_
  show own_Go p e below _ T13 (mkF m 140 #[iv p1, iv p2, iv p3, iv p4, iv p5, iv kk, iv bq, iv sh, iv ee, .val (.double dx2), .second, .val (.double dx4), .second, .val (.double dx6), .second, .val (.double dx8), .second, .val (.double dx10), .second, .val (.long tf), .second, .val (.long dl), .second, rv b11, .val (.double (FP.dmul (FP.dadd (FP.ddiv (FP.l2d NL) (FP.l2d DL)) dx6) dx10)), .second, .val (.long ((4 : Int64) <<< (sh &&& 0x3f).toInt64)), .second, .unset, .unset, .unset, .unset, .unset, .unset, .unset, .unset, .unset, .unset] [(.int (4 - bq))])
  refine own_go (fun t k => XS.i2l X13.here hx rfl (hb hby at_140) rfl k) ?_
  show own_Go p e below _ T13 (mkF m 141 #[iv p1, iv p2, iv p3, iv p4, iv p5, iv kk, iv bq, iv sh, iv ee, .val (.double dx2), .second, .val (.double dx4), .second, .val (.double dx6), .second, .val (.double dx8), .second, .val (.double dx10), .second, .val (.long tf), .second, .val (.long dl), .second, rv b11, .val (.double (FP.dmul (FP.dadd (FP.ddiv (FP.l2d NL) (FP.l2d DL)) dx6) dx10)), .second, .val (.long ((4 : Int64) <<< (sh &&& 0x3f).toInt64)), .second, .unset, .unset, .unset, .unset, .unset, .unset, .unset, .unset, .unset, .unset] [(.long ((4 - bq).toInt64))])
  refine og_lconst X13 hx (hb hby at_141) ?_
  refine og_iload X13 hx (hb hby at_142) rfl ?_
  refine own_go (fun t k => XS.lshl X13.here hx rfl (hb hby at_144) rfl k) ?_
  show own_Go p e below _ T13 (mkF m 145 #[iv p1, iv p2, iv p3, iv p4, iv p5, iv kk, iv bq, iv sh, iv ee, .val (.double dx2), .second, .val (.double dx4), .second, .val (.double dx6), .second, .val (.double dx8), .second, .val (.double dx10), .second, .val (.long tf), .second, .val (.long dl), .second, rv b11, .val (.double (FP.dmul (FP.dadd (FP.ddiv (FP.l2d NL) (FP.l2d DL)) dx6) dx10)), .second, .val (.long ((4 : Int64) <<< (sh &&& 0x3f).toInt64)), .second, .unset, .unset, .unset, .unset, .unset, .unset, .unset, .unset, .unset, .unset] [(.long ((1 : Int64) <<< (sh &&& 0x3f).toInt64)), (.long ((4 - bq).toInt64))])
  refine own_go (fun t k => XS.lmul X13.here hx rfl (hb hby at_145) rfl k) ?_
  show own_Go p e below _ T13 (mkF m 146 #[iv p1, iv p2, iv p3, iv p4, iv p5, iv kk, iv bq, iv sh, iv ee, .val (.double dx2), .second, .val (.double dx4), .second, .val (.double dx6), .second, .val (.double dx8), .second, .val (.double dx10), .second, .val (.long tf), .second, .val (.long dl), .second, rv b11, .val (.double (FP.dmul (FP.dadd (FP.ddiv (FP.l2d NL) (FP.l2d DL)) dx6) dx10)), .second, .val (.long ((4 : Int64) <<< (sh &&& 0x3f).toInt64)), .second, .unset, .unset, .unset, .unset, .unset, .unset, .unset, .unset, .unset, .unset] [(.long (((4 - bq).toInt64) * ((1 : Int64) <<< (sh &&& 0x3f).toInt64)))])
  refine og_iload X13 hx (hb hby at_146) rfl ?_
  refine own_go (fun t k => XS.i2l X13.here hx rfl (hb hby at_148) rfl k) ?_
  show own_Go p e below _ T13 (mkF m 149 #[iv p1, iv p2, iv p3, iv p4, iv p5, iv kk, iv bq, iv sh, iv ee, .val (.double dx2), .second, .val (.double dx4), .second, .val (.double dx6), .second, .val (.double dx8), .second, .val (.double dx10), .second, .val (.long tf), .second, .val (.long dl), .second, rv b11, .val (.double (FP.dmul (FP.dadd (FP.ddiv (FP.l2d NL) (FP.l2d DL)) dx6) dx10)), .second, .val (.long ((4 : Int64) <<< (sh &&& 0x3f).toInt64)), .second, .unset, .unset, .unset, .unset, .unset, .unset, .unset, .unset, .unset, .unset] [(.long (bq.toInt64)), (.long (((4 - bq).toInt64) * ((1 : Int64) <<< (sh &&& 0x3f).toInt64)))])
  refine og_lload X13 hx (hb hby at_149) rfl ?_
  refine own_go (fun t k => XS.lmul X13.here hx rfl (hb hby at_151) rfl k) ?_
  show own_Go p e below _ T13 (mkF m 152 #[iv p1, iv p2, iv p3, iv p4, iv p5, iv kk, iv bq, iv sh, iv ee, .val (.double dx2), .second, .val (.double dx4), .second, .val (.double dx6), .second, .val (.double dx8), .second, .val (.double dx10), .second, .val (.long tf), .second, .val (.long dl), .second, rv b11, .val (.double (FP.dmul (FP.dadd (FP.ddiv (FP.l2d NL) (FP.l2d DL)) dx6) dx10)), .second, .val (.long ((4 : Int64) <<< (sh &&& 0x3f).toInt64)), .second, .unset, .unset, .unset, .unset, .unset, .unset, .unset, .unset, .unset, .unset] [(.long ((bq.toInt64) * dl)), (.long (((4 - bq).toInt64) * ((1 : Int64) <<< (sh &&& 0x3f).toInt64)))])
  refine own_go (fun t k => X13.ldc2J hx hown (mvT hZ (own_hw hw 27 rfl)) rfl (hb hby at_152) k) ?_
  show own_Go p e below _ T13 (mkF m 155 #[iv p1, iv p2, iv p3, iv p4, iv p5, iv kk, iv bq, iv sh, iv ee, .val (.double dx2), .second, .val (.double dx4), .second, .val (.double dx6), .second, .val (.double dx8), .second, .val (.double dx10), .second, .val (.long tf), .second, .val (.long dl), .second, rv b11, .val (.double (FP.dmul (FP.dadd (FP.ddiv (FP.l2d NL) (FP.l2d DL)) dx6) dx10)), .second, .val (.long ((4 : Int64) <<< (sh &&& 0x3f).toInt64)), .second, .unset, .unset, .unset, .unset, .unset, .unset, .unset, .unset, .unset, .unset] [(.long (256 : Int64)), (.long ((bq.toInt64) * dl)), (.long (((4 - bq).toInt64) * ((1 : Int64) <<< (sh &&& 0x3f).toInt64)))])
  refine own_go (fun t k => XS.lmul X13.here hx rfl (hb hby at_155) rfl k) ?_
  show own_Go p e below _ T13 (mkF m 156 #[iv p1, iv p2, iv p3, iv p4, iv p5, iv kk, iv bq, iv sh, iv ee, .val (.double dx2), .second, .val (.double dx4), .second, .val (.double dx6), .second, .val (.double dx8), .second, .val (.double dx10), .second, .val (.long tf), .second, .val (.long dl), .second, rv b11, .val (.double (FP.dmul (FP.dadd (FP.ddiv (FP.l2d NL) (FP.l2d DL)) dx6) dx10)), .second, .val (.long ((4 : Int64) <<< (sh &&& 0x3f).toInt64)), .second, .unset, .unset, .unset, .unset, .unset, .unset, .unset, .unset, .unset, .unset] [(.long (((bq.toInt64) * dl) * (256 : Int64))), (.long (((4 - bq).toInt64) * ((1 : Int64) <<< (sh &&& 0x3f).toInt64)))])
  refine own_go (fun t k => XS.ladd X13.here hx rfl (hb hby at_156) rfl k) ?_
  show own_Go p e below _ T13 (mkF m 157 #[iv p1, iv p2, iv p3, iv p4, iv p5, iv kk, iv bq, iv sh, iv ee, .val (.double dx2), .second, .val (.double dx4), .second, .val (.double dx6), .second, .val (.double dx8), .second, .val (.double dx10), .second, .val (.long tf), .second, .val (.long dl), .second, rv b11, .val (.double (FP.dmul (FP.dadd (FP.ddiv (FP.l2d NL) (FP.l2d DL)) dx6) dx10)), .second, .val (.long ((4 : Int64) <<< (sh &&& 0x3f).toInt64)), .second, .unset, .unset, .unset, .unset, .unset, .unset, .unset, .unset, .unset, .unset] [(.long ((((4 - bq).toInt64) * ((1 : Int64) <<< (sh &&& 0x3f).toInt64)) + (((bq.toInt64) * dl) * (256 : Int64))))])
  refine og_lstore X13 hx #[iv p1, iv p2, iv p3, iv p4, iv p5, iv kk, iv bq, iv sh, iv ee, .val (.double dx2), .second, .val (.double dx4), .second, .val (.double dx6), .second, .val (.double dx8), .second, .val (.double dx10), .second, .val (.long tf), .second, .val (.long dl), .second, rv b11, .val (.double (FP.dmul (FP.dadd (FP.ddiv (FP.l2d NL) (FP.l2d DL)) dx6) dx10)), .second, .val (.long ((4 : Int64) <<< (sh &&& 0x3f).toInt64)), .second, .val (.long ((((4 - bq).toInt64) * ((1 : Int64) <<< (sh &&& 0x3f).toInt64)) + (((bq.toInt64) * dl) * (256 : Int64)))), .second, .unset, .unset, .unset, .unset, .unset, .unset, .unset, .unset] (hb hby at_157) rfl ?_
  refine og_iload X13 hx (hb hby at_159) rfl ?_
  refine og_iconst X13 hx (hb hby at_161) ?_
  refine og_iadd X13 hx (hb hby at_162) ?_
  show own_Go p e below _ T13 (mkF m 163 #[iv p1, iv p2, iv p3, iv p4, iv p5, iv kk, iv bq, iv sh, iv ee, .val (.double dx2), .second, .val (.double dx4), .second, .val (.double dx6), .second, .val (.double dx8), .second, .val (.double dx10), .second, .val (.long tf), .second, .val (.long dl), .second, rv b11, .val (.double (FP.dmul (FP.dadd (FP.ddiv (FP.l2d NL) (FP.l2d DL)) dx6) dx10)), .second, .val (.long ((4 : Int64) <<< (sh &&& 0x3f).toInt64)), .second, .val (.long ((((4 - bq).toInt64) * ((1 : Int64) <<< (sh &&& 0x3f).toInt64)) + (((bq.toInt64) * dl) * (256 : Int64)))), .second, .unset, .unset, .unset, .unset, .unset, .unset, .unset, .unset] [(.int (kk + 4))])
  refine own_go (fun t k => XS.i2l X13.here hx rfl (hb hby at_163) rfl k) ?_
  show own_Go p e below _ T13 (mkF m 164 #[iv p1, iv p2, iv p3, iv p4, iv p5, iv kk, iv bq, iv sh, iv ee, .val (.double dx2), .second, .val (.double dx4), .second, .val (.double dx6), .second, .val (.double dx8), .second, .val (.double dx10), .second, .val (.long tf), .second, .val (.long dl), .second, rv b11, .val (.double (FP.dmul (FP.dadd (FP.ddiv (FP.l2d NL) (FP.l2d DL)) dx6) dx10)), .second, .val (.long ((4 : Int64) <<< (sh &&& 0x3f).toInt64)), .second, .val (.long ((((4 - bq).toInt64) * ((1 : Int64) <<< (sh &&& 0x3f).toInt64)) + (((bq.toInt64) * dl) * (256 : Int64)))), .second, .unset, .unset, .unset, .unset, .unset, .unset, .unset, .unset] [(.long ((kk + 4).toInt64))])
  refine og_lload X13 hx (hb hby at_164) rfl ?_
  refine own_go (fun t k => XS.lmul X13.here hx rfl (hb hby at_166) rfl k) ?_
  show own_Go p e below _ T13 (mkF m 167 #[iv p1, iv p2, iv p3, iv p4, iv p5, iv kk, iv bq, iv sh, iv ee, .val (.double dx2), .second, .val (.double dx4), .second, .val (.double dx6), .second, .val (.double dx8), .second, .val (.double dx10), .second, .val (.long tf), .second, .val (.long dl), .second, rv b11, .val (.double (FP.dmul (FP.dadd (FP.ddiv (FP.l2d NL) (FP.l2d DL)) dx6) dx10)), .second, .val (.long ((4 : Int64) <<< (sh &&& 0x3f).toInt64)), .second, .val (.long ((((4 - bq).toInt64) * ((1 : Int64) <<< (sh &&& 0x3f).toInt64)) + (((bq.toInt64) * dl) * (256 : Int64)))), .second, .unset, .unset, .unset, .unset, .unset, .unset, .unset, .unset] [(.long (((kk + 4).toInt64) * tf))])
  refine og_lload X13 hx (hb hby at_167) rfl ?_
  refine own_go (fun t k => XS.lmul X13.here hx rfl (hb hby at_169) rfl k) ?_
  show own_Go p e below _ T13 (mkF m 170 #[iv p1, iv p2, iv p3, iv p4, iv p5, iv kk, iv bq, iv sh, iv ee, .val (.double dx2), .second, .val (.double dx4), .second, .val (.double dx6), .second, .val (.double dx8), .second, .val (.double dx10), .second, .val (.long tf), .second, .val (.long dl), .second, rv b11, .val (.double (FP.dmul (FP.dadd (FP.ddiv (FP.l2d NL) (FP.l2d DL)) dx6) dx10)), .second, .val (.long ((4 : Int64) <<< (sh &&& 0x3f).toInt64)), .second, .val (.long ((((4 - bq).toInt64) * ((1 : Int64) <<< (sh &&& 0x3f).toInt64)) + (((bq.toInt64) * dl) * (256 : Int64)))), .second, .unset, .unset, .unset, .unset, .unset, .unset, .unset, .unset] [(.long ((((kk + 4).toInt64) * tf) * ((4 : Int64) <<< (sh &&& 0x3f).toInt64)))])
  rw [eNL]
  show own_Go p e below _ T13 (mkF m 170 #[iv p1, iv p2, iv p3, iv p4, iv p5, iv kk, iv bq, iv sh, iv ee, .val (.double dx2), .second, .val (.double dx4), .second, .val (.double dx6), .second, .val (.double dx8), .second, .val (.double dx10), .second, .val (.long tf), .second, .val (.long dl), .second, rv b11, .val (.double (FP.dmul (FP.dadd (FP.ddiv (FP.l2d NL) (FP.l2d DL)) dx6) dx10)), .second, .val (.long ((4 : Int64) <<< (sh &&& 0x3f).toInt64)), .second, .val (.long ((((4 - bq).toInt64) * ((1 : Int64) <<< (sh &&& 0x3f).toInt64)) + (((bq.toInt64) * dl) * (256 : Int64)))), .second, .unset, .unset, .unset, .unset, .unset, .unset, .unset, .unset] [(.long NL)])
  refine og_lstore X13 hx #[iv p1, iv p2, iv p3, iv p4, iv p5, iv kk, iv bq, iv sh, iv ee, .val (.double dx2), .second, .val (.double dx4), .second, .val (.double dx6), .second, .val (.double dx8), .second, .val (.double dx10), .second, .val (.long tf), .second, .val (.long dl), .second, rv b11, .val (.double (FP.dmul (FP.dadd (FP.ddiv (FP.l2d NL) (FP.l2d DL)) dx6) dx10)), .second, .val (.long ((4 : Int64) <<< (sh &&& 0x3f).toInt64)), .second, .val (.long ((((4 - bq).toInt64) * ((1 : Int64) <<< (sh &&& 0x3f).toInt64)) + (((bq.toInt64) * dl) * (256 : Int64)))), .second, .val (.long NL), .second, .unset, .unset, .unset, .unset, .unset, .unset] (hb hby at_170) rfl ?_
  refine og_iload X13 hx (hb hby at_172) rfl ?_
  refine own_go (fun t k => XS.i2l X13.here hx rfl (hb hby at_174) rfl k) ?_
  show own_Go p e below _ T13 (mkF m 175 #[iv p1, iv p2, iv p3, iv p4, iv p5, iv kk, iv bq, iv sh, iv ee, .val (.double dx2), .second, .val (.double dx4), .second, .val (.double dx6), .second, .val (.double dx8), .second, .val (.double dx10), .second, .val (.long tf), .second, .val (.long dl), .second, rv b11, .val (.double (FP.dmul (FP.dadd (FP.ddiv (FP.l2d NL) (FP.l2d DL)) dx6) dx10)), .second, .val (.long ((4 : Int64) <<< (sh &&& 0x3f).toInt64)), .second, .val (.long ((((4 - bq).toInt64) * ((1 : Int64) <<< (sh &&& 0x3f).toInt64)) + (((bq.toInt64) * dl) * (256 : Int64)))), .second, .val (.long NL), .second, .unset, .unset, .unset, .unset, .unset, .unset] [(.long (kk.toInt64))])
  refine og_lload X13 hx (hb hby at_175) rfl ?_
  refine own_go (fun t k => XS.lmul X13.here hx rfl (hb hby at_177) rfl k) ?_
  show own_Go p e below _ T13 (mkF m 178 #[iv p1, iv p2, iv p3, iv p4, iv p5, iv kk, iv bq, iv sh, iv ee, .val (.double dx2), .second, .val (.double dx4), .second, .val (.double dx6), .second, .val (.double dx8), .second, .val (.double dx10), .second, .val (.long tf), .second, .val (.long dl), .second, rv b11, .val (.double (FP.dmul (FP.dadd (FP.ddiv (FP.l2d NL) (FP.l2d DL)) dx6) dx10)), .second, .val (.long ((4 : Int64) <<< (sh &&& 0x3f).toInt64)), .second, .val (.long ((((4 - bq).toInt64) * ((1 : Int64) <<< (sh &&& 0x3f).toInt64)) + (((bq.toInt64) * dl) * (256 : Int64)))), .second, .val (.long NL), .second, .unset, .unset, .unset, .unset, .unset, .unset] [(.long ((kk.toInt64) * ((((4 - bq).toInt64) * ((1 : Int64) <<< (sh &&& 0x3f).toInt64)) + (((bq.toInt64) * dl) * (256 : Int64)))))])
  refine own_go (fun t k => X13.ldc2J hx hown (mvT hZ (own_hw hw 26 rfl)) rfl (hb hby at_178) k) ?_
  show own_Go p e below _ T13 (mkF m 181 #[iv p1, iv p2, iv p3, iv p4, iv p5, iv kk, iv bq, iv sh, iv ee, .val (.double dx2), .second, .val (.double dx4), .second, .val (.double dx6), .second, .val (.double dx8), .second, .val (.double dx10), .second, .val (.long tf), .second, .val (.long dl), .second, rv b11, .val (.double (FP.dmul (FP.dadd (FP.ddiv (FP.l2d NL) (FP.l2d DL)) dx6) dx10)), .second, .val (.long ((4 : Int64) <<< (sh &&& 0x3f).toInt64)), .second, .val (.long ((((4 - bq).toInt64) * ((1 : Int64) <<< (sh &&& 0x3f).toInt64)) + (((bq.toInt64) * dl) * (256 : Int64)))), .second, .val (.long NL), .second, .unset, .unset, .unset, .unset, .unset, .unset] [(.long (4 : Int64)), (.long ((kk.toInt64) * ((((4 - bq).toInt64) * ((1 : Int64) <<< (sh &&& 0x3f).toInt64)) + (((bq.toInt64) * dl) * (256 : Int64)))))])
  refine og_lload X13 hx (hb hby at_181) rfl ?_
  refine own_go (fun t k => XS.lmul X13.here hx rfl (hb hby at_183) rfl k) ?_
  show own_Go p e below _ T13 (mkF m 184 #[iv p1, iv p2, iv p3, iv p4, iv p5, iv kk, iv bq, iv sh, iv ee, .val (.double dx2), .second, .val (.double dx4), .second, .val (.double dx6), .second, .val (.double dx8), .second, .val (.double dx10), .second, .val (.long tf), .second, .val (.long dl), .second, rv b11, .val (.double (FP.dmul (FP.dadd (FP.ddiv (FP.l2d NL) (FP.l2d DL)) dx6) dx10)), .second, .val (.long ((4 : Int64) <<< (sh &&& 0x3f).toInt64)), .second, .val (.long ((((4 - bq).toInt64) * ((1 : Int64) <<< (sh &&& 0x3f).toInt64)) + (((bq.toInt64) * dl) * (256 : Int64)))), .second, .val (.long NL), .second, .unset, .unset, .unset, .unset, .unset, .unset] [(.long ((4 : Int64) * tf)), (.long ((kk.toInt64) * ((((4 - bq).toInt64) * ((1 : Int64) <<< (sh &&& 0x3f).toInt64)) + (((bq.toInt64) * dl) * (256 : Int64)))))])
  refine og_lload X13 hx (hb hby at_184) rfl ?_
  refine own_go (fun t k => XS.lmul X13.here hx rfl (hb hby at_186) rfl k) ?_
  show own_Go p e below _ T13 (mkF m 187 #[iv p1, iv p2, iv p3, iv p4, iv p5, iv kk, iv bq, iv sh, iv ee, .val (.double dx2), .second, .val (.double dx4), .second, .val (.double dx6), .second, .val (.double dx8), .second, .val (.double dx10), .second, .val (.long tf), .second, .val (.long dl), .second, rv b11, .val (.double (FP.dmul (FP.dadd (FP.ddiv (FP.l2d NL) (FP.l2d DL)) dx6) dx10)), .second, .val (.long ((4 : Int64) <<< (sh &&& 0x3f).toInt64)), .second, .val (.long ((((4 - bq).toInt64) * ((1 : Int64) <<< (sh &&& 0x3f).toInt64)) + (((bq.toInt64) * dl) * (256 : Int64)))), .second, .val (.long NL), .second, .unset, .unset, .unset, .unset, .unset, .unset] [(.long (((4 : Int64) * tf) * ((4 : Int64) <<< (sh &&& 0x3f).toInt64))), (.long ((kk.toInt64) * ((((4 - bq).toInt64) * ((1 : Int64) <<< (sh &&& 0x3f).toInt64)) + (((bq.toInt64) * dl) * (256 : Int64)))))])
  refine own_go (fun t k => XS.ladd X13.here hx rfl (hb hby at_187) rfl k) ?_
  show own_Go p e below _ T13 (mkF m 188 #[iv p1, iv p2, iv p3, iv p4, iv p5, iv kk, iv bq, iv sh, iv ee, .val (.double dx2), .second, .val (.double dx4), .second, .val (.double dx6), .second, .val (.double dx8), .second, .val (.double dx10), .second, .val (.long tf), .second, .val (.long dl), .second, rv b11, .val (.double (FP.dmul (FP.dadd (FP.ddiv (FP.l2d NL) (FP.l2d DL)) dx6) dx10)), .second, .val (.long ((4 : Int64) <<< (sh &&& 0x3f).toInt64)), .second, .val (.long ((((4 - bq).toInt64) * ((1 : Int64) <<< (sh &&& 0x3f).toInt64)) + (((bq.toInt64) * dl) * (256 : Int64)))), .second, .val (.long NL), .second, .unset, .unset, .unset, .unset, .unset, .unset] [(.long (((kk.toInt64) * ((((4 - bq).toInt64) * ((1 : Int64) <<< (sh &&& 0x3f).toInt64)) + (((bq.toInt64) * dl) * (256 : Int64)))) + (((4 : Int64) * tf) * ((4 : Int64) <<< (sh &&& 0x3f).toInt64))))])
  rw [eDL]
  show own_Go p e below _ T13 (mkF m 188 #[iv p1, iv p2, iv p3, iv p4, iv p5, iv kk, iv bq, iv sh, iv ee, .val (.double dx2), .second, .val (.double dx4), .second, .val (.double dx6), .second, .val (.double dx8), .second, .val (.double dx10), .second, .val (.long tf), .second, .val (.long dl), .second, rv b11, .val (.double (FP.dmul (FP.dadd (FP.ddiv (FP.l2d NL) (FP.l2d DL)) dx6) dx10)), .second, .val (.long ((4 : Int64) <<< (sh &&& 0x3f).toInt64)), .second, .val (.long ((((4 - bq).toInt64) * ((1 : Int64) <<< (sh &&& 0x3f).toInt64)) + (((bq.toInt64) * dl) * (256 : Int64)))), .second, .val (.long NL), .second, .unset, .unset, .unset, .unset, .unset, .unset] [(.long DL)])
  refine og_lstore X13 hx #[iv p1, iv p2, iv p3, iv p4, iv p5, iv kk, iv bq, iv sh, iv ee, .val (.double dx2), .second, .val (.double dx4), .second, .val (.double dx6), .second, .val (.double dx8), .second, .val (.double dx10), .second, .val (.long tf), .second, .val (.long dl), .second, rv b11, .val (.double (FP.dmul (FP.dadd (FP.ddiv (FP.l2d NL) (FP.l2d DL)) dx6) dx10)), .second, .val (.long ((4 : Int64) <<< (sh &&& 0x3f).toInt64)), .second, .val (.long ((((4 - bq).toInt64) * ((1 : Int64) <<< (sh &&& 0x3f).toInt64)) + (((bq.toInt64) * dl) * (256 : Int64)))), .second, .val (.long NL), .second, .val (.long DL), .second, .unset, .unset, .unset, .unset] (hb hby at_188) rfl ?_
  refine og_lload X13 hx (hb hby at_190) rfl ?_
  refine own_go (fun t k => XS.l2dS X13.here hx rfl (hb hby at_192) rfl rfl k) ?_
  show own_Go p e below _ T13 (mkF m 193 #[iv p1, iv p2, iv p3, iv p4, iv p5, iv kk, iv bq, iv sh, iv ee, .val (.double dx2), .second, .val (.double dx4), .second, .val (.double dx6), .second, .val (.double dx8), .second, .val (.double dx10), .second, .val (.long tf), .second, .val (.long dl), .second, rv b11, .val (.double (FP.dmul (FP.dadd (FP.ddiv (FP.l2d NL) (FP.l2d DL)) dx6) dx10)), .second, .val (.long ((4 : Int64) <<< (sh &&& 0x3f).toInt64)), .second, .val (.long ((((4 - bq).toInt64) * ((1 : Int64) <<< (sh &&& 0x3f).toInt64)) + (((bq.toInt64) * dl) * (256 : Int64)))), .second, .val (.long NL), .second, .val (.long DL), .second, .unset, .unset, .unset, .unset] [(.double (FP.l2d NL))])
  refine og_lload X13 hx (hb hby at_193) rfl ?_
  refine own_go (fun t k => XS.l2dS X13.here hx rfl (hb hby at_195) rfl rfl k) ?_
  show own_Go p e below _ T13 (mkF m 196 #[iv p1, iv p2, iv p3, iv p4, iv p5, iv kk, iv bq, iv sh, iv ee, .val (.double dx2), .second, .val (.double dx4), .second, .val (.double dx6), .second, .val (.double dx8), .second, .val (.double dx10), .second, .val (.long tf), .second, .val (.long dl), .second, rv b11, .val (.double (FP.dmul (FP.dadd (FP.ddiv (FP.l2d NL) (FP.l2d DL)) dx6) dx10)), .second, .val (.long ((4 : Int64) <<< (sh &&& 0x3f).toInt64)), .second, .val (.long ((((4 - bq).toInt64) * ((1 : Int64) <<< (sh &&& 0x3f).toInt64)) + (((bq.toInt64) * dl) * (256 : Int64)))), .second, .val (.long NL), .second, .val (.long DL), .second, .unset, .unset, .unset, .unset] [(.double (FP.l2d DL)), (.double (FP.l2d NL))])
  refine own_go (fun t k => XS.ddivS X13.here hx rfl (hb hby at_196) rfl qf.noNaN rfl k) ?_
  show own_Go p e below _ T13 (mkF m 197 #[iv p1, iv p2, iv p3, iv p4, iv p5, iv kk, iv bq, iv sh, iv ee, .val (.double dx2), .second, .val (.double dx4), .second, .val (.double dx6), .second, .val (.double dx8), .second, .val (.double dx10), .second, .val (.long tf), .second, .val (.long dl), .second, rv b11, .val (.double (FP.dmul (FP.dadd (FP.ddiv (FP.l2d NL) (FP.l2d DL)) dx6) dx10)), .second, .val (.long ((4 : Int64) <<< (sh &&& 0x3f).toInt64)), .second, .val (.long ((((4 - bq).toInt64) * ((1 : Int64) <<< (sh &&& 0x3f).toInt64)) + (((bq.toInt64) * dl) * (256 : Int64)))), .second, .val (.long NL), .second, .val (.long DL), .second, .unset, .unset, .unset, .unset] [(.double (FP.ddiv (FP.l2d NL) (FP.l2d DL)))])
  refine own_go (fun t k => XS.dstore X13.here hx rfl (hb hby at_197) rfl (l' := #[iv p1, iv p2, iv p3, iv p4, iv p5, iv kk, iv bq, iv sh, iv ee, .val (.double dx2), .second, .val (.double dx4), .second, .val (.double dx6), .second, .val (.double dx8), .second, .val (.double dx10), .second, .val (.long tf), .second, .val (.long dl), .second, rv b11, .val (.double (FP.dmul (FP.dadd (FP.ddiv (FP.l2d NL) (FP.l2d DL)) dx6) dx10)), .second, .val (.long ((4 : Int64) <<< (sh &&& 0x3f).toInt64)), .second, .val (.long ((((4 - bq).toInt64) * ((1 : Int64) <<< (sh &&& 0x3f).toInt64)) + (((bq.toInt64) * dl) * (256 : Int64)))), .second, .val (.long NL), .second, .val (.long DL), .second, .val (.double (FP.ddiv (FP.l2d NL) (FP.l2d DL))), .second, .unset, .unset]) rfl k) ?_
  show own_Go p e below _ T13 (mkF m 199 #[iv p1, iv p2, iv p3, iv p4, iv p5, iv kk, iv bq, iv sh, iv ee, .val (.double dx2), .second, .val (.double dx4), .second, .val (.double dx6), .second, .val (.double dx8), .second, .val (.double dx10), .second, .val (.long tf), .second, .val (.long dl), .second, rv b11, .val (.double (FP.dmul (FP.dadd (FP.ddiv (FP.l2d NL) (FP.l2d DL)) dx6) dx10)), .second, .val (.long ((4 : Int64) <<< (sh &&& 0x3f).toInt64)), .second, .val (.long ((((4 - bq).toInt64) * ((1 : Int64) <<< (sh &&& 0x3f).toInt64)) + (((bq.toInt64) * dl) * (256 : Int64)))), .second, .val (.long NL), .second, .val (.long DL), .second, .val (.double (FP.ddiv (FP.l2d NL) (FP.l2d DL))), .second, .unset, .unset] [])
  refine own_go (fun t k => XS.dload X13.here hx rfl (hb hby at_199) rfl k) ?_
  show own_Go p e below _ T13 (mkF m 201 #[iv p1, iv p2, iv p3, iv p4, iv p5, iv kk, iv bq, iv sh, iv ee, .val (.double dx2), .second, .val (.double dx4), .second, .val (.double dx6), .second, .val (.double dx8), .second, .val (.double dx10), .second, .val (.long tf), .second, .val (.long dl), .second, rv b11, .val (.double (FP.dmul (FP.dadd (FP.ddiv (FP.l2d NL) (FP.l2d DL)) dx6) dx10)), .second, .val (.long ((4 : Int64) <<< (sh &&& 0x3f).toInt64)), .second, .val (.long ((((4 - bq).toInt64) * ((1 : Int64) <<< (sh &&& 0x3f).toInt64)) + (((bq.toInt64) * dl) * (256 : Int64)))), .second, .val (.long NL), .second, .val (.long DL), .second, .val (.double (FP.ddiv (FP.l2d NL) (FP.l2d DL))), .second, .unset, .unset] [(.double (FP.ddiv (FP.l2d NL) (FP.l2d DL)))])
  refine own_go (fun t k => XS.dload X13.here hx rfl (hb hby at_201) rfl k) ?_
  show own_Go p e below _ T13 (mkF m 203 #[iv p1, iv p2, iv p3, iv p4, iv p5, iv kk, iv bq, iv sh, iv ee, .val (.double dx2), .second, .val (.double dx4), .second, .val (.double dx6), .second, .val (.double dx8), .second, .val (.double dx10), .second, .val (.long tf), .second, .val (.long dl), .second, rv b11, .val (.double (FP.dmul (FP.dadd (FP.ddiv (FP.l2d NL) (FP.l2d DL)) dx6) dx10)), .second, .val (.long ((4 : Int64) <<< (sh &&& 0x3f).toInt64)), .second, .val (.long ((((4 - bq).toInt64) * ((1 : Int64) <<< (sh &&& 0x3f).toInt64)) + (((bq.toInt64) * dl) * (256 : Int64)))), .second, .val (.long NL), .second, .val (.long DL), .second, .val (.double (FP.ddiv (FP.l2d NL) (FP.l2d DL))), .second, .unset, .unset] [(.double dx6), (.double (FP.ddiv (FP.l2d NL) (FP.l2d DL)))])
  refine own_go (fun t k => XS.daddS X13.here hx rfl (hb hby at_203) rfl (Jvm.Free.Fl.dadd_out qf.noNaN (own_scfin dS6)) rfl k) ?_
  show own_Go p e below _ T13 (mkF m 204 #[iv p1, iv p2, iv p3, iv p4, iv p5, iv kk, iv bq, iv sh, iv ee, .val (.double dx2), .second, .val (.double dx4), .second, .val (.double dx6), .second, .val (.double dx8), .second, .val (.double dx10), .second, .val (.long tf), .second, .val (.long dl), .second, rv b11, .val (.double (FP.dmul (FP.dadd (FP.ddiv (FP.l2d NL) (FP.l2d DL)) dx6) dx10)), .second, .val (.long ((4 : Int64) <<< (sh &&& 0x3f).toInt64)), .second, .val (.long ((((4 - bq).toInt64) * ((1 : Int64) <<< (sh &&& 0x3f).toInt64)) + (((bq.toInt64) * dl) * (256 : Int64)))), .second, .val (.long NL), .second, .val (.long DL), .second, .val (.double (FP.ddiv (FP.l2d NL) (FP.l2d DL))), .second, .unset, .unset] [(.double (FP.dadd (FP.ddiv (FP.l2d NL) (FP.l2d DL)) dx6))])
  refine own_go (fun t k => XS.dload X13.here hx rfl (hb hby at_204) rfl k) ?_
  show own_Go p e below _ T13 (mkF m 206 #[iv p1, iv p2, iv p3, iv p4, iv p5, iv kk, iv bq, iv sh, iv ee, .val (.double dx2), .second, .val (.double dx4), .second, .val (.double dx6), .second, .val (.double dx8), .second, .val (.double dx10), .second, .val (.long tf), .second, .val (.long dl), .second, rv b11, .val (.double (FP.dmul (FP.dadd (FP.ddiv (FP.l2d NL) (FP.l2d DL)) dx6) dx10)), .second, .val (.long ((4 : Int64) <<< (sh &&& 0x3f).toInt64)), .second, .val (.long ((((4 - bq).toInt64) * ((1 : Int64) <<< (sh &&& 0x3f).toInt64)) + (((bq.toInt64) * dl) * (256 : Int64)))), .second, .val (.long NL), .second, .val (.long DL), .second, .val (.double (FP.ddiv (FP.l2d NL) (FP.l2d DL))), .second, .unset, .unset] [(.double dx10), (.double (FP.dadd (FP.ddiv (FP.l2d NL) (FP.l2d DL)) dx6))])
  refine own_go (fun t k => XS.dmulS X13.here hx rfl (hb hby at_206) rfl (Jvm.Free.Fl.dmul_out hfin (own_scfin dS10)) rfl k) ?_
  show own_Go p e below _ T13 (mkF m 207 #[iv p1, iv p2, iv p3, iv p4, iv p5, iv kk, iv bq, iv sh, iv ee, .val (.double dx2), .second, .val (.double dx4), .second, .val (.double dx6), .second, .val (.double dx8), .second, .val (.double dx10), .second, .val (.long tf), .second, .val (.long dl), .second, rv b11, .val (.double (FP.dmul (FP.dadd (FP.ddiv (FP.l2d NL) (FP.l2d DL)) dx6) dx10)), .second, .val (.long ((4 : Int64) <<< (sh &&& 0x3f).toInt64)), .second, .val (.long ((((4 - bq).toInt64) * ((1 : Int64) <<< (sh &&& 0x3f).toInt64)) + (((bq.toInt64) * dl) * (256 : Int64)))), .second, .val (.long NL), .second, .val (.long DL), .second, .val (.double (FP.ddiv (FP.l2d NL) (FP.l2d DL))), .second, .unset, .unset] [(.double (FP.dmul (FP.dadd (FP.ddiv (FP.l2d NL) (FP.l2d DL)) dx6) dx10))])
  refine own_go (fun t k => XS.dstore X13.here hx rfl (hb hby at_207) rfl (l' := #[iv p1, iv p2, iv p3, iv p4, iv p5, iv kk, iv bq, iv sh, iv ee, .val (.double dx2), .second, .val (.double dx4), .second, .val (.double dx6), .second, .val (.double dx8), .second, .val (.double dx10), .second, .val (.long tf), .second, .val (.long dl), .second, rv b11, .val (.double (FP.dmul (FP.dadd (FP.ddiv (FP.l2d NL) (FP.l2d DL)) dx6) dx10)), .second, .val (.long ((4 : Int64) <<< (sh &&& 0x3f).toInt64)), .second, .val (.long ((((4 - bq).toInt64) * ((1 : Int64) <<< (sh &&& 0x3f).toInt64)) + (((bq.toInt64) * dl) * (256 : Int64)))), .second, .val (.long NL), .second, .val (.long DL), .second, .val (.double (FP.ddiv (FP.l2d NL) (FP.l2d DL))), .second, .val (.double (FP.dmul (FP.dadd (FP.ddiv (FP.l2d NL) (FP.l2d DL)) dx6) dx10)), .second]) rfl k) ?_
  show own_Go p e below _ T13 (mkF m 209 #[iv p1, iv p2, iv p3, iv p4, iv p5, iv kk, iv bq, iv sh, iv ee, .val (.double dx2), .second, .val (.double dx4), .second, .val (.double dx6), .second, .val (.double dx8), .second, .val (.double dx10), .second, .val (.long tf), .second, .val (.long dl), .second, rv b11, .val (.double (FP.dmul (FP.dadd (FP.ddiv (FP.l2d NL) (FP.l2d DL)) dx6) dx10)), .second, .val (.long ((4 : Int64) <<< (sh &&& 0x3f).toInt64)), .second, .val (.long ((((4 - bq).toInt64) * ((1 : Int64) <<< (sh &&& 0x3f).toInt64)) + (((bq.toInt64) * dl) * (256 : Int64)))), .second, .val (.long NL), .second, .val (.long DL), .second, .val (.double (FP.ddiv (FP.l2d NL) (FP.l2d DL))), .second, .val (.double (FP.dmul (FP.dadd (FP.ddiv (FP.l2d NL) (FP.l2d DL)) dx6) dx10)), .second] [])
  refine own_go (fun t k => XS.dload X13.here hx rfl (hb hby at_209) rfl k) ?_
  show own_Go p e below _ T13 (mkF m 211 #[iv p1, iv p2, iv p3, iv p4, iv p5, iv kk, iv bq, iv sh, iv ee, .val (.double dx2), .second, .val (.double dx4), .second, .val (.double dx6), .second, .val (.double dx8), .second, .val (.double dx10), .second, .val (.long tf), .second, .val (.long dl), .second, rv b11, .val (.double (FP.dmul (FP.dadd (FP.ddiv (FP.l2d NL) (FP.l2d DL)) dx6) dx10)), .second, .val (.long ((4 : Int64) <<< (sh &&& 0x3f).toInt64)), .second, .val (.long ((((4 - bq).toInt64) * ((1 : Int64) <<< (sh &&& 0x3f).toInt64)) + (((bq.toInt64) * dl) * (256 : Int64)))), .second, .val (.long NL), .second, .val (.long DL), .second, .val (.double (FP.ddiv (FP.l2d NL) (FP.l2d DL))), .second, .val (.double (FP.dmul (FP.dadd (FP.ddiv (FP.l2d NL) (FP.l2d DL)) dx6) dx10)), .second] [(.double (FP.dmul (FP.dadd (FP.ddiv (FP.l2d NL) (FP.l2d DL)) dx6) dx10))])
  refine own_go (fun t k => XS.dload X13.here hx rfl (hb hby at_211) rfl k) ?_
  show own_Go p e below _ T13 (mkF m 213 #[iv p1, iv p2, iv p3, iv p4, iv p5, iv kk, iv bq, iv sh, iv ee, .val (.double dx2), .second, .val (.double dx4), .second, .val (.double dx6), .second, .val (.double dx8), .second, .val (.double dx10), .second, .val (.long tf), .second, .val (.long dl), .second, rv b11, .val (.double (FP.dmul (FP.dadd (FP.ddiv (FP.l2d NL) (FP.l2d DL)) dx6) dx10)), .second, .val (.long ((4 : Int64) <<< (sh &&& 0x3f).toInt64)), .second, .val (.long ((((4 - bq).toInt64) * ((1 : Int64) <<< (sh &&& 0x3f).toInt64)) + (((bq.toInt64) * dl) * (256 : Int64)))), .second, .val (.long NL), .second, .val (.long DL), .second, .val (.double (FP.ddiv (FP.l2d NL) (FP.l2d DL))), .second, .val (.double (FP.dmul (FP.dadd (FP.ddiv (FP.l2d NL) (FP.l2d DL)) dx6) dx10)), .second] [(.double (FP.dmul (FP.dadd (FP.ddiv (FP.l2d NL) (FP.l2d DL)) dx6) dx10)), (.double (FP.dmul (FP.dadd (FP.ddiv (FP.l2d NL) (FP.l2d DL)) dx6) dx10))])
  refine own_go (fun t k => XS.dcmpS X13.here hx rfl (hb hby at_213) rfl rfl k) ?_
  show own_Go p e below _ T13 (mkF m 214 #[iv p1, iv p2, iv p3, iv p4, iv p5, iv kk, iv bq, iv sh, iv ee, .val (.double dx2), .second, .val (.double dx4), .second, .val (.double dx6), .second, .val (.double dx8), .second, .val (.double dx10), .second, .val (.long tf), .second, .val (.long dl), .second, rv b11, .val (.double (FP.dmul (FP.dadd (FP.ddiv (FP.l2d NL) (FP.l2d DL)) dx6) dx10)), .second, .val (.long ((4 : Int64) <<< (sh &&& 0x3f).toInt64)), .second, .val (.long ((((4 - bq).toInt64) * ((1 : Int64) <<< (sh &&& 0x3f).toInt64)) + (((bq.toInt64) * dl) * (256 : Int64)))), .second, .val (.long NL), .second, .val (.long DL), .second, .val (.double (FP.ddiv (FP.l2d NL) (FP.l2d DL))), .second, .val (.double (FP.dmul (FP.dadd (FP.ddiv (FP.l2d NL) (FP.l2d DL)) dx6) dx10)), .second] [(.int (cmpValue (FP.dcmp (FP.dmul (FP.dadd (FP.ddiv (FP.l2d NL) (FP.l2d DL)) dx6) dx10) (FP.dmul (FP.dadd (FP.ddiv (FP.l2d NL) (FP.l2d DL)) dx6) dx10)) .l))])
  refine og_ifN X13 hx (hb hby at_214) (teq (Jvm.RoadKit.dcmpV_self (Jvm.Free.Fl.dmul_out hfin (own_scfin dS10)) _)).2 ?_
  refine og_iconst X13 hx (hb hby at_217) ?_
  refine og_goto X13 hx 222 (hb hby at_218) (by decide) (by decide) ?_
  exact own_retI X13 hx hret hlk (hb hby at_222) rfl (by simp) (by decide) (by decide) (⟨rfl, N13⟩)
set_option maxRecDepth 65536 in
set_option maxHeartbeats 40000000 in
theorem comes_1 {Post : Tables → Env → Array Value → State → Outcome → State → Prop} (hpost : ∀ tb e args s v u, (limb_1_1.after args s (.returned v) u = true ∧ limb_1_2.after args s (.returned v) u = true ∧ True) → FrameEnd s (.returned v) u (Jvm.fieldLocs frame_1_writes args s ++ Jvm.arrayLocs frame_1_arrays args s ++ Jvm.staticLocs frame_1_statics s) 16 128 → Post tb e args s (.returned v) u) :
    ArmFor flags0 classFile x code maxLocals ret World_1 tables_1 room_1 Calls_1 rest_1 Pre_1 Post := by
  intro l hfl _ _ p e ha hc hk s m args below hf hA hF happ hP
  obtain ⟨hcalls, hrest, hpre⟩ := hP
  obtain ⟨-, -, -, hnamed, -, -, -, hat⟩ := (Spec.applies_iff hf).mp happ
  obtain ⟨hg, hn⟩ := and_e (Cond.before_iff.mp (show (Jvm.Cond.and given_1 narrow_1).before args s = true from hpre))
  obtain ⟨hcount, hk0⟩ := and_e hg
  obtain ⟨w0, w1, w2, w3, w4, rfl⟩ : ∃ w0 w1 w2 w3 w4 : Value, args = #[w0, w1, w2, w3, w4] := by
    have hs : args.size = 5 := by simpa [Cond.value, given_1] using hcount
    obtain ⟨L⟩ := args
    match L, hs with
    | [w0, w1, w2, w3, w4], _ => exact ⟨w0, w1, w2, w3, w4, rfl⟩
  have hw := fun d (hd : d ∈ tables_1) => atoms_spec (ws := Jvm.Cond.code x code maxLocals ret :: tables_1) hat d (List.mem_cons_of_mem _ hd)
  have hfit : Fit s := fun {y c} hc i hi => by
    obtain ⟨ha, rfl⟩ := Array.getElem?_eq_some_iff.mp hc
    have q := List.all_eq_true.mp ((Array.all_eq_true_iff_forall_mem.mp hF) _ (Array.getElem_mem ha)) i (List.mem_range.mpr hi)
    simpa [Array.getElem?_eq_getElem hi] using q
  obtain ⟨hi0, hk1⟩ := and_e hk0
  obtain ⟨i0, ei0⟩ := is_v hi0
  obtain rfl : w0 = (.int i0) := Option.some.inj ei0
  obtain ⟨hi1, hk2⟩ := and_e hk1
  obtain ⟨i1, ei1⟩ := is_v hi1
  obtain rfl : w1 = (.int i1) := Option.some.inj ei1
  obtain ⟨hi2, hk3⟩ := and_e hk2
  obtain ⟨i2, ei2⟩ := is_v hi2
  obtain rfl : w2 = (.int i2) := Option.some.inj ei2
  obtain ⟨hi3, hk4⟩ := and_e hk3
  obtain ⟨i3, ei3⟩ := is_v hi3
  obtain rfl : w3 = (.int i3) := Option.some.inj ei3
  obtain ⟨i4, ei4⟩ := is_v hk4
  obtain rfl : w4 = (.int i4) := Option.some.inj ei4
  obtain ⟨n, o, h1, h2, h3, _, L, rfl, ⟨rfl, N⟩, hq⟩ := (own_rm0 l s _ hw i0 i1 i2 i3 i4 s.heap s.heap.size (Old.start s)) tables_1 p e ha hc hk s m _ below hf ((Spec.applies_iff_loose hf).mp happ).1 ⟨rfl, State.Warmed39.refl s, rfl⟩ trivial
  refine ⟨n, _, h1, h2, h3, hpost _ _ _ _ _ _ ⟨Cond.after_iff.mpr rfl, Cond.after_iff.mpr (eq_i res_at (Term.int_eval (1)) rfl), trivial⟩ ⟨hq.1, hq.2.1, (hq.2.2.sift fun y hy => Or.inr (N y hy)).mono (by decide) (by decide)⟩⟩
theorem main_1_1 : Claimed_1_1 := comes_1 fun _ _ _ _ _ _ h hF => ⟨h.1, hF⟩
theorem main_1_2 : Claimed_1_2 := comes_1 fun _ _ _ _ _ _ h hF => ⟨h.2.1, hF⟩
end Jvm.Pilot.@@N@@
namespace Jvm.Pilot.@@N@@
open Jvm Jvm.ClassFile Sem Op Lib Jvm.Free Jvm.Stand Jvm.Pilot.@@N@@.Jvm.D
/-! MADE BY PROGRAM (witnessworld.py) out of the Statement's table words and the real class files: 9 classes; the members and pool entries that the words name. The judged class is class 1, her method 1. -/
namespace start1
open Jvm.ClassFile
def u (s : String) : CpInfo := .utf8 (stringToUtf16 s)
/-- a pool by its gaps: so many unusable entries, then the entry; so many at the end -/
def gap : Nat → List CpInfo → List CpInfo
  | 0, r => r
  | n + 1, r => .unusable :: gap n r
def poolList (es : List (Nat × CpInfo)) (last : Nat) : List CpInfo := es.foldr (fun e r => gap e.1 (e.2 :: r)) (gap last [])
def pool (es : List (Nat × CpInfo)) (last : Nat) : Array CpInfo := ⟨poolList es last⟩
def fileOf (pool : Array CpInfo) (this : Nat) (attrs : Array Attribute := #[]) (ms : Array MethodInfo := #[]) (fl : Nat := 33) (sup : Nat := 0) (ifs : Array Nat := #[]) (fds : Array FieldInfo := #[]) : ClassFile where
  minorVersion := 0
  majorVersion := 65
  constantPool := pool
  accessFlags := fl
  thisClass := this
  superClass := sup
  interfaces := ifs
  fields := fds
  methods := ms
  attributes := attrs
def plain (name : String) (sup : Option ClassId) : Class where
  name := name
  kind := .ordinary
  loader := none
  accessFlags := 33
  super := sup
  interfaces := #[]
  cf := none
  fields := #[]
  methods := #[]
  instanceTypes := #[]
  staticTypes := #[]
  resolved := #[]
  callSites := []
  init := .initialized
  statics := none
  mirror := none

def pool0 : Array CpInfo := pool [(5, u "<init>"), (0, u "()V"), (1, .class_ 10), (1, u "java/lang/Object")] 113

def k0c0 : Code := { maxStack := 0, maxLocals := 1, code := object_method_1_code, exceptionTable := #[], attributes := #[] }
def k0m0 : Method := { name := "<init>", desc := "()V", sig := { parameters := [], returnType := none }, accessFlags := 1, code := some k0c0 }
/-- java/lang/Object -/
def k0 : Class := { plain "java/lang/Object" none with
  accessFlags := 33
  interfaces := #[]
  cf := some (fileOf pool0 8 #[] #[{ accessFlags := 1, nameIndex := 5, descriptorIndex := 6, attributes := #[] }] 33 0 #[] #[])
  fields := #[]
  methods := #[k0m0]
  instanceTypes := #[]
  staticTypes := #[]
  resolved := Array.replicate 124 none
  statics := none }

def pool1 : Array CpInfo := pool [(2, .class_ 4), (1, u "java/lang/Object"), (0, u "<init>"), (0, u "()V"), (0, .double 4616189618054758400), (1, .double 4620693217682128896), (1, .double 4643211215818981376), (1, .double 4634204016564240384), (1, .integer 1048575), (0, .class_ 17), (0, u "com/example/hypatia/hypatia/engine/Bm25Plus"), (0, .methodref 16 19), (0, .nameAndType 5 20), (0, u "(DDD)V"), (0, .methodref 16 22), (0, .nameAndType 23 24), (0, u "weight"), (0, u "(DJJD)D"), (0, .long 4), (1, .long 256), (1, .class_ 30), (0, u "com/example/hypatia/hypatia/engine/Bm25PlusWeightPinLaw"), (2, u "law"), (0, u "(IIIII)Z")] 3

def k1m0 : Method := { name := "<init>", desc := "()V", sig := { parameters := [], returnType := none }, accessFlags := 2, code := none }
def k1c1 : Code := { maxStack := 9, maxLocals := 38, code := code, exceptionTable := #[], attributes := #[] }
def k1m1 : Method := { name := "law", desc := "(IIIII)Z", sig := { parameters := [.int, .int, .int, .int, .int], returnType := some .boolean }, accessFlags := 9, code := some k1c1 }
/-- com/example/hypatia/hypatia/engine/Bm25PlusWeightPinLaw -/
def k1 : Class := { plain "com/example/hypatia/hypatia/engine/Bm25PlusWeightPinLaw" (some 0) with
  accessFlags := 49
  interfaces := #[]
  cf := some (fileOf pool1 29 #[] #[{ accessFlags := 2, nameIndex := 5, descriptorIndex := 6, attributes := #[] }, { accessFlags := 9, nameIndex := 33, descriptorIndex := 34, attributes := #[] }] 49 2 #[] #[])
  fields := #[]
  methods := #[k1m0, k1m1]
  instanceTypes := #[]
  staticTypes := #[]
  resolved := Array.replicate 38 none
  statics := none }

def pool2 : Array CpInfo := pool [(1, .methodref 2 3), (0, .class_ 4), (0, .nameAndType 5 6), (0, u "java/lang/Object"), (0, u "<init>"), (0, u "()V"), (2, .double 9218868437227405312), (12, .fieldref 23 24), (0, .class_ 25), (0, .nameAndType 26 27), (0, u "com/example/hypatia/hypatia/engine/Bm25Plus"), (0, u "k1"), (0, u "D"), (0, .fieldref 23 29), (0, .nameAndType 30 27), (0, u "b"), (0, .fieldref 23 32), (0, .nameAndType 33 27), (0, u "delta"), (17, u "(DDD)V"), (2, u "DEFAULT"), (0, u "Lcom/example/hypatia/hypatia/engine/Bm25Plus;"), (5, u "weight"), (0, u "(DJJD)D")] 29

def k2c0 : Code := { maxStack := 4, maxLocals := 7, code := prog_1_method_1_code, exceptionTable := #[], attributes := #[] }
def k2m0 : Method := { name := "<init>", desc := "(DDD)V", sig := { parameters := [.double, .double, .double], returnType := none }, accessFlags := 1, code := some k2c0 }
def k2c1 : Code := { maxStack := 6, maxLocals := 13, code := prog_1_method_3_code, exceptionTable := #[], attributes := #[] }
def k2m1 : Method := { name := "weight", desc := "(DJJD)D", sig := { parameters := [.double, .long, .long, .double], returnType := some .double }, accessFlags := 1, code := some k2c1 }
/-- com/example/hypatia/hypatia/engine/Bm25Plus -/
def k2 : Class := { plain "com/example/hypatia/hypatia/engine/Bm25Plus" (some 0) with
  accessFlags := 49
  interfaces := #[]
  cf := some (fileOf pool2 23 #[] #[{ accessFlags := 1, nameIndex := 5, descriptorIndex := 51, attributes := #[] }, { accessFlags := 1, nameIndex := 61, descriptorIndex := 62, attributes := #[] }] 49 2 #[] #[{ accessFlags := 25, nameIndex := 54, descriptorIndex := 55, attributes := #[] }, { accessFlags := 18, nameIndex := 26, descriptorIndex := 27, attributes := #[] }, { accessFlags := 18, nameIndex := 30, descriptorIndex := 27, attributes := #[] }, { accessFlags := 18, nameIndex := 33, descriptorIndex := 27, attributes := #[] }])
  fields := #[{ name := "DEFAULT", type := (.object "com/example/hypatia/hypatia/engine/Bm25Plus"), accessFlags := 25, slot := 0, constantValue := 0 }, { name := "k1", type := .double, accessFlags := 18, slot := 0, constantValue := 0 }, { name := "b", type := .double, accessFlags := 18, slot := 1, constantValue := 0 }, { name := "delta", type := .double, accessFlags := 18, slot := 2, constantValue := 0 }]
  methods := #[k2m0, k2m1]
  instanceTypes := #[.double, .double, .double]
  staticTypes := #[(.object "com/example/hypatia/hypatia/engine/Bm25Plus")]
  resolved := Array.replicate 92 none
  statics := none }

def pool3 : Array CpInfo := pool [(1, u "java/lang/Cloneable"), (0, .class_ 1), (0, u "java/lang/Object"), (0, .class_ 3)] 3

/-- java/lang/Cloneable -/
def k3 : Class := { plain "java/lang/Cloneable" (some 0) with
  accessFlags := 1537
  interfaces := #[]
  cf := some (fileOf pool3 2 #[] #[] 1537 4 #[] #[])
  fields := #[]
  methods := #[]
  instanceTypes := #[]
  staticTypes := #[]
  resolved := Array.replicate 8 none
  statics := none }

def pool4 : Array CpInfo := pool [(1, u "java/io/Serializable"), (0, .class_ 1), (0, u "java/lang/Object"), (0, .class_ 3)] 3

/-- java/io/Serializable -/
def k4 : Class := { plain "java/io/Serializable" (some 0) with
  accessFlags := 1537
  interfaces := #[]
  cf := some (fileOf pool4 2 #[] #[] 1537 4 #[] #[])
  fields := #[]
  methods := #[]
  instanceTypes := #[]
  staticTypes := #[]
  resolved := Array.replicate 8 none
  statics := none }

/-- the primitive byte -/
def k5 : Class := { plain "byte" none with kind := .primitive 'B', accessFlags := 0x411 }
/-- [B -/
def k6 : Class := { plain "[B" (some 0) with kind := .array 5 .byte, interfaces := #[3, 4], accessFlags := 1041 }

/-- the primitive int -/
def k7 : Class := { plain "int" none with kind := .primitive 'I', accessFlags := 0x411 }
/-- [I -/
def k8 : Class := { plain "[I" (some 0) with kind := .array 7 .int, interfaces := #[3, 4], accessFlags := 1041 }

def heap : Heap := #[]
def classes : Array Class := #[k0, k1, k2, k3, k4, k5, k6, k7, k8]
def interned : List (Array UInt16 × Addr) := []
def slotsUsed : Nat := 0
def theMethod : MethodId := ⟨1, 1⟩
def args0 : Array Value := #[.int 5, .int 6, .int 7, .int 8, .int 9]
def aboutOver (below : List Frame) : State where
  vm := { classes := classes, interned := interned.toArray }
  heap := heap
  slotsUsed := slotsUsed
  threads := #[{ frames := .invoking theMethod args0 :: below }]
def below0 : List Frame := [.native { method := ⟨0, 0⟩, args := #[] }]
def about1 : State := aboutOver below0
def p0 : Program := .bare "" "" ""
def e0 : Env := launch0.env 0 0 0
theorem w_frames : about1.frames = Frame.invoking theMethod args0 :: below0 := rfl
set_option maxRecDepth 65536 in
theorem w_args : argsFit about1.vm theMethod args0 = true := by decide +kernel
set_option maxRecDepth 65536 in
theorem w_heap : heapFits about1 = true := by decide +kernel
set_option maxRecDepth 65536 in
theorem w_runnable : about1.curStatus? = some .runnable := by decide +kernel
set_option maxRecDepth 65536 in
theorem w_alone : about1.alone = true := by decide +kernel
set_option maxRecDepth 65536 in
theorem w_named : about1.methodNamed? x = some theMethod := by decide +kernel
set_option maxRecDepth 65536 in
theorem w_hears : about1.hears theMethod below0 = true := by decide +kernel
set_option maxRecDepth 65536 in
theorem w_ripe : about1.ripe theMethod args0 below0 = true := by decide +kernel
theorem w_running : about1.status = .running := rfl
set_option maxRecDepth 65536 in
theorem w_room : about1.hasRoom e0.platform room_1 = true :=
  launch0.hasRoom_least _ room_1 (by decide +kernel) (by decide +kernel) (by decide +kernel) (by decide +kernel) (by decide +kernel) (by decide +kernel)
theorem allAtoms_all (ts : List Jvm.Cond) (a : Array Jvm.Value) (st : Jvm.State) : (allAtoms ts).before a st = ts.all (fun c => c.before a st) := by
  induction ts with
  | nil => rfl
  | cons c t ih =>
    show (Jvm.Cond.and c (allAtoms t)).before a st = _
    rw [Jvm.Cond.before_and, ih, List.all_cons]
def words1 : List Jvm.Cond := Jvm.Cond.code x code maxLocals ret :: tables_1
/-- a 'code' word, met by the world's own term for the bytes: nothing is compared byte by byte -/
theorem code_word {y : MethodName} {bytes : ByteArray} {mx : Nat} {rt : Option FieldType} {a : Array Value} {s : State} {m : MethodId} {meth : Method} {c : Code} (h1 : s.methodNamed? y = some m) (h2 : s.vm.method? m = some meth) (h3 : meth.code = some c) (h4 : c.code = bytes)
    (h5 : (c.maxLocals == mx && c.exceptionTable.isEmpty && decide (c.maxStack ≤ mostOperands) && decide (meth.sig.returnType = rt) && !meth.locks && decide (parseMethodDescriptor y.desc = some meth.sig)) = true) : (Jvm.Cond.code y bytes mx rt).before a s = true := by
  simp only [Bool.and_eq_true, beq_iff_eq, Bool.not_eq_true', decide_eq_true_eq] at h5
  obtain ⟨⟨⟨⟨⟨g1, g2⟩, g3⟩, g4⟩, g5⟩, g6⟩ := h5
  simp [Cond.before, Cond.holds, Cond.value, h1, h2, h3, h4, g1, g2, g3, g4, g5, g6]
def isCode : Jvm.Cond → Bool
  | .code _ _ _ _ => true
  | _ => false
theorem all_split {L : List Jvm.Cond} {P : Jvm.Cond → Bool} (h1 : L.all (fun c => isCode c || P c) = true) (h2 : ∀ c ∈ L.filter isCode, P c = true) : L.all P = true := by
  refine List.all_eq_true.mpr fun c hc => ?_
  have h := List.all_eq_true.mp h1 c hc
  rcases Bool.eq_false_or_eq_true (isCode c) with hi | hi
  · exact h2 c (List.mem_filter.mpr ⟨hc, hi⟩)
  · simpa [hi] using h
set_option maxRecDepth 65536 in
theorem w_c0 : (Jvm.Cond.code x code maxLocals ret).before args0 about1 = true := code_word (m := ⟨1, 1⟩) (meth := k1m1) (c := k1c1) (by decide +kernel) rfl rfl rfl (by decide +kernel)
set_option maxRecDepth 65536 in
theorem w_c1 : (Jvm.Cond.code ({ cls := "com/example/hypatia/hypatia/engine/Bm25Plus", name := "<init>", desc := "(DDD)V" } : Jvm.MethodName) prog_1_method_1_code (7 : Nat) (Option.none : Option Jvm.ClassFile.FieldType)).before args0 about1 = true := code_word (m := ⟨2, 0⟩) (meth := k2m0) (c := k2c0) (by decide +kernel) rfl rfl rfl (by decide +kernel)
set_option maxRecDepth 65536 in
theorem w_c2 : (Jvm.Cond.code ({ cls := "java/lang/Object", name := "<init>", desc := "()V" } : Jvm.MethodName) object_method_1_code (1 : Nat) (Option.none : Option Jvm.ClassFile.FieldType)).before args0 about1 = true := code_word (m := ⟨0, 0⟩) (meth := k0m0) (c := k0c0) (by decide +kernel) rfl rfl rfl (by decide +kernel)
set_option maxRecDepth 65536 in
theorem w_c3 : (Jvm.Cond.code ({ cls := "com/example/hypatia/hypatia/engine/Bm25Plus", name := "weight", desc := "(DJJD)D" } : Jvm.MethodName) prog_1_method_3_code (13 : Nat) (Option.some Jvm.ClassFile.FieldType.double)).before args0 about1 = true := code_word (m := ⟨2, 1⟩) (meth := k2m1) (c := k2c1) (by decide +kernel) rfl rfl rfl (by decide +kernel)
def codes1 : List Jvm.Cond := [Jvm.Cond.code x code maxLocals ret, Jvm.Cond.code ({ cls := "com/example/hypatia/hypatia/engine/Bm25Plus", name := "<init>", desc := "(DDD)V" } : Jvm.MethodName) prog_1_method_1_code (7 : Nat) (Option.none : Option Jvm.ClassFile.FieldType), Jvm.Cond.code ({ cls := "java/lang/Object", name := "<init>", desc := "()V" } : Jvm.MethodName) object_method_1_code (1 : Nat) (Option.none : Option Jvm.ClassFile.FieldType), Jvm.Cond.code ({ cls := "com/example/hypatia/hypatia/engine/Bm25Plus", name := "weight", desc := "(DJJD)D" } : Jvm.MethodName) prog_1_method_3_code (13 : Nat) (Option.some Jvm.ClassFile.FieldType.double)]
set_option maxRecDepth 65536 in
theorem codes_eq : words1.filter isCode = codes1 := rfl
theorem w_codes : ∀ c ∈ words1.filter isCode, c.before args0 about1 = true := by
  rw [codes_eq]
  intro c hc
  simp only [codes1, List.mem_cons, List.not_mem_nil, or_false] at hc
  rcases hc with rfl | rfl | rfl | rfl
  · exact w_c0
  · exact w_c1
  · exact w_c2
  · exact w_c3
set_option maxRecDepth 65536 in
theorem w_t1 : (words1.take 24).all (fun c => isCode c || c.before args0 about1) = true := by decide +kernel
set_option maxRecDepth 65536 in
theorem w_t2 : (words1.drop 24).all (fun c => isCode c || c.before args0 about1) = true := by decide +kernel
theorem w_tables : (allAtoms (Jvm.Cond.code x code maxLocals ret :: tables_1)).before args0 about1 = true := by
  rw [allAtoms_all]
  show words1.all (fun c => c.before args0 about1) = true
  refine all_split ?_ w_codes
  rw [← List.take_append_drop 24 words1, List.all_append, w_t1, w_t2]
  rfl
set_option maxRecDepth 65536 in
theorem w_case : (Jvm.Cond.and given_1 narrow_1).before args0 about1 = true := by decide +kernel
theorem w_applies : (headSpec (Jvm.Cond.code x code maxLocals ret :: tables_1) room_1).applies x e0.platform about1 = true :=
  (Spec.applies_iff w_frames).mpr ⟨w_running, w_runnable, w_alone, w_named, w_hears, w_ripe, w_room, w_tables⟩
theorem atStart : AtStart classFile x code maxLocals ret World_1 tables_1 room_1 Calls_1 rest_1 Pre_1 launch0 p0 e0 about1 theMethod args0 below0 :=
  ⟨lists_1, trivial, launch0.admits_env _ _ _, launch0.least_env, fairChoices_fair.cas, fairChoices_fair.clock, w_frames, w_args, w_heap, w_applies, trivial, trivial, w_case⟩
end start1
theorem witness_1 : WitnessClaimed_1 := ⟨start1.p0, start1.e0, start1.about1, start1.theMethod, start1.args0, start1.below0, start1.atStart⟩
end Jvm.Pilot.@@N@@
