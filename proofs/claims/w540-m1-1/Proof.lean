import JvmDerived
import JvmDerived.Pilot.@@N@@Statement
import JvmDerived.Pilot.@@N@@Code
set_option linter.unusedVariables false
set_option linter.unusedSimpArgs false
@@BLOCK:NumsL.lean.txt@@
namespace Jvm.Pilot.@@N@@
set_option maxRecDepth 65536
set_option maxHeartbeats 40000000
open Jvm Jvm.ClassFile Sem Op Lib Jvm.Free Jvm.Stand Jvm.LawKit Jvm.RoadKit Bundle Jvm.Pilot.@@N@@.Jvm.D
abbrev own_W (a0 : Array Value) (Z : State) : Prop := ∀ d ∈ tables_1, d.before a0 Z = true
theorem own_i32 {x : Int32} (k : Int32) {n : Int} (e : k.toInt = n) (h : x.toInt = n) : x = k := Int32.toInt_inj.mp (h.trans e.symm)
section Own
variable {p : Program} {l : Launch} {e : Env} {R : Room} {s : State} {m : MethodId} {args : Array Value} {below : List Frame} {meth : Method} {c : Code} {T T' : State} {locs : List Loc} {cells slots : Nat} {Z : State} {a0 : Array Value} {h : Heap} {P : Outcome → State → Prop}
theorem own_hw {L : List Jvm.Cond} (hw : ∀ d ∈ L, d.before a0 Z = true) (i : Nat) {d : Jvm.Cond} (q : L[i]? = some d) : d.before a0 Z = true := hw d (List.mem_of_getElem? q)
/-- from here the run comes to an end that P allows -/
def own_Go (p : Program) (e : Env) (below : List Frame) (P : Outcome → State → Prop) (T : State) (g : JFrame) : Prop :=
  ∃ s₂ o, Steps p.tables e below (T.setTop g) s₂ ∧ s₂.status = .running ∧ Ended s₂ below o ∧ P o s₂
theorem own_go {g g' : JFrame} (h : ∀ t, Steps p.tables e below (T'.setTop g') t → Steps p.tables e below (T.setTop g) t) (k : own_Go p e below P T' g') : own_Go p e below P T g := by
  obtain ⟨s₂, o, h1, h2⟩ := k
  exact ⟨s₂, o, h _ h1, h2⟩
theorem own_cut {α : Type} {g : JFrame} {F : α → JFrame} (tl : ∀ v, own_Go p e below P T (F v)) (k : (∀ v, own_Go p e below P T (F v)) → own_Go p e below P T g) : own_Go p e below P T g := k tl
theorem own_cast {g g' : JFrame} (q : g = g') (k : own_Go p e below P T g') : own_Go p e below P T g := q ▸ k
/-- what a body leaves: Q of its answer, of the heap and of the places written; no more cells and slots than k and n -/
def own_End (s : State) (Q : Option Value → Heap → List Loc → Prop) (k n : Nat) (o : Outcome) (t : State) : Prop := ∃ v L, o = .returned v ∧ Q v t.heap L ∧ FrameEnd s o t L k n
/-- a body's contract, at one heap and one list of arguments -/
def own_Met (l : Launch) (Z : State) (y : MethodName) (bytes : ByteArray) (maxL : Nat) (ret : Option FieldType) (rm : Room) (as' : Array Value) (h0 : Heap) (Q : Option Value → Heap → List Loc → Prop) : Prop :=
  ∀ ws : List Jvm.Cond, MetFree l y (head1 (Jvm.Cond.code y bytes maxL ret :: ws) rm) (fun a U => a = as' ∧ Z.Warmed39 U.vm ∧ U.heap = h0) (fun _ _ _ _ _ => True) (fun _ U o U' => ∃ v L, o = .returned v ∧ Q v U'.heap L ∧ FrameEnd U o U' L rm.cells rm.slots)
theorem own_body {y : MethodName} {bytes : ByteArray} {maxL : Nat} {ret : Option FieldType} {rm : Room} {as' : Array Value} {h0 : Heap} {Q : Option Value → Heap → List Loc → Prop} (hp : plainFor y = true)
    (k : ∀ (p : Program) (e : Env) (s : State) (m : MethodId) (below : List Frame) (meth : Method) (c : Code) (T : State), Stand p l e rm s m as' below meth c T [] 0 0 → p.tables.exec = Jvm.exec → Z.Warmed39 s.vm → c.code = bytes → c.maxLocals = maxL → s.vm.findClass y.cls = some m.cls → meth.name = y.name →
      meth.sig.returnType = ret → meth.locks = false → T.heap = h0 → own_Go p e below (own_End s Q rm.cells rm.slots) T (entryFrame m as' maxL)) : own_Met l Z y bytes maxL ret rm as' h0 Q := by
  intro ws
  refine MetFree.of_bodySF hp hisR ?_
  intro p e s m args below meth c s₁ Bd hml0 hP hK
  obtain ⟨rfl, hZ, hh⟩ := hP
  exact k p e s m below meth c s₁ (Stand.of_body Bd) Bd.exec hZ Bd.bytes hml0 (findClass_of_methodNamed Bd.named) (name_of_methodNamed Bd.named Bd.method).1 Bd.returns Bd.notSynchronized (by rw [← hh, Bd.state]; rfl)
/-- a return with a value -/
theorem own_ret (X : Stand p l e R s m args below meth c T locs cells slots) (hx : p.tables.exec = Jvm.exec) {pc : Nat} {Ls : Array Slot} {w : Value} {t : FieldType} {i : Instr} {rest : List Value} (hret : meth.sig.returnType = some t) (hlk : meth.locks = false) (hd : decode c.code pc = .ok (i, 1)) (hn : narrow t w = w)
    (hi : (i = .ireturn ∧ (t = .int ∨ t = .boolean ∨ t = .byte ∨ t = .char ∨ t = .short) ∧ ∃ z, w = .int z) ∨ (i = .lreturn ∧ t = .long ∧ ∃ z, w = .long z) ∨ (i = .dreturn ∧ t = .double ∧ ∃ z, w = .double z) ∨ (i = .freturn ∧ t = .float ∧ ∃ z, w = .float z) ∨ (i = .areturn ∧ t.isReference = true ∧ w.isRef = true))
    {Q : Option Value → Heap → List Loc → Prop} {kc kn : Nat} (hc : cells ≤ kc) (hs : slots ≤ kn) (hQ : Q (some w) T.heap locs) : own_Go p e below (own_End s Q kc kn) T (mkF m pc Ls (w :: rest)) := by
  obtain ⟨fs, hr, hrun, hended, hW, hsame⟩ := X.leave (v := some w) (fun h => by rw [hret] at h; cases h) hlk
  exact ⟨_, _, retOut X hx hret hn hi hd hr, hrun, hended, _, _, rfl, hQ, ⟨_, rfl⟩, hW, hsame.mono hc hs⟩
theorem own_retI (X : Stand p l e R s m args below meth c T locs cells slots) (hx : p.tables.exec = Jvm.exec) {pc : Nat} {Ls : Array Slot} {z : Int32} {t : FieldType} {rest : List Value} (hret : meth.sig.returnType = some t) (hlk : meth.locks = false) (hd : decode c.code pc = .ok (.ireturn, 1)) (hn : narrow t (.int z) = .int z)
    (ht : t = .int ∨ t = .boolean ∨ t = .byte ∨ t = .char ∨ t = .short) {Q : Option Value → Heap → List Loc → Prop} {kc kn : Nat} (hc : cells ≤ kc) (hs : slots ≤ kn) (hQ : Q (some (.int z)) T.heap locs) : own_Go p e below (own_End s Q kc kn) T (mkF m pc Ls (.int z :: rest)) :=
  own_ret X hx hret hlk hd hn (Or.inl ⟨rfl, ht, z, rfl⟩) hc hs hQ
theorem own_retA (X : Stand p l e R s m args below meth c T locs cells slots) (hx : p.tables.exec = Jvm.exec) {pc : Nat} {Ls : Array Slot} {w : Value} {t : FieldType} {rest : List Value} (hret : meth.sig.returnType = some t) (hlk : meth.locks = false) (hd : decode c.code pc = .ok (.areturn, 1)) (ht : t.isReference = true) (hw : w.isRef = true)
    {Q : Option Value → Heap → List Loc → Prop} {kc kn : Nat} (hc : cells ≤ kc) (hs : slots ≤ kn) (hQ : Q (some w) T.heap locs) : own_Go p e below (own_End s Q kc kn) T (mkF m pc Ls (w :: rest)) :=
  own_ret X hx hret hlk hd (by cases t <;> first | rfl | (cases w <;> rfl) | (simp [FieldType.isReference] at ht)) (Or.inr (Or.inr (Or.inr (Or.inr ⟨rfl, ht, hw⟩)))) hc hs hQ
theorem own_retV (X : Stand p l e R s m args below meth c T locs cells slots) (hx : p.tables.exec = Jvm.exec) {pc : Nat} {Ls : Array Slot} (hret : meth.sig.returnType = none) (hlk : meth.locks = false) (hd : decode c.code pc = .ok (.return_, 1))
    {Q : Option Value → Heap → List Loc → Prop} {kc kn : Nat} (hc : cells ≤ kc) (hs : slots ≤ kn) (hQ : Q none T.heap locs) : own_Go p e below (own_End s Q kc kn) T (mkF m pc Ls []) := by
  obtain ⟨fs, hr, hrun, hended, hW, hsame⟩ := X.leave (v := none) (fun _ => rfl) hlk
  exact ⟨_, _, X.returnOut hx hret hd hr, hrun, hended, _, _, rfl, hQ, ⟨_, rfl⟩, hW, hsame.mono hc hs⟩
section Og
variable {pc : Nat} {Ls : Array Slot} {st : List Value}
theorem og_iload (X : Stand p l e R s m args below meth c T locs cells slots) (hx : p.tables.exec = Jvm.exec) {k : Nat} {v : Int32} (hd : decode c.code pc = .ok (.iload k, 2)) (hl : Ls[k]? = some (.val (.int v))) (kk : own_Go p e below P T (mkF m (pc + 2) Ls (.int v :: st))) : own_Go p e below P T (mkF m pc Ls st) :=
  own_go (fun _ q => XS.iload X.here hx rfl hd hl q) kk
theorem og_iloadN (X : Stand p l e R s m args below meth c T locs cells slots) (hx : p.tables.exec = Jvm.exec) {k : Fin 4} {v : Int32} (hd : decode c.code pc = .ok (.iload_n k, 1)) (hl : Ls[k.val]? = some (.val (.int v))) (kk : own_Go p e below P T (mkF m (pc + 1) Ls (.int v :: st))) : own_Go p e below P T (mkF m pc Ls st) :=
  own_go (fun _ q => XS.iloadN X.here hx rfl hd hl q) kk
theorem og_aload (X : Stand p l e R s m args below meth c T locs cells slots) (hx : p.tables.exec = Jvm.exec) {k : Nat} {v : Value} (hd : decode c.code pc = .ok (.aload k, 2)) (hl : Ls[k]? = some (.val v)) (hv : v.isRef = true) (kk : own_Go p e below P T (mkF m (pc + 2) Ls (v :: st))) : own_Go p e below P T (mkF m pc Ls st) :=
  own_go (fun _ q => XS.aload X.here hx rfl hd hl hv q) kk
theorem og_aloadN (X : Stand p l e R s m args below meth c T locs cells slots) (hx : p.tables.exec = Jvm.exec) {k : Fin 4} {v : Value} (hd : decode c.code pc = .ok (.aload_n k, 1)) (hl : Ls[k.val]? = some (.val v)) (hv : v.isRef = true) (kk : own_Go p e below P T (mkF m (pc + 1) Ls (v :: st))) : own_Go p e below P T (mkF m pc Ls st) :=
  own_go (fun _ q => XS.aloadN X.here hx rfl hd hl hv q) kk
theorem og_lload (X : Stand p l e R s m args below meth c T locs cells slots) (hx : p.tables.exec = Jvm.exec) {k : Nat} {v : Int64} (hd : decode c.code pc = .ok (.lload k, 2)) (hl : Ls[k]? = some (.val (.long v))) (kk : own_Go p e below P T (mkF m (pc + 2) Ls (.long v :: st))) : own_Go p e below P T (mkF m pc Ls st) :=
  own_go (fun _ q => XS.lload X.here hx rfl hd hl q) kk
theorem og_lloadN (X : Stand p l e R s m args below meth c T locs cells slots) (hx : p.tables.exec = Jvm.exec) {k : Fin 4} {v : Int64} (hd : decode c.code pc = .ok (.lload_n k, 1)) (hl : Ls[k.val]? = some (.val (.long v))) (kk : own_Go p e below P T (mkF m (pc + 1) Ls (.long v :: st))) : own_Go p e below P T (mkF m pc Ls st) :=
  own_go (fun _ q => XS.lloadN X.here hx rfl hd hl q) kk
theorem og_istore (X : Stand p l e R s m args below meth c T locs cells slots) (hx : p.tables.exec = Jvm.exec) {k : Nat} {x : Int32} (l' : Array Slot) (hd : decode c.code pc = .ok (.istore k, 2)) (hl : storeLocals Ls k (.int x) = some l') (kk : own_Go p e below P T (mkF m (pc + 2) l' st)) : own_Go p e below P T (mkF m pc Ls (.int x :: st)) :=
  own_go (fun _ q => XS.istore X.here hx rfl hd rfl hl q) kk
theorem og_istoreN (X : Stand p l e R s m args below meth c T locs cells slots) (hx : p.tables.exec = Jvm.exec) {k : Fin 4} {x : Int32} (l' : Array Slot) (hd : decode c.code pc = .ok (.istore_n k, 1)) (hl : storeLocals Ls k.val (.int x) = some l') (kk : own_Go p e below P T (mkF m (pc + 1) l' st)) : own_Go p e below P T (mkF m pc Ls (.int x :: st)) :=
  own_go (fun _ q => XS.istoreN X.here hx rfl hd rfl hl q) kk
theorem og_lstore (X : Stand p l e R s m args below meth c T locs cells slots) (hx : p.tables.exec = Jvm.exec) {k : Nat} {x : Int64} (l' : Array Slot) (hd : decode c.code pc = .ok (.lstore k, 2)) (hl : storeLocals Ls k (.long x) = some l') (kk : own_Go p e below P T (mkF m (pc + 2) l' st)) : own_Go p e below P T (mkF m pc Ls (.long x :: st)) :=
  own_go (fun _ q => XS.lstore X.here hx rfl hd rfl hl q) kk
theorem og_lstoreN (X : Stand p l e R s m args below meth c T locs cells slots) (hx : p.tables.exec = Jvm.exec) {k : Fin 4} {x : Int64} (l' : Array Slot) (hd : decode c.code pc = .ok (.lstore_n k, 1)) (hl : storeLocals Ls k.val (.long x) = some l') (kk : own_Go p e below P T (mkF m (pc + 1) l' st)) : own_Go p e below P T (mkF m pc Ls (.long x :: st)) :=
  own_go (fun _ q => XS.lstoreN X.here hx rfl hd rfl hl q) kk
theorem og_astore (X : Stand p l e R s m args below meth c T locs cells slots) (hx : p.tables.exec = Jvm.exec) {k : Nat} {x : Value} (l' : Array Slot) (hd : decode c.code pc = .ok (.astore k, 2)) (hv : x.isRef = true) (hl : storeLocals Ls k x = some l') (kk : own_Go p e below P T (mkF m (pc + 2) l' st)) : own_Go p e below P T (mkF m pc Ls (x :: st)) :=
  own_go (fun _ q => XS.astore X.here hx rfl hd rfl hv hl q) kk
theorem og_astoreN (X : Stand p l e R s m args below meth c T locs cells slots) (hx : p.tables.exec = Jvm.exec) {k : Fin 4} {x : Value} (l' : Array Slot) (hd : decode c.code pc = .ok (.astore_n k, 1)) (hv : x.isRef = true) (hl : storeLocals Ls k.val x = some l') (kk : own_Go p e below P T (mkF m (pc + 1) l' st)) : own_Go p e below P T (mkF m pc Ls (x :: st)) :=
  own_go (fun _ q => XS.astoreN X.here hx rfl hd rfl hv hl q) kk
theorem og_iconst (X : Stand p l e R s m args below meth c T locs cells slots) (hx : p.tables.exec = Jvm.exec) {i : Int} (hd : decode c.code pc = .ok (.iconst i, 1)) (kk : own_Go p e below P T (mkF m (pc + 1) Ls (.int (Int32.ofInt i) :: st))) : own_Go p e below P T (mkF m pc Ls st) :=
  own_go (fun _ q => XS.iconst X.here hx rfl hd q) kk
theorem og_bipush (X : Stand p l e R s m args below meth c T locs cells slots) (hx : p.tables.exec = Jvm.exec) {i : Int} (hd : decode c.code pc = .ok (.bipush i, 2)) (kk : own_Go p e below P T (mkF m (pc + 2) Ls (.int (Int8.ofInt i).toInt32 :: st))) : own_Go p e below P T (mkF m pc Ls st) :=
  own_go (fun _ q => XS.bipush X.here hx rfl hd q) kk
theorem og_sipush (X : Stand p l e R s m args below meth c T locs cells slots) (hx : p.tables.exec = Jvm.exec) {i : Int} (hd : decode c.code pc = .ok (.sipush i, 3)) (kk : own_Go p e below P T (mkF m (pc + 3) Ls (.int (Int16.ofInt i).toInt32 :: st))) : own_Go p e below P T (mkF m pc Ls st) :=
  own_go (fun _ q => XS.sipush X.here hx rfl hd q) kk
theorem og_lconst (X : Stand p l e R s m args below meth c T locs cells slots) (hx : p.tables.exec = Jvm.exec) {k : Fin 2} (hd : decode c.code pc = .ok (.lconst k, 1)) (kk : own_Go p e below P T (mkF m (pc + 1) Ls (.long (Int64.ofNat k) :: st))) : own_Go p e below P T (mkF m pc Ls st) :=
  own_go (fun _ q => XS.lconst X.here hx rfl hd q) kk
theorem og_null (X : Stand p l e R s m args below meth c T locs cells slots) (hx : p.tables.exec = Jvm.exec) (hd : decode c.code pc = .ok (.aconst_null, 1)) (kk : own_Go p e below P T (mkF m (pc + 1) Ls (.null :: st))) : own_Go p e below P T (mkF m pc Ls st) :=
  own_go (fun _ q => XS.aconstNull X.here hx rfl hd q) kk
theorem og_iadd (X : Stand p l e R s m args below meth c T locs cells slots) (hx : p.tables.exec = Jvm.exec) {x y : Int32} (hd : decode c.code pc = .ok (.iadd, 1)) (kk : own_Go p e below P T (mkF m (pc + 1) Ls (.int (x + y) :: st))) : own_Go p e below P T (mkF m pc Ls (.int y :: .int x :: st)) :=
  own_go (fun _ q => XS.iadd X.here hx rfl hd rfl q) kk
theorem og_isub (X : Stand p l e R s m args below meth c T locs cells slots) (hx : p.tables.exec = Jvm.exec) {x y : Int32} (hd : decode c.code pc = .ok (.isub, 1)) (kk : own_Go p e below P T (mkF m (pc + 1) Ls (.int (x - y) :: st))) : own_Go p e below P T (mkF m pc Ls (.int y :: .int x :: st)) :=
  own_go (fun _ q => XS.isub X.here hx rfl hd rfl q) kk
theorem og_iand (X : Stand p l e R s m args below meth c T locs cells slots) (hx : p.tables.exec = Jvm.exec) {x y : Int32} (hd : decode c.code pc = .ok (.iand, 1)) (kk : own_Go p e below P T (mkF m (pc + 1) Ls (.int (x &&& y) :: st))) : own_Go p e below P T (mkF m pc Ls (.int y :: .int x :: st)) :=
  own_go (fun _ q => XS.iand X.here hx rfl hd rfl q) kk
theorem og_imul (X : Stand p l e R s m args below meth c T locs cells slots) (hx : p.tables.exec = Jvm.exec) {x y : Int32} (hd : decode c.code pc = .ok (.imul, 1)) (kk : own_Go p e below P T (mkF m (pc + 1) Ls (.int (x * y) :: st))) : own_Go p e below P T (mkF m pc Ls (.int y :: .int x :: st)) :=
  own_go (fun _ q => XS.imul X.here hx rfl hd rfl q) kk
theorem og_ior (X : Stand p l e R s m args below meth c T locs cells slots) (hx : p.tables.exec = Jvm.exec) {x y : Int32} (hd : decode c.code pc = .ok (.ior, 1)) (kk : own_Go p e below P T (mkF m (pc + 1) Ls (.int (x ||| y) :: st))) : own_Go p e below P T (mkF m pc Ls (.int y :: .int x :: st)) :=
  own_go (fun _ q => XS.ior X.here hx rfl hd rfl q) kk
theorem og_ixor (X : Stand p l e R s m args below meth c T locs cells slots) (hx : p.tables.exec = Jvm.exec) {x y : Int32} (hd : decode c.code pc = .ok (.ixor, 1)) (kk : own_Go p e below P T (mkF m (pc + 1) Ls (.int (x ^^^ y) :: st))) : own_Go p e below P T (mkF m pc Ls (.int y :: .int x :: st)) :=
  own_go (fun _ q => XS.ixor X.here hx rfl hd rfl q) kk
theorem og_dup (X : Stand p l e R s m args below meth c T locs cells slots) (hx : p.tables.exec = Jvm.exec) {x : Value} (hd : decode c.code pc = .ok (.dup, 1)) (hc : x.category = 1) (kk : own_Go p e below P T (mkF m (pc + 1) Ls (x :: x :: st))) : own_Go p e below P T (mkF m pc Ls (x :: st)) :=
  own_go (fun _ q => XS.dup X.here hx rfl hd rfl hc q) kk
theorem og_pop (X : Stand p l e R s m args below meth c T locs cells slots) (hx : p.tables.exec = Jvm.exec) {x : Value} (hd : decode c.code pc = .ok (.pop, 1)) (hc : x.category = 1) (kk : own_Go p e below P T (mkF m (pc + 1) Ls st)) : own_Go p e below P T (mkF m pc Ls (x :: st)) :=
  own_go (fun _ q => XS.pop X.here hx rfl hd rfl hc q) kk
theorem og_goto (X : Stand p l e R s m args below meth c T locs cells slots) (hx : p.tables.exec = Jvm.exec) {o : Int} (pc' : Nat) (hd : decode c.code pc = .ok (.goto o, 3)) (ho : 0 ≤ (pc : Int) + o) (hp : ((pc : Int) + o).toNat = pc') (kk : own_Go p e below P T (mkF m pc' Ls st)) : own_Go p e below P T (mkF m pc Ls st) :=
  own_go (fun _ q => XS.goto X.here hx rfl rfl hd ho hp q) kk
theorem og_ifN (X : Stand p l e R s m args below meth c T locs cells slots) (hx : p.tables.exec = Jvm.exec) {cd : ClassFile.Cond} {o : Int} {x : Int32} (hd : decode c.code pc = .ok (.ifCond cd o, 3)) (hc : if_icmp.holds cd x 0 = false) (kk : own_Go p e below P T (mkF m (pc + 3) Ls st)) : own_Go p e below P T (mkF m pc Ls (.int x :: st)) :=
  own_go (fun _ q => XS.ifNo X.here hx rfl hd rfl ((if0 _ _).trans hc) q) kk
theorem og_ifY (X : Stand p l e R s m args below meth c T locs cells slots) (hx : p.tables.exec = Jvm.exec) {cd : ClassFile.Cond} {o : Int} {x : Int32} (pc' : Nat) (hd : decode c.code pc = .ok (.ifCond cd o, 3)) (hc : if_icmp.holds cd x 0 = true) (ho : 0 ≤ (pc : Int) + o) (hp : ((pc : Int) + o).toNat = pc') (kk : own_Go p e below P T (mkF m pc' Ls st)) : own_Go p e below P T (mkF m pc Ls (.int x :: st)) :=
  own_go (fun _ q => XS.ifYes X.here hx rfl rfl hd rfl ((if0 _ _).trans hc) ho hp q) kk
theorem og_icN (X : Stand p l e R s m args below meth c T locs cells slots) (hx : p.tables.exec = Jvm.exec) {cd : ClassFile.Cond} {o : Int} {x y : Int32} (hd : decode c.code pc = .ok (.if_icmp cd o, 3)) (hc : if_icmp.holds cd x y = false) (kk : own_Go p e below P T (mkF m (pc + 3) Ls st)) : own_Go p e below P T (mkF m pc Ls (.int y :: .int x :: st)) :=
  own_go (fun _ q => XS.icmpNo X.here hx rfl hd rfl hc q) kk
theorem og_icY (X : Stand p l e R s m args below meth c T locs cells slots) (hx : p.tables.exec = Jvm.exec) {cd : ClassFile.Cond} {o : Int} {x y : Int32} (pc' : Nat) (hd : decode c.code pc = .ok (.if_icmp cd o, 3)) (hc : if_icmp.holds cd x y = true) (ho : 0 ≤ (pc : Int) + o) (hp : ((pc : Int) + o).toNat = pc') (kk : own_Go p e below P T (mkF m pc' Ls st)) : own_Go p e below P T (mkF m pc Ls (.int y :: .int x :: st)) :=
  own_go (fun _ q => XS.icmpYes X.here hx rfl rfl hd rfl hc ho hp q) kk
theorem og_ifnullY (X : Stand p l e R s m args below meth c T locs cells slots) (hx : p.tables.exec = Jvm.exec) {o : Int} (pc' : Nat) (hd : decode c.code pc = .ok (.ifnull o, 3)) (ho : 0 ≤ (pc : Int) + o) (hp : ((pc : Int) + o).toNat = pc') (kk : own_Go p e below P T (mkF m pc' Ls st)) : own_Go p e below P T (mkF m pc Ls (.null :: st)) :=
  own_go (fun _ q => XS.ifnullYes X.here hx rfl rfl hd rfl ho hp q) kk
theorem og_ifnullN (X : Stand p l e R s m args below meth c T locs cells slots) (hx : p.tables.exec = Jvm.exec) {b : Addr} {o : Int} (hd : decode c.code pc = .ok (.ifnull o, 3)) (kk : own_Go p e below P T (mkF m (pc + 3) Ls st)) : own_Go p e below P T (mkF m pc Ls (.ref b :: st)) :=
  own_go (fun _ q => XS.ifnullNo X.here hx rfl hd rfl q) kk
theorem og_ifnonnullY (X : Stand p l e R s m args below meth c T locs cells slots) (hx : p.tables.exec = Jvm.exec) {b : Addr} {o : Int} (pc' : Nat) (hd : decode c.code pc = .ok (.ifnonnull o, 3)) (ho : 0 ≤ (pc : Int) + o) (hp : ((pc : Int) + o).toNat = pc') (kk : own_Go p e below P T (mkF m pc' Ls st)) : own_Go p e below P T (mkF m pc Ls (.ref b :: st)) :=
  own_go (fun _ q => XS.ifnonnullYes X.here hx rfl rfl hd rfl ho hp q) kk
theorem og_ifnonnullN (X : Stand p l e R s m args below meth c T locs cells slots) (hx : p.tables.exec = Jvm.exec) {o : Int} (hd : decode c.code pc = .ok (.ifnonnull o, 3)) (kk : own_Go p e below P T (mkF m (pc + 3) Ls st)) : own_Go p e below P T (mkF m pc Ls (.null :: st)) :=
  own_go (fun _ q => XS.ifnonnullNo X.here hx rfl hd rfl q) kk
theorem og_getF (X : Stand p l e R s m args below meth c T locs cells slots) (hx : p.tables.exec = Jvm.exec) (hZ : Z.Warmed39 s.vm) {own R0 O n d : String} {index : Nat} (hown : s.vm.findClass own = some m.cls) (w : (Jvm.Cond.fieldLink own index R0 n d).before a0 Z = true) (via : Via Z R0 O n d) (eT : T.heap = h) {a : Addr} {v : Value} (F : Fld Z h a O n d v) (hd : decode c.code pc = .ok (.getfield index, 3))
    (kk : ∀ T', Stand p l e R s m args below meth c T' locs cells slots → T'.heap = h → own_Go p e below P T' (mkF m (pc + 3) Ls (v :: st))) : own_Go p e below P T (mkF m pc Ls (.ref a :: st)) := by
  obtain ⟨T', X', e', stp⟩ := getF X hx hZ hown (host := "") (Or.inl w) via eT F (g := mkF m pc Ls (.ref a :: st)) rfl rfl hd
  exact own_go stp (kk T' X' e')
theorem og_getS (X : Stand p l e R s m args below meth c T locs cells slots) (hx : p.tables.exec = Jvm.exec) (hZ : Z.Warmed39 s.vm) {own R0 O n d : String} {index : Nat} (hown : s.vm.findClass own = some m.cls) (w : (Jvm.Cond.fieldLink own index R0 n d).before a0 Z = true) (via : Via Z R0 O n d) (eT : T.heap = h) {v : Value} (F : Sta Z h O n d v) (hd : decode c.code pc = .ok (.getstatic index, 3))
    (kk : ∀ T', Stand p l e R s m args below meth c T' locs cells slots → T'.heap = h → own_Go p e below P T' (mkF m (pc + 3) Ls (v :: st))) : own_Go p e below P T (mkF m pc Ls st) := by
  obtain ⟨T', X', e', stp⟩ := getS2 X hx hZ hown (host := "") (Or.inl w) via eT F (g := mkF m pc Ls st) rfl hd
  exact own_go stp (kk T' X' e')
theorem og_ldcI (X : Stand p l e R s m args below meth c T locs cells slots) (hx : p.tables.exec = Jvm.exec) (hZ : Z.Warmed39 s.vm) {own : String} {index : Nat} {v : Int32} (hown : s.vm.findClass own = some m.cls) (w : (Jvm.Cond.constant own index v).before a0 Z = true) (hd : decode c.code pc = .ok (.ldc index, 2)) (kk : own_Go p e below P T (mkF m (pc + 2) Ls (.int v :: st))) : own_Go p e below P T (mkF m pc Ls st) :=
  own_go (fun _ q => X.ldcI hx hown (mvT hZ w) rfl hd q) kk
theorem og_iremM (X : Stand p l e R s m args below meth c T locs cells slots) (hx : p.tables.exec = Jvm.exec) {x y : Int32} (hd : decode c.code pc = .ok (.irem, 1)) (hy : y ≠ 0) (kk : own_Go p e below P T (mkF m (pc + 1) Ls (.int (x % y) :: st))) : own_Go p e below P T (mkF m pc Ls (.int y :: .int x :: st)) :=
  own_go (fun _ q => iremM X hx rfl hd rfl hy q) kk
theorem og_acmp (X : Stand p l e R s m args below meth c T locs cells slots) (hx : p.tables.exec = Jvm.exec) {cd : ACond} {x y : Value} {o : Int} {pc' : Nat} {same : Bool} (h1 : x.isRef = true) (h2 : y.isRef = true) (hd : decode c.code pc = .ok (.if_acmp cd o, 3)) (hq : decide (x = y) = same) (ho : 0 ≤ (pc : Int) + o) (hp : pc' = if acV cd same = true then ((pc : Int) + o).toNat else pc + 3)
    (kk : own_Go p e below P T (mkF m pc' Ls st)) : own_Go p e below P T (mkF m pc Ls (y :: x :: st)) :=
  own_go (fun _ q => Jvm.RoadKit.acmp (g := mkF m pc Ls (y :: x :: st)) X hx rfl h1 h2 rfl hd rfl hq ho hp q) kk
end Og
/-! the calls: by a Back (..B), or by a body's own contract -/
theorem own_callSB (X : Stand p l e R s m args below meth c T locs cells slots) (hx : p.tables.exec = Jvm.exec) (hZ : Z.Warmed39 s.vm) {own : String} {index : Nat} {y : MethodName} {bytes : ByteArray} {maxL : Nat} {ret : Option FieldType} (hown : s.vm.findClass own = some m.cls)
    (w1 : (Jvm.Cond.methodLink own index y).before a0 Z = true) (w2 : (Jvm.Cond.static y).before a0 Z = true) (w3 : (Jvm.Cond.initialized y.cls).before a0 Z = true) (w4 : (Jvm.Cond.code y bytes maxL ret).before a0 Z = true) (hy : y.cls ≠ "java/lang/invoke/MethodHandle" ∧ y.cls ≠ "java/lang/invoke/VarHandle")
    {argsL rest : List Value} {Q : Option Value → Heap → List Loc → Prop} {kc kn W : Nat} (hK : Back l R p e below s args y 3 W (fun A a => a = (argsL).toArray ∧ A.U.heap = h ∧ A.cells + kc ≤ R.cells ∧ A.slots + kn ≤ R.slots) (fun A _ v B => ∃ L, Q v B.U.heap L ∧ B.locs = A.locs ++ L ∧ B.cells = A.cells + kc ∧ B.slots = A.slots + kn)) (eT : T.heap = h) {pc : Nat} {Ls : Array Slot} {st : List Value} (hsize : Ls.size = c.maxLocals)
    (hlen : ∀ sig, parseMethodDescriptor y.desc = some sig → argsL.length = sig.parameters.length) (hstack : st = argsL.reverse ++ rest) (hd : decode c.code pc = .ok (.invokestatic index, 3)) (hW : (rest.map fun v => v.category).sum ≤ W) (hc : cells + kc ≤ R.cells) (hs : slots + kn ≤ R.slots)
    (k : ∀ (v : Option Value) (T' : State) (L : List Loc), Stand p l e R s m args below meth c T' (locs ++ L) (cells + kc) (slots + kn) → Q v T'.heap L → own_Go p e below P T' (mkF m (pc + 3) Ls (v.toList ++ rest))) : own_Go p e below P T (mkF m pc Ls st) := by
  obtain ⟨v, _, ⟨T', L', k', n'⟩, -, X', ⟨Lc, hQ, l1, y1, z1⟩, stp⟩ := Jvm.LawKit.callS X hx (y := y) hown (mvT hZ w1) (mvT hZ w2) (mvT hZ w3) (mvT hZ w4) hy hK (g := mkF m pc Ls st) rfl hsize (argsL := argsL) (rest := rest) hlen hstack (by show 2 * 0 + _ ≤ _; omega) hd (fun _ _ => ⟨rfl, eT, hc, hs⟩)
  dsimp only [Pt.U, Pt.locs, Pt.cells, Pt.slots] at X' l1 y1 z1 stp hQ
  subst l1 y1 z1
  exact own_go stp (k v T' Lc X' hQ)
theorem own_callS (X : Stand p l e R s m args below meth c T locs cells slots) (hx : p.tables.exec = Jvm.exec) (hZ : Z.Warmed39 s.vm) {own : String} {index : Nat} {y : MethodName} {bytes : ByteArray} {maxL : Nat} {ret : Option FieldType} (hown : s.vm.findClass own = some m.cls)
    (w1 : (Jvm.Cond.methodLink own index y).before a0 Z = true) (w2 : (Jvm.Cond.static y).before a0 Z = true) (w3 : (Jvm.Cond.initialized y.cls).before a0 Z = true) (w4 : (Jvm.Cond.code y bytes maxL ret).before a0 Z = true) (hy : y.cls ≠ "java/lang/invoke/MethodHandle" ∧ y.cls ≠ "java/lang/invoke/VarHandle")
    {argsL rest : List Value} {rm : Room} {Q : Option Value → Heap → List Loc → Prop} (hM : own_Met l Z y bytes maxL ret rm (argsL).toArray h Q) (eT : T.heap = h) {pc : Nat} {Ls : Array Slot} {st : List Value} (hsize : Ls.size = c.maxLocals)
    (hlen : ∀ sig, parseMethodDescriptor y.desc = some sig → argsL.length = sig.parameters.length) (hstack : st = argsL.reverse ++ rest) (hd : decode c.code pc = .ok (.invokestatic index, 3)) {W : Nat} (hW : (rest.map fun v => v.category).sum ≤ W) (h4 : rm.frames + 1 ≤ R.frames ∧ W + (maxL + 11) + rm.locals ≤ R.locals ∧ cells + rm.cells ≤ R.cells ∧ slots + rm.slots ≤ R.slots)
    (k : ∀ (v : Option Value) (T' : State) (L : List Loc), Stand p l e R s m args below meth c T' (locs ++ L) (cells + rm.cells) (slots + rm.slots) → Q v T'.heap L → own_Go p e below P T' (mkF m (pc + 3) Ls (v.toList ++ rest))) : own_Go p e below P T (mkF m pc Ls st) :=
  own_callSB X hx hZ hown w1 w2 w3 w4 hy (backOf (W := W) (hM []) hZ w4 w3 h4.1 h4.2.1) eT hsize hlen hstack hd hW h4.2.2.1 h4.2.2.2 k
theorem own_callVB (X : Stand p l e R s m args below meth c T locs cells slots) (hx : p.tables.exec = Jvm.exec) (hZ : Z.Warmed39 s.vm) {own C : String} {index : Nat} {y z : MethodName} {bytes : ByteArray} {maxL : Nat} {ret : Option FieldType} (hown : s.vm.findClass own = some m.cls)
    (w1 : (Jvm.Cond.methodLink own index y).before a0 Z = true) (w2 : (Jvm.Cond.declares y).before a0 Z = true) (nf : NotFace s y) (w3 : (Jvm.Cond.selects C y z).before a0 Z = true) (w4 : (Jvm.Cond.instanceMethod z).before a0 Z = true) (w5 : (Jvm.Cond.code z bytes maxL ret).before a0 Z = true) (w6 : (Jvm.Cond.initialized z.cls).before a0 Z = true) (hy : y.cls ≠ "java/lang/invoke/MethodHandle" ∧ y.cls ≠ "java/lang/invoke/VarHandle")
    {b : Addr} {argsL rest : List Value} {Q : Option Value → Heap → List Loc → Prop} {kc kn W : Nat} (hK : Back l R p e below s args z 3 W (fun A a => a = (.ref b :: argsL).toArray ∧ A.U.heap = h ∧ A.cells + kc ≤ R.cells ∧ A.slots + kn ≤ R.slots) (fun A _ v B => ∃ L, Q v B.U.heap L ∧ B.locs = A.locs ++ L ∧ B.cells = A.cells + kc ∧ B.slots = A.slots + kn)) (eT : T.heap = h) (E : Exa Z h b C) {pc : Nat} {Ls : Array Slot} {st : List Value} (hsize : Ls.size = c.maxLocals)
    (hlen : ∀ sig, parseMethodDescriptor y.desc = some sig → argsL.length = sig.parameters.length) (hstack : st = argsL.reverse ++ .ref b :: rest) (hd : decode c.code pc = .ok (.invokevirtual index, 3)) (hW : (rest.map fun v => v.category).sum ≤ W) (hc : cells + kc ≤ R.cells) (hs : slots + kn ≤ R.slots)
    (k : ∀ (v : Option Value) (T' : State) (L : List Loc), Stand p l e R s m args below meth c T' (locs ++ L) (cells + kc) (slots + kn) → Q v T'.heap L → own_Go p e below P T' (mkF m (pc + 3) Ls (v.toList ++ rest))) : own_Go p e below P T (mkF m pc Ls st) := by
  obtain ⟨cq, kq, qa, qb, qc⟩ := isOf hZ eT E
  obtain ⟨v, _, ⟨T', L', k', n'⟩, -, X', ⟨Lc, hQ, l1, y1, z1⟩, stp⟩ := X.virtualBack hx (y := y) (z := z) hown (mvT hZ w1) (mvT hZ w2) nf (mvT hZ w3) (mvT hZ w4) hy hK qa qc (g := mkF m pc Ls st) rfl hsize (Steps.refl _) (argsL := argsL) (rest := rest) hlen hstack (by show 2 * 0 + _ ≤ _; omega) hd (fun _ _ => ⟨rfl, eT, hc, hs⟩)
  dsimp only [Pt.U, Pt.locs, Pt.cells, Pt.slots] at X' l1 y1 z1 stp hQ
  subst l1 y1 z1
  exact own_go (fun _ q => stp.trans q) (k v T' Lc X' hQ)
theorem own_callV (X : Stand p l e R s m args below meth c T locs cells slots) (hx : p.tables.exec = Jvm.exec) (hZ : Z.Warmed39 s.vm) {own C : String} {index : Nat} {y z : MethodName} {bytes : ByteArray} {maxL : Nat} {ret : Option FieldType} (hown : s.vm.findClass own = some m.cls)
    (w1 : (Jvm.Cond.methodLink own index y).before a0 Z = true) (w2 : (Jvm.Cond.declares y).before a0 Z = true) (nf : NotFace s y) (w3 : (Jvm.Cond.selects C y z).before a0 Z = true) (w4 : (Jvm.Cond.instanceMethod z).before a0 Z = true) (w5 : (Jvm.Cond.code z bytes maxL ret).before a0 Z = true) (w6 : (Jvm.Cond.initialized z.cls).before a0 Z = true) (hy : y.cls ≠ "java/lang/invoke/MethodHandle" ∧ y.cls ≠ "java/lang/invoke/VarHandle")
    {b : Addr} {argsL rest : List Value} {rm : Room} {Q : Option Value → Heap → List Loc → Prop} (hM : own_Met l Z z bytes maxL ret rm (.ref b :: argsL).toArray h Q) (eT : T.heap = h) (E : Exa Z h b C) {pc : Nat} {Ls : Array Slot} {st : List Value} (hsize : Ls.size = c.maxLocals)
    (hlen : ∀ sig, parseMethodDescriptor y.desc = some sig → argsL.length = sig.parameters.length) (hstack : st = argsL.reverse ++ .ref b :: rest) (hd : decode c.code pc = .ok (.invokevirtual index, 3)) {W : Nat} (hW : (rest.map fun v => v.category).sum ≤ W) (h4 : rm.frames + 1 ≤ R.frames ∧ W + (maxL + 11) + rm.locals ≤ R.locals ∧ cells + rm.cells ≤ R.cells ∧ slots + rm.slots ≤ R.slots)
    (k : ∀ (v : Option Value) (T' : State) (L : List Loc), Stand p l e R s m args below meth c T' (locs ++ L) (cells + rm.cells) (slots + rm.slots) → Q v T'.heap L → own_Go p e below P T' (mkF m (pc + 3) Ls (v.toList ++ rest))) : own_Go p e below P T (mkF m pc Ls st) :=
  own_callVB X hx hZ hown w1 w2 nf w3 w4 w5 w6 hy (backOf (W := W) (hM []) hZ w5 w6 h4.1 h4.2.1) eT E hsize hlen hstack hd hW h4.2.2.1 h4.2.2.2 k
theorem own_callUB (X : Stand p l e R s m args below meth c T locs cells slots) (hx : p.tables.exec = Jvm.exec) (hZ : Z.Warmed39 s.vm) {own C owner : String} {index : Nat} {y z : MethodName} {bytes : ByteArray} {maxL : Nat} {ret : Option FieldType} (hown : s.vm.findClass own = some m.cls)
    (w1 : (Jvm.Cond.methodLink own index y).before a0 Z = true) (ws : (Jvm.Cond.sameMethod y.cls owner y.name y.desc).before a0 Z = true) (w2 : (Jvm.Cond.declares ⟨owner, y.name, y.desc⟩).before a0 Z = true) (ho : owner ≠ "java/lang/invoke/MethodHandle" ∧ owner ≠ "java/lang/invoke/VarHandle")
    (w3 : (Jvm.Cond.selects C y z).before a0 Z = true) (w4 : (Jvm.Cond.instanceMethod z).before a0 Z = true) (w5 : (Jvm.Cond.code z bytes maxL ret).before a0 Z = true) (w6 : (Jvm.Cond.initialized z.cls).before a0 Z = true)
    {b : Addr} {argsL rest : List Value} {Q : Option Value → Heap → List Loc → Prop} {kc kn W : Nat} (hK : Back l R p e below s args z 3 W (fun A a => a = (.ref b :: argsL).toArray ∧ A.U.heap = h ∧ A.cells + kc ≤ R.cells ∧ A.slots + kn ≤ R.slots) (fun A _ v B => ∃ L, Q v B.U.heap L ∧ B.locs = A.locs ++ L ∧ B.cells = A.cells + kc ∧ B.slots = A.slots + kn)) (eT : T.heap = h) (E : Exa Z h b C) {pc : Nat} {Ls : Array Slot} {st : List Value} (hsize : Ls.size = c.maxLocals)
    (hlen : ∀ sig, parseMethodDescriptor y.desc = some sig → argsL.length = sig.parameters.length) (hstack : st = argsL.reverse ++ .ref b :: rest) (hd : decode c.code pc = .ok (.invokevirtual index, 3)) (hW : (rest.map fun v => v.category).sum ≤ W) (hc : cells + kc ≤ R.cells) (hs : slots + kn ≤ R.slots)
    (k : ∀ (v : Option Value) (T' : State) (L : List Loc), Stand p l e R s m args below meth c T' (locs ++ L) (cells + kc) (slots + kn) → Q v T'.heap L → own_Go p e below P T' (mkF m (pc + 3) Ls (v.toList ++ rest))) : own_Go p e below P T (mkF m pc Ls st) := by
  obtain ⟨cq, kq, qa, qb, qc⟩ := isOf hZ eT E
  obtain ⟨v, _, ⟨T', L', k', n'⟩, -, X', ⟨Lc, hQ, l1, y1, z1⟩, stp⟩ := X.virtualBackUp hx (x := y) (y := z) (owner := owner) hown (mvT hZ w1) (mvT hZ ws) (mvT hZ w2) ho (mvT hZ w3) (mvT hZ w4) hK qa qc (g := mkF m pc Ls st) rfl hsize (Steps.refl _) (argsL := argsL) (rest := rest) hlen hstack (by show 2 * 0 + _ ≤ _; omega) hd (fun _ _ => ⟨rfl, eT, hc, hs⟩)
  dsimp only [Pt.U, Pt.locs, Pt.cells, Pt.slots] at X' l1 y1 z1 stp hQ
  subst l1 y1 z1
  exact own_go (fun _ q => stp.trans q) (k v T' Lc X' hQ)
theorem own_callU (X : Stand p l e R s m args below meth c T locs cells slots) (hx : p.tables.exec = Jvm.exec) (hZ : Z.Warmed39 s.vm) {own C owner : String} {index : Nat} {y z : MethodName} {bytes : ByteArray} {maxL : Nat} {ret : Option FieldType} (hown : s.vm.findClass own = some m.cls)
    (w1 : (Jvm.Cond.methodLink own index y).before a0 Z = true) (ws : (Jvm.Cond.sameMethod y.cls owner y.name y.desc).before a0 Z = true) (w2 : (Jvm.Cond.declares ⟨owner, y.name, y.desc⟩).before a0 Z = true) (ho : owner ≠ "java/lang/invoke/MethodHandle" ∧ owner ≠ "java/lang/invoke/VarHandle")
    (w3 : (Jvm.Cond.selects C y z).before a0 Z = true) (w4 : (Jvm.Cond.instanceMethod z).before a0 Z = true) (w5 : (Jvm.Cond.code z bytes maxL ret).before a0 Z = true) (w6 : (Jvm.Cond.initialized z.cls).before a0 Z = true)
    {b : Addr} {argsL rest : List Value} {rm : Room} {Q : Option Value → Heap → List Loc → Prop} (hM : own_Met l Z z bytes maxL ret rm (.ref b :: argsL).toArray h Q) (eT : T.heap = h) (E : Exa Z h b C) {pc : Nat} {Ls : Array Slot} {st : List Value} (hsize : Ls.size = c.maxLocals)
    (hlen : ∀ sig, parseMethodDescriptor y.desc = some sig → argsL.length = sig.parameters.length) (hstack : st = argsL.reverse ++ .ref b :: rest) (hd : decode c.code pc = .ok (.invokevirtual index, 3)) {W : Nat} (hW : (rest.map fun v => v.category).sum ≤ W) (h4 : rm.frames + 1 ≤ R.frames ∧ W + (maxL + 11) + rm.locals ≤ R.locals ∧ cells + rm.cells ≤ R.cells ∧ slots + rm.slots ≤ R.slots)
    (k : ∀ (v : Option Value) (T' : State) (L : List Loc), Stand p l e R s m args below meth c T' (locs ++ L) (cells + rm.cells) (slots + rm.slots) → Q v T'.heap L → own_Go p e below P T' (mkF m (pc + 3) Ls (v.toList ++ rest))) : own_Go p e below P T (mkF m pc Ls st) :=
  own_callUB X hx hZ hown w1 ws w2 ho w3 w4 w5 w6 (backOf (W := W) (hM []) hZ w5 w6 h4.1 h4.2.1) eT E hsize hlen hstack hd hW h4.2.2.1 h4.2.2.2 k
theorem own_callNB (X : Stand p l e R s m args below meth c T locs cells slots) (hx : p.tables.exec = Jvm.exec) (hZ : Z.Warmed39 s.vm) {own : String} {index : Nat} {y : MethodName} {bytes : ByteArray} {maxL : Nat} (hown : s.vm.findClass own = some m.cls)
    (w1 : (Jvm.Cond.methodLink own index y).before a0 Z = true) (w2 : (Jvm.Cond.instanceMethod y).before a0 Z = true) (w4 : (Jvm.Cond.code y bytes maxL none).before a0 Z = true) (w3 : (Jvm.Cond.initialized y.cls).before a0 Z = true) (hy : y.cls ≠ "java/lang/invoke/MethodHandle" ∧ y.cls ≠ "java/lang/invoke/VarHandle") (hn : y.name = "<init>")
    {b : Addr} {argsL rest : List Value} {Q : Option Value → Heap → List Loc → Prop} {kc kn W : Nat} (hK : Back l R p e below s args y 3 W (fun A a => a = (.ref b :: argsL).toArray ∧ A.U.heap = h ∧ A.cells + kc ≤ R.cells ∧ A.slots + kn ≤ R.slots) (fun A _ v B => ∃ L, Q v B.U.heap L ∧ B.locs = A.locs ++ L ∧ B.cells = A.cells + kc ∧ B.slots = A.slots + kn)) (eT : T.heap = h) {pc : Nat} {Ls : Array Slot} {st : List Value} (hsize : Ls.size = c.maxLocals)
    (hlen : ∀ sig, parseMethodDescriptor y.desc = some sig → argsL.length = sig.parameters.length) (hstack : st = argsL.reverse ++ .ref b :: rest) (hd : decode c.code pc = .ok (.invokespecial index, 3)) (hW : (rest.map fun v => v.category).sum ≤ W) (hc : cells + kc ≤ R.cells) (hs : slots + kn ≤ R.slots)
    (k : ∀ (v : Option Value) (T' : State) (L : List Loc), Stand p l e R s m args below meth c T' (locs ++ L) (cells + kc) (slots + kn) → Q v T'.heap L → own_Go p e below P T' (mkF m (pc + 3) Ls (v.toList ++ rest))) : own_Go p e below P T (mkF m pc Ls st) := by
  obtain ⟨v, _, ⟨T', L', k', n'⟩, -, X', ⟨Lc, hQ, l1, y1, z1⟩, stp⟩ := X.specialBack hx (y := y) hn hown (mvT hZ w1) (mvT hZ w2) (mvT hZ w4) hy hK (g := mkF m pc Ls st) rfl hsize (Steps.refl _) (a := b) (argsL := argsL) (rest := rest) hlen hstack (by show 2 * 0 + _ ≤ _; omega) hd (fun _ _ => ⟨rfl, eT, hc, hs⟩)
  dsimp only [Pt.U, Pt.locs, Pt.cells, Pt.slots] at X' l1 y1 z1 stp hQ
  subst l1 y1 z1
  exact own_go (fun _ q => stp.trans q) (k v T' Lc X' hQ)
theorem own_callN (X : Stand p l e R s m args below meth c T locs cells slots) (hx : p.tables.exec = Jvm.exec) (hZ : Z.Warmed39 s.vm) {own : String} {index : Nat} {y : MethodName} {bytes : ByteArray} {maxL : Nat} (hown : s.vm.findClass own = some m.cls)
    (w1 : (Jvm.Cond.methodLink own index y).before a0 Z = true) (w2 : (Jvm.Cond.instanceMethod y).before a0 Z = true) (w4 : (Jvm.Cond.code y bytes maxL none).before a0 Z = true) (w3 : (Jvm.Cond.initialized y.cls).before a0 Z = true) (hy : y.cls ≠ "java/lang/invoke/MethodHandle" ∧ y.cls ≠ "java/lang/invoke/VarHandle") (hn : y.name = "<init>")
    {b : Addr} {argsL rest : List Value} {rm : Room} {Q : Option Value → Heap → List Loc → Prop} (hM : own_Met l Z y bytes maxL none rm (.ref b :: argsL).toArray h Q) (eT : T.heap = h) {pc : Nat} {Ls : Array Slot} {st : List Value} (hsize : Ls.size = c.maxLocals)
    (hlen : ∀ sig, parseMethodDescriptor y.desc = some sig → argsL.length = sig.parameters.length) (hstack : st = argsL.reverse ++ .ref b :: rest) (hd : decode c.code pc = .ok (.invokespecial index, 3)) {W : Nat} (hW : (rest.map fun v => v.category).sum ≤ W) (h4 : rm.frames + 1 ≤ R.frames ∧ W + (maxL + 11) + rm.locals ≤ R.locals ∧ cells + rm.cells ≤ R.cells ∧ slots + rm.slots ≤ R.slots)
    (k : ∀ (v : Option Value) (T' : State) (L : List Loc), Stand p l e R s m args below meth c T' (locs ++ L) (cells + rm.cells) (slots + rm.slots) → Q v T'.heap L → own_Go p e below P T' (mkF m (pc + 3) Ls (v.toList ++ rest))) : own_Go p e below P T (mkF m pc Ls st) :=
  own_callNB X hx hZ hown w1 w2 w4 w3 hy hn (backOf (W := W) (hM []) hZ w4 w3 h4.1 h4.2.1) eT hsize hlen hstack hd hW h4.2.2.1 h4.2.2.2 k
/-- answers w, writes nothing old, leaves the heap as it was -/
def own_Qv (w : Option Value) (h0 : Heap) (n0 : Nat) (v : Option Value) (h : Heap) (L : List Loc) : Prop := v = w ∧ Fr n0 L ∧ h = h0
/-- the law's own: it answers 1 and writes nothing old -/
def own_Q1 (n0 : Nat) (v : Option Value) (h : Heap) (L : List Loc) : Prop := v = some (.int 1) ∧ Fr n0 L
theorem own_fldI {t : Term} {C n d : String} {a : Addr} {k : Int32} (ev : t.eval args Z none [] Z = some (.ref a)) (hx : (Jvm.Cond.eq (.field t C n d) (.int k)).value args Z none Z [] = some true) : Fld Z Z.heap a C n d (.int k) := by
  obtain ⟨x, y, h1, h2, k1, k2⟩ := cmp_v (Or.inl hx)
  have h2' : y = .int k := (Option.some.inj (h2.symm.trans (Term.int_eval k)))
  subst h2'
  obtain ⟨z, rfl⟩ : ∃ z, x = .int z := k2
  have hz : z = k := by simpa [Jvm.Cond.value, h1, h2] using hx
  subst hz
  exact Fld.start ((fld_at ev).symm.trans h1)
theorem own_fldN {t : Term} {C n d : String} {a : Addr} (ev : t.eval args Z none [] Z = some (.ref a)) (hx : (Jvm.Cond.eq (.field t C n d) .null).value args Z none Z [] = some true) : Fld Z Z.heap a C n d .null :=
  Fld.start ((fld_at ev).symm.trans (null_v hx))
theorem own_fldR {t : Term} {C n d : String} {a : Addr} (ev : t.eval args Z none [] Z = some (.ref a)) (hx : (Jvm.Cond.not (.eq (.field t C n d) .null)).value args Z none Z [] = some true) : ∃ b, Fld Z Z.heap a C n d (.ref b) := by
  obtain ⟨b, hb⟩ := nn_v (not_v hx)
  exact ⟨b, Fld.start ((fld_at ev).symm.trans hb)⟩
theorem own_fldX {t : Term} {C n d K : String} {a : Addr} (ev : t.eval args Z none [] Z = some (.ref a)) (hx : (Jvm.Cond.exactly (.field t C n d) K).value args Z none Z [] = some true) : ∃ b, (Term.field t C n d).eval args Z none [] Z = some (.ref b) ∧ Fld Z Z.heap a C n d (.ref b) ∧ Exa Z Z.heap b K := by
  obtain ⟨b, hb⟩ := exa_v hx
  exact ⟨b, hb, Fld.start ((fld_at ev).symm.trans hb), Exa.start hb hx⟩
theorem own_fldE {t t' : Term} {C n d : String} {a b : Addr} (ev : t.eval args Z none [] Z = some (.ref a)) (h2 : t'.eval args Z none [] Z = some (.ref b)) (hx : (Jvm.Cond.eq (.field t C n d) t').value args Z none Z [] = some true) : Fld Z Z.heap a C n d (.ref b) := by
  obtain ⟨x, y, h1, h2', k1, k2⟩ := cmp_v (Or.inl hx)
  cases h2.symm.trans h2'
  have k3 : x.isRef = true := k2.2
  have hz : x = .ref b := gotT (eq_R h1 h2 k3 rfl) hx
  subst hz
  exact Fld.start ((fld_at ev).symm.trans h1)
end Own
section Own2
variable {p : Program} {l : Launch} {e : Env} {R : Room} {s : State} {m : MethodId} {args : Array Value} {below : List Frame} {meth : Method} {c : Code} {T T' : State} {locs : List Loc} {cells slots : Nat} {Z : State} {a0 : Array Value} {h : Heap} {P : Outcome → State → Prop} {a b : Addr} {pc : Nat} {Ls : Array Slot} {rest : List Value} {k : ClassId} {ty : FieldType} {n j : Int32} {vs : List Value} {dv v : Value}
theorem own_oldle {n0 : Nat} (O : Old Z n0 h) : n0 ≤ h.size := O.1 ▸ O.2.1
theorem own_newR (X : Stand p l e R s m args below meth c T locs cells slots) (hx : p.tables.exec = Jvm.exec) (hZ : Z.Warmed39 s.vm) {own C : String} {index : Nat} (hown : s.vm.findClass own = some m.cls) (w1 : (Jvm.Cond.classLink own index C).before a0 Z = true) (w2 : (Jvm.Cond.arrayOver (.object C)).before a0 Z = true) (eT : T.heap = h)
    (hd : decode c.code pc = .ok (.anewarray index, 3)) (hn : ¬ n < 0) (cap : Nat) (hcap : n.toNatClampNeg ≤ cap) (hb : cap * 8 ≤ 536870912) (hc : cells + 1 ≤ R.cells) (hl : slots + cap ≤ R.slots)
    (kk : ∀ (T' : State) (h' : Heap) (cA : ClassId) (b : Addr), b = h.size → Stand p l e R s m args below meth c T' locs (cells + 1) (slots + cap) → T'.heap = h' → Ext h h' → Arv Z h' b cA (.object C) n (List.replicate cap .null) .null → Ovr Z cA C → own_Go p e below P T' (mkF m (pc + 3) Ls (.ref b :: rest))) :
    own_Go p e below P T (mkF m pc Ls (.int n :: rest)) := by
  obtain ⟨T', h', cA, X', e', E, A, O, st⟩ := newR X hx hZ hown w1 w2 eT (g := mkF m pc Ls (.int n :: rest)) rfl hd rfl hn hcap hb hc hl
  exact own_go st (kk T' h' cA _ rfl X' e' E ((Arv.new A hn).pad (pad_rep [] .null cap)) O)
theorem own_newP (X : Stand p l e R s m args below meth c T locs cells slots) (hx : p.tables.exec = Jvm.exec) (hZ : Z.Warmed39 s.vm) {aty : ArrayType} (w : (Jvm.Cond.arrayClass (newarray.typeOf aty)).before a0 Z = true) (eT : T.heap = h)
    (hd : decode c.code pc = .ok (.newarray aty, 2)) (hn : ¬ n < 0) (cap : Nat) (hcap : n.toNatClampNeg ≤ cap) (hb : cap * 8 ≤ 536870912) (hc : cells + 1 ≤ R.cells) (hl : slots + cap ≤ R.slots)
    (kk : ∀ (T' : State) (h' : Heap) (cA : ClassId) (b : Addr), b = h.size → Stand p l e R s m args below meth c T' locs (cells + 1) (slots + cap) → T'.heap = h' → Ext h h' → Arv Z h' b cA (newarray.typeOf aty) n (List.replicate cap (defaultValue (newarray.typeOf aty))) (defaultValue (newarray.typeOf aty)) → own_Go p e below P T' (mkF m (pc + 2) Ls (.ref b :: rest))) :
    own_Go p e below P T (mkF m pc Ls (.int n :: rest)) := by
  obtain ⟨T', h', cA, X', e', E, A, st⟩ := newP X hx hZ w eT (g := mkF m pc Ls (.int n :: rest)) rfl hd rfl hn hcap hb hc hl
  exact own_go st (kk T' h' cA _ rfl X' e' E ((Arv.new A hn).pad (pad_rep [] _ cap)))
theorem own_newO (X : Stand p l e R s m args below meth c T locs cells slots) (hx : p.tables.exec = Jvm.exec) (hZ : Z.Warmed39 s.vm) {own C : String} {index n : Nat} {st : List Value} (hown : s.vm.findClass own = some m.cls) (w : (Jvm.Cond.classLink own index C).before a0 Z = true) (wi : (Jvm.Cond.instantiable C n).before a0 Z = true) (wz : (Jvm.Cond.initialized C).before a0 Z = true) (eT : T.heap = h)
    (hd : decode c.code pc = .ok (.new index, 3)) (hc : cells + 1 ≤ R.cells) (hl : slots + n ≤ R.slots)
    (kk : ∀ (T' : State) (h' : Heap) (b : Addr), b = h.size → Stand p l e R s m args below meth c T' locs (cells + 1) (slots + n) → T'.heap = h' → Ext h h' → Exa Z h' b C → (∀ {O nm d : String} {ty : FieldType}, Laid Z a0 C O nm d → parseFieldDescriptor d = some ty → Fld Z h' b O nm d (defaultValue ty)) → own_Go p e below P T' (mkF m (pc + 3) Ls (.ref b :: st))) :
    own_Go p e below P T (mkF m pc Ls st) := by
  obtain ⟨T', h', X', e', E, A, D, -, stp⟩ := newO X hx hZ hown w wi wz eT (g := mkF m pc Ls st) rfl hd hc hl
  exact own_go stp (kk T' h' _ rfl X' e' E A (fun {_ _ _ _} q r => D q r))
theorem own_stR (X : Stand p l e R s m args below meth c T locs cells slots) (hx : p.tables.exec = Jvm.exec) (hZ : Z.Warmed39 s.vm) {C : String} {y : Addr} (eT : T.heap = h) (A : Arv Z h b k (.object C) n vs dv) (O : Ovr Z k C) (I : Ins Z h y C true) (hj : ¬ j < 0 ∧ j < n) (i : Nat) (hi : j.toNatClampNeg = i) (hil : i < vs.length)
    (hd : decode c.code pc = .ok (.aastore, 1))
    (kk : ∀ (T' : State) (h' : Heap), Stand p l e R s m args below meth c T' (locs ++ [⟨b, j.toNatClampNeg⟩]) cells slots → T'.heap = h' → Wr h h' b j.toNatClampNeg (.ref y) → Arv Z h' b k (.object C) n (vs.set i (.ref y)) dv → own_Go p e below P T' (mkF m (pc + 1) Ls rest)) :
    own_Go p e below P T (mkF m pc Ls (.ref y :: .int j :: .ref b :: rest)) := by
  obtain ⟨cl, A1, q1, S, q3, H, G⟩ := A
  obtain ⟨T', h', X', e', W, st⟩ := stR X hx hZ eT A1 (j := j) (v := .ref y) (inb_of S hj) rfl (Sto.ofV A1 q1 O I) (g := mkF m pc Ls (.ref y :: .int j :: .ref b :: rest)) rfl rfl hd
  exact own_go st (kk T' h' X' e' W (Arv.set A1 q1 S q3 H G rfl W i hi hil))
theorem own_stC (X : Stand p l e R s m args below meth c T locs cells slots) (hx : p.tables.exec = Jvm.exec) (hZ : Z.Warmed39 s.vm) {x : Int32} (eT : T.heap = h) (A : Arv Z h b k .char n vs dv) (hj : ¬ j < 0 ∧ j < n) (i : Nat) (hi : j.toNatClampNeg = i) (hil : i < vs.length) (hd : decode c.code pc = .ok (.castore, 1))
    (kk : ∀ (T' : State) (h' : Heap), Stand p l e R s m args below meth c T' (locs ++ [⟨b, j.toNatClampNeg⟩]) cells slots → T'.heap = h' → Wr h h' b j.toNatClampNeg (.int (nar .char x)) → Arv Z h' b k .char n (vs.set i (.int (nar .char x))) dv → own_Go p e below P T' (mkF m (pc + 1) Ls rest)) :
    own_Go p e below P T (mkF m pc Ls (.int x :: .int j :: .ref b :: rest)) := by
  obtain ⟨cl, A1, q1, S, q3, H, G⟩ := A
  obtain ⟨T', h', X', e', W, st⟩ := stC X hx hZ eT A1 (j := j) (x := x) (inb_of S hj) (g := mkF m pc Ls (.int x :: .int j :: .ref b :: rest)) rfl rfl hd
  exact own_go st (kk T' h' X' e' W (Arv.set A1 q1 S q3 H G (fits_nar_char _) W i hi hil))
theorem own_stI (X : Stand p l e R s m args below meth c T locs cells slots) (hx : p.tables.exec = Jvm.exec) (hZ : Z.Warmed39 s.vm) {x : Int32} (eT : T.heap = h) (A : Arv Z h b k .int n vs dv) (hj : ¬ j < 0 ∧ j < n) (i : Nat) (hi : j.toNatClampNeg = i) (hil : i < vs.length) (hd : decode c.code pc = .ok (.iastore, 1))
    (kk : ∀ (T' : State) (h' : Heap), Stand p l e R s m args below meth c T' (locs ++ [⟨b, j.toNatClampNeg⟩]) cells slots → T'.heap = h' → Wr h h' b j.toNatClampNeg (.int x) → Arv Z h' b k .int n (vs.set i (.int x)) dv → own_Go p e below P T' (mkF m (pc + 1) Ls rest)) :
    own_Go p e below P T (mkF m pc Ls (.int x :: .int j :: .ref b :: rest)) := by
  obtain ⟨cl, A1, q1, S, q3, H, G⟩ := A
  obtain ⟨T', h', X', e', W, st⟩ := stI X hx hZ eT A1 (j := j) (x := x) (inb_of S hj) (g := mkF m pc Ls (.int x :: .int j :: .ref b :: rest)) rfl rfl hd
  exact own_go st (kk T' h' X' e' W (Arv.set A1 q1 S q3 H G rfl W i hi hil))
theorem own_stB (X : Stand p l e R s m args below meth c T locs cells slots) (hx : p.tables.exec = Jvm.exec) (hZ : Z.Warmed39 s.vm) {x : Int32} (eT : T.heap = h) (A : Arv Z h b k .byte n vs dv) (hj : ¬ j < 0 ∧ j < n) (i : Nat) (hi : j.toNatClampNeg = i) (hil : i < vs.length) (hd : decode c.code pc = .ok (.bastore, 1))
    (kk : ∀ (T' : State) (h' : Heap), Stand p l e R s m args below meth c T' (locs ++ [⟨b, j.toNatClampNeg⟩]) cells slots → T'.heap = h' → Wr h h' b j.toNatClampNeg (.int (nar .byte x)) → Arv Z h' b k .byte n (vs.set i (.int (nar .byte x))) dv → own_Go p e below P T' (mkF m (pc + 1) Ls rest)) :
    own_Go p e below P T (mkF m pc Ls (.int x :: .int j :: .ref b :: rest)) := by
  obtain ⟨cl, A1, q1, S, q3, H, G⟩ := A
  obtain ⟨T', h', X', e', W, st⟩ := stB X hx hZ eT A1 (j := j) (x := x) (inb_of S hj) (g := mkF m pc Ls (.int x :: .int j :: .ref b :: rest)) rfl rfl hd
  exact own_go st (kk T' h' X' e' W (Arv.set A1 q1 S q3 H G (fits_nar_byte _) W i hi hil))
theorem own_ldA (X : Stand p l e R s m args below meth c T locs cells slots) (hx : p.tables.exec = Jvm.exec) (hZ : Z.Warmed39 s.vm) (eT : T.heap = h) (A : Arv Z h b k ty n vs dv) (hty : ty.isReference = true) (hj : ¬ j < 0 ∧ j < n) (hv : vs.getD j.toNatClampNeg dv = v) (hd : decode c.code pc = .ok (.aaload, 1))
    (kk : own_Go p e below P T (mkF m (pc + 1) Ls (v :: rest))) : own_Go p e below P T (mkF m pc Ls (.int j :: .ref b :: rest)) := by
  obtain ⟨cl, A1, q1, S, q3, H, G⟩ := A
  exact own_go (X.aaload hx (j := j) (v := v) (by rw [eT]; exact A1.1) (State.isArrayOf_alike hZ.alike A1.2.1) hty A1.2.2 (inb_of S hj) (H.at (inb_of S hj) hv) (g := mkF m pc Ls (.int j :: .ref b :: rest)) rfl rfl hd) kk
theorem own_ldC (X : Stand p l e R s m args below meth c T locs cells slots) (hx : p.tables.exec = Jvm.exec) (hZ : Z.Warmed39 s.vm) (eT : T.heap = h) (A : Arv Z h b k .char n vs dv) (hj : ¬ j < 0 ∧ j < n) (hv : vs.getD j.toNatClampNeg dv = v) (hd : decode c.code pc = .ok (.caload, 1))
    (kk : own_Go p e below P T (mkF m (pc + 1) Ls (v :: rest))) : own_Go p e below P T (mkF m pc Ls (.int j :: .ref b :: rest)) := by
  obtain ⟨cl, A1, q1, S, q3, H, G⟩ := A
  exact own_go (X.caload hx (j := j) (v := v) (by rw [eT]; exact A1.1) (State.isArrayOf_alike hZ.alike A1.2.1) A1.2.2 (inb_of S hj) (H.at (inb_of S hj) hv) (g := mkF m pc Ls (.int j :: .ref b :: rest)) rfl rfl hd) kk
theorem own_ldB (X : Stand p l e R s m args below meth c T locs cells slots) (hx : p.tables.exec = Jvm.exec) (hZ : Z.Warmed39 s.vm) (eT : T.heap = h) (A : Arv Z h b k .byte n vs dv) (hj : ¬ j < 0 ∧ j < n) (hv : vs.getD j.toNatClampNeg dv = v) (hd : decode c.code pc = .ok (.baload, 1))
    (kk : own_Go p e below P T (mkF m (pc + 1) Ls (v :: rest))) : own_Go p e below P T (mkF m pc Ls (.int j :: .ref b :: rest)) := by
  obtain ⟨cl, A1, q1, S, q3, H, G⟩ := A
  exact own_go (X.baloadBytes hx (j := j) (v := v) (by rw [eT]; exact A1.1) (State.isArrayOf_alike hZ.alike A1.2.1) A1.2.2 (inb_of S hj) (H.at (inb_of S hj) hv) (g := mkF m pc Ls (.int j :: .ref b :: rest)) rfl rfl hd) kk
theorem own_ldI (X : Stand p l e R s m args below meth c T locs cells slots) (hx : p.tables.exec = Jvm.exec) (hZ : Z.Warmed39 s.vm) (eT : T.heap = h) (A : Arv Z h b k .int n vs dv) (hj : ¬ j < 0 ∧ j < n) (hv : vs.getD j.toNatClampNeg dv = v) (hd : decode c.code pc = .ok (.iaload, 1))
    (kk : own_Go p e below P T (mkF m (pc + 1) Ls (v :: rest))) : own_Go p e below P T (mkF m pc Ls (.int j :: .ref b :: rest)) := by
  obtain ⟨cl, A1, q1, S, q3, H, G⟩ := A
  exact own_go (X.iaload hx (j := j) (v := v) (by rw [eT]; exact A1.1) (State.isArrayOf_alike hZ.alike A1.2.1) A1.2.2 (inb_of S hj) (H.at (inb_of S hj) hv) (g := mkF m pc Ls (.int j :: .ref b :: rest)) rfl rfl hd) kk
theorem own_len (X : Stand p l e R s m args below meth c T locs cells slots) (hx : p.tables.exec = Jvm.exec) (hZ : Z.Warmed39 s.vm) (eT : T.heap = h) (A : Arv Z h b k ty n vs dv) (hd : decode c.code pc = .ok (.arraylength, 1))
    (kk : own_Go p e below P T (mkF m (pc + 1) Ls (.int n :: rest))) : own_Go p e below P T (mkF m pc Ls (.ref b :: rest)) := by
  obtain ⟨cl, A1, q1, S, q3, H, G⟩ := A
  refine own_go (X.arraylength hx (by rw [eT]; exact A1.1) (State.isArrayOf_alike hZ.alike A1.2.1) (g := mkF m pc Ls (.ref b :: rest)) rfl rfl hd) ?_
  rw [len_of S q3]
  exact kk
end Own2
theorem own_rem14 (x : Int32) : 0 ≤ ((x &&& 2147483647) % 14).toInt ∧ ((x &&& 2147483647) % 14).toInt ≤ 13 := by
  have h : (x &&& 2147483647).toInt = x.toInt % 2 ^ 31 := Jvm.Kit.i32_mask x 2147483647 (k := 31) (by decide) (by decide)
  have q : ((x &&& 2147483647) % 14).toInt = (x &&& 2147483647).toInt % (14 : Int32).toInt := Jvm.Kit.i32_rem_nonneg (by omega)
  have e : (14 : Int32).toInt = 14 := rfl
  rw [q, e]; omega
def own_St (Z : State) (h : Heap) (f : String) (k : Int32) : Prop := ∃ b, Sta Z h "com/example/hypatia/hypatia/math/MathVariant" f "Lcom/example/hypatia/hypatia/math/MathVariant;" (.ref b) ∧ Exa Z h b "com/example/hypatia/hypatia/math/MathVariant" ∧ Fld Z h b "java/lang/Enum" "ordinal" "I" (.int k)
theorem own_cases (i : Int32) (hi : 0 ≤ i.toInt ∧ i.toInt ≤ 13) : i = 0 ∨ i = 1 ∨ i = 2 ∨ i = 3 ∨ i = 4 ∨ i = 5 ∨ i = 6 ∨ i = 7 ∨ i = 8 ∨ i = 9 ∨ i = 10 ∨ i = 11 ∨ i = 12 ∨ i = 13 := by
  have h : i.toInt = 0 ∨ i.toInt = 1 ∨ i.toInt = 2 ∨ i.toInt = 3 ∨ i.toInt = 4 ∨ i.toInt = 5 ∨ i.toInt = 6 ∨ i.toInt = 7 ∨ i.toInt = 8 ∨ i.toInt = 9 ∨ i.toInt = 10 ∨ i.toInt = 11 ∨ i.toInt = 12 ∨ i.toInt = 13 := by omega
  rcases h with h | h | h | h | h | h | h | h | h | h | h | h | h | h
  · exact Or.inl (own_i32 0 rfl h)
  · exact Or.inr (Or.inl (own_i32 1 rfl h))
  · exact Or.inr (Or.inr (Or.inl (own_i32 2 rfl h)))
  · exact Or.inr (Or.inr (Or.inr (Or.inl (own_i32 3 rfl h))))
  · exact Or.inr (Or.inr (Or.inr (Or.inr (Or.inl (own_i32 4 rfl h)))))
  · exact Or.inr (Or.inr (Or.inr (Or.inr (Or.inr (Or.inl (own_i32 5 rfl h))))))
  · exact Or.inr (Or.inr (Or.inr (Or.inr (Or.inr (Or.inr (Or.inl (own_i32 6 rfl h)))))))
  · exact Or.inr (Or.inr (Or.inr (Or.inr (Or.inr (Or.inr (Or.inr (Or.inl (own_i32 7 rfl h))))))))
  · exact Or.inr (Or.inr (Or.inr (Or.inr (Or.inr (Or.inr (Or.inr (Or.inr (Or.inl (own_i32 8 rfl h)))))))))
  · exact Or.inr (Or.inr (Or.inr (Or.inr (Or.inr (Or.inr (Or.inr (Or.inr (Or.inr (Or.inl (own_i32 9 rfl h))))))))))
  · exact Or.inr (Or.inr (Or.inr (Or.inr (Or.inr (Or.inr (Or.inr (Or.inr (Or.inr (Or.inr (Or.inl (own_i32 10 rfl h)))))))))))
  · exact Or.inr (Or.inr (Or.inr (Or.inr (Or.inr (Or.inr (Or.inr (Or.inr (Or.inr (Or.inr (Or.inr (Or.inl (own_i32 11 rfl h))))))))))))
  · exact Or.inr (Or.inr (Or.inr (Or.inr (Or.inr (Or.inr (Or.inr (Or.inr (Or.inr (Or.inr (Or.inr (Or.inr (Or.inl (own_i32 12 rfl h)))))))))))))
  · exact Or.inr (Or.inr (Or.inr (Or.inr (Or.inr (Or.inr (Or.inr (Or.inr (Or.inr (Or.inr (Or.inr (Or.inr (Or.inr ((own_i32 13 rfl h))))))))))))))
theorem own_idx (i : Int32) (hi : 0 ≤ i.toInt ∧ i.toInt ≤ 13) : ¬ i < 0 ∧ i < 14 := by
  have e0 : (0 : Int32).toInt = 0 := rfl
  have e1 : (14 : Int32).toInt = 14 := rfl
  rw [Int32.lt_iff_toInt_lt, Int32.lt_iff_toInt_lt, e0, e1]; omega
theorem own_pick (Z : State) (h : Heap) (c0 c1 c2 c3 c4 c5 c6 c7 c8 c9 c10 c11 c12 c13 : Addr) (E0 : Exa Z h c0 "com/example/hypatia/hypatia/math/MathVariant") (E1 : Exa Z h c1 "com/example/hypatia/hypatia/math/MathVariant") (E2 : Exa Z h c2 "com/example/hypatia/hypatia/math/MathVariant") (E3 : Exa Z h c3 "com/example/hypatia/hypatia/math/MathVariant") (E4 : Exa Z h c4 "com/example/hypatia/hypatia/math/MathVariant") (E5 : Exa Z h c5 "com/example/hypatia/hypatia/math/MathVariant") (E6 : Exa Z h c6 "com/example/hypatia/hypatia/math/MathVariant") (E7 : Exa Z h c7 "com/example/hypatia/hypatia/math/MathVariant") (E8 : Exa Z h c8 "com/example/hypatia/hypatia/math/MathVariant") (E9 : Exa Z h c9 "com/example/hypatia/hypatia/math/MathVariant") (E10 : Exa Z h c10 "com/example/hypatia/hypatia/math/MathVariant") (E11 : Exa Z h c11 "com/example/hypatia/hypatia/math/MathVariant") (E12 : Exa Z h c12 "com/example/hypatia/hypatia/math/MathVariant") (E13 : Exa Z h c13 "com/example/hypatia/hypatia/math/MathVariant") (F0 : Fld Z h c0 "java/lang/Enum" "ordinal" "I" (.int 0)) (F1 : Fld Z h c1 "java/lang/Enum" "ordinal" "I" (.int 1)) (F2 : Fld Z h c2 "java/lang/Enum" "ordinal" "I" (.int 2)) (F3 : Fld Z h c3 "java/lang/Enum" "ordinal" "I" (.int 3)) (F4 : Fld Z h c4 "java/lang/Enum" "ordinal" "I" (.int 4)) (F5 : Fld Z h c5 "java/lang/Enum" "ordinal" "I" (.int 5)) (F6 : Fld Z h c6 "java/lang/Enum" "ordinal" "I" (.int 6)) (F7 : Fld Z h c7 "java/lang/Enum" "ordinal" "I" (.int 7)) (F8 : Fld Z h c8 "java/lang/Enum" "ordinal" "I" (.int 8)) (F9 : Fld Z h c9 "java/lang/Enum" "ordinal" "I" (.int 9)) (F10 : Fld Z h c10 "java/lang/Enum" "ordinal" "I" (.int 10)) (F11 : Fld Z h c11 "java/lang/Enum" "ordinal" "I" (.int 11)) (F12 : Fld Z h c12 "java/lang/Enum" "ordinal" "I" (.int 12)) (F13 : Fld Z h c13 "java/lang/Enum" "ordinal" "I" (.int 13)) (i : Int32) (hi : 0 ≤ i.toInt ∧ i.toInt ≤ 13) : ∃ c, ([.ref c0, .ref c1, .ref c2, .ref c3, .ref c4, .ref c5, .ref c6, .ref c7, .ref c8, .ref c9, .ref c10, .ref c11, .ref c12, .ref c13] : List Value).getD i.toNatClampNeg .null = .ref c ∧ Exa Z h c "com/example/hypatia/hypatia/math/MathVariant" ∧ (c = c0 ↔ i = 0) ∧ (c = c2 ↔ i = 2) := by
  rcases own_cases i hi with rfl | rfl | rfl | rfl | rfl | rfl | rfl | rfl | rfl | rfl | rfl | rfl | rfl | rfl
  · exact ⟨c0, rfl, E0, ⟨fun _ => rfl, fun _ => rfl⟩, ⟨fun q => absurd q (Fld.ne F0 F2 (by decide)), fun q => absurd q (by decide)⟩⟩
  · exact ⟨c1, rfl, E1, ⟨fun q => absurd q (Fld.ne F1 F0 (by decide)), fun q => absurd q (by decide)⟩, ⟨fun q => absurd q (Fld.ne F1 F2 (by decide)), fun q => absurd q (by decide)⟩⟩
  · exact ⟨c2, rfl, E2, ⟨fun q => absurd q (Fld.ne F2 F0 (by decide)), fun q => absurd q (by decide)⟩, ⟨fun _ => rfl, fun _ => rfl⟩⟩
  · exact ⟨c3, rfl, E3, ⟨fun q => absurd q (Fld.ne F3 F0 (by decide)), fun q => absurd q (by decide)⟩, ⟨fun q => absurd q (Fld.ne F3 F2 (by decide)), fun q => absurd q (by decide)⟩⟩
  · exact ⟨c4, rfl, E4, ⟨fun q => absurd q (Fld.ne F4 F0 (by decide)), fun q => absurd q (by decide)⟩, ⟨fun q => absurd q (Fld.ne F4 F2 (by decide)), fun q => absurd q (by decide)⟩⟩
  · exact ⟨c5, rfl, E5, ⟨fun q => absurd q (Fld.ne F5 F0 (by decide)), fun q => absurd q (by decide)⟩, ⟨fun q => absurd q (Fld.ne F5 F2 (by decide)), fun q => absurd q (by decide)⟩⟩
  · exact ⟨c6, rfl, E6, ⟨fun q => absurd q (Fld.ne F6 F0 (by decide)), fun q => absurd q (by decide)⟩, ⟨fun q => absurd q (Fld.ne F6 F2 (by decide)), fun q => absurd q (by decide)⟩⟩
  · exact ⟨c7, rfl, E7, ⟨fun q => absurd q (Fld.ne F7 F0 (by decide)), fun q => absurd q (by decide)⟩, ⟨fun q => absurd q (Fld.ne F7 F2 (by decide)), fun q => absurd q (by decide)⟩⟩
  · exact ⟨c8, rfl, E8, ⟨fun q => absurd q (Fld.ne F8 F0 (by decide)), fun q => absurd q (by decide)⟩, ⟨fun q => absurd q (Fld.ne F8 F2 (by decide)), fun q => absurd q (by decide)⟩⟩
  · exact ⟨c9, rfl, E9, ⟨fun q => absurd q (Fld.ne F9 F0 (by decide)), fun q => absurd q (by decide)⟩, ⟨fun q => absurd q (Fld.ne F9 F2 (by decide)), fun q => absurd q (by decide)⟩⟩
  · exact ⟨c10, rfl, E10, ⟨fun q => absurd q (Fld.ne F10 F0 (by decide)), fun q => absurd q (by decide)⟩, ⟨fun q => absurd q (Fld.ne F10 F2 (by decide)), fun q => absurd q (by decide)⟩⟩
  · exact ⟨c11, rfl, E11, ⟨fun q => absurd q (Fld.ne F11 F0 (by decide)), fun q => absurd q (by decide)⟩, ⟨fun q => absurd q (Fld.ne F11 F2 (by decide)), fun q => absurd q (by decide)⟩⟩
  · exact ⟨c12, rfl, E12, ⟨fun q => absurd q (Fld.ne F12 F0 (by decide)), fun q => absurd q (by decide)⟩, ⟨fun q => absurd q (Fld.ne F12 F2 (by decide)), fun q => absurd q (by decide)⟩⟩
  · exact ⟨c13, rfl, E13, ⟨fun q => absurd q (Fld.ne F13 F0 (by decide)), fun q => absurd q (by decide)⟩, ⟨fun q => absurd q (Fld.ne F13 F2 (by decide)), fun q => absurd q (by decide)⟩⟩
theorem d1_0 : decode prog_34_method_5_code 0 = .ok (.aload_n 0, 1) := by decide +kernel
theorem d1_1 : decode prog_34_method_5_code 1 = .ok (.getstatic 3, 3) := by decide +kernel
theorem d1_4 : decode prog_34_method_5_code 4 = .ok (.if_acmp .eq 14, 3) := by decide +kernel
theorem d1_7 : decode prog_34_method_5_code 7 = .ok (.aload_n 0, 1) := by decide +kernel
theorem d1_8 : decode prog_34_method_5_code 8 = .ok (.getstatic 10, 3) := by decide +kernel
theorem d1_11 : decode prog_34_method_5_code 11 = .ok (.if_acmp .eq 7, 3) := by decide +kernel
theorem d1_14 : decode prog_34_method_5_code 14 = .ok (.iconst 1, 1) := by decide +kernel
theorem d1_15 : decode prog_34_method_5_code 15 = .ok (.goto 4, 3) := by decide +kernel
theorem d1_18 : decode prog_34_method_5_code 18 = .ok (.iconst 0, 1) := by decide +kernel
theorem d1_19 : decode prog_34_method_5_code 19 = .ok (.ireturn, 1) := by decide +kernel
def own_r_own_rm1 : Room := { frames := 0, cells := 0, slots := 0, locals := 0 }
theorem own_rm1 (l : Launch) (Z : State) (a0 : Array Value) (hw : own_W a0 Z) (a1 c0 c2 : Addr) (h0 : Heap) (n0 : Nat) (S0 : Sta Z h0 "com/example/hypatia/hypatia/math/MathVariant" "NORMAL" "Lcom/example/hypatia/hypatia/math/MathVariant;" (.ref c0)) (S2 : Sta Z h0 "com/example/hypatia/hypatia/math/MathVariant" "ITALIC" "Lcom/example/hypatia/hypatia/math/MathVariant;" (.ref c2)) :
    own_Met l Z (⟨"com/example/hypatia/hypatia/math/MathVariant", "isWritten", "()Z"⟩ : MethodName) prog_34_method_5_code 1 (some .boolean) own_r_own_rm1 #[(.ref a1)] h0 (own_Qv (some (.int (if a1 = c0 ∨ a1 = c2 then (0 : Int32) else 1))) h0 n0) := by
  refine own_body (by decide +kernel) ?_
  intro p e s m below meth c T0 X0 hx hZ hby hml hown hnm hret hlk e0
  have N0 := Fr.nil n0
  refine own_cast (g' := (mkF m 0 #[rv a1] [])) rfl ?_
  refine og_aloadN X0 hx (hb hby d1_0) rfl rfl ?_
  refine og_getS X0 hx hZ hown (own_hw hw 38 rfl) Via.refl e0 S0 (hb hby d1_1) ?_
  intro T1 X1 e1
  show own_Go p e below _ T1 (mkF m 4 #[rv a1] [(.ref c0), (.ref a1)])
  by_cases ha4 : a1 = c0
  · refine og_acmp X1 hx (pc' := 18) (same := true) rfl rfl (hb hby d1_4) (decide_eq_true (congrArg Value.ref ha4)) (by decide) (by decide) ?_
    show own_Go p e below _ T1 (mkF m 18 #[rv a1] [])
    refine og_iconst X1 hx (hb hby d1_18) ?_
    exact own_retI X1 hx hret hlk (hb hby d1_19) rfl (by simp) (by decide) (by decide) (⟨by simp [ha4], N0, e1⟩)
  · refine og_acmp X1 hx (pc' := 7) (same := false) rfl rfl (hb hby d1_4) (decide_eq_false (fun q => ha4 (Value.ref.inj q))) (by decide) (by decide) ?_
    show own_Go p e below _ T1 (mkF m 7 #[rv a1] [])
    refine og_aloadN X1 hx (hb hby d1_7) rfl rfl ?_
    refine og_getS X1 hx hZ hown (own_hw hw 39 rfl) Via.refl e1 S2 (hb hby d1_8) ?_
    intro T2 X2 e2
    show own_Go p e below _ T2 (mkF m 11 #[rv a1] [(.ref c2), (.ref a1)])
    by_cases ha11 : a1 = c2
    · refine og_acmp X2 hx (pc' := 18) (same := true) rfl rfl (hb hby d1_11) (decide_eq_true (congrArg Value.ref ha11)) (by decide) (by decide) ?_
      show own_Go p e below _ T2 (mkF m 18 #[rv a1] [])
      refine og_iconst X2 hx (hb hby d1_18) ?_
      exact own_retI X2 hx hret hlk (hb hby d1_19) rfl (by simp) (by decide) (by decide) (⟨by simp [ha4, ha11], N0, e2⟩)
    · refine og_acmp X2 hx (pc' := 14) (same := false) rfl rfl (hb hby d1_11) (decide_eq_false (fun q => ha11 (Value.ref.inj q))) (by decide) (by decide) ?_
      show own_Go p e below _ T2 (mkF m 14 #[rv a1] [])
      refine og_iconst X2 hx (hb hby d1_14) ?_
      refine og_goto X2 hx 19 (hb hby d1_15) (by decide) (by decide) ?_
      exact own_retI X2 hx hret hlk (hb hby d1_19) rfl (by simp) (by decide) (by decide) (⟨by simp [ha4, ha11], N0, e2⟩)
theorem own_pd61835 : parseMethodDescriptor "()Z" = some ⟨[], some .boolean⟩ := by decide +kernel
theorem own_rm0 (l : Launch) (Z : State) (a0 : Array Value) (hw : own_W a0 Z) (p1 : Int32) (h0 : Heap) (n0 : Nat) (hO : Old Z n0 h0) (G0 : own_St Z Z.heap "NORMAL" 0) (G1 : own_St Z Z.heap "BOLD" 1) (G2 : own_St Z Z.heap "ITALIC" 2) (G3 : own_St Z Z.heap "BOLD_ITALIC" 3) (G4 : own_St Z Z.heap "DOUBLE_STRUCK" 4) (G5 : own_St Z Z.heap "BOLD_FRAKTUR" 5) (G6 : own_St Z Z.heap "SCRIPT" 6) (G7 : own_St Z Z.heap "BOLD_SCRIPT" 7) (G8 : own_St Z Z.heap "FRAKTUR" 8) (G9 : own_St Z Z.heap "SANS_SERIF" 9) (G10 : own_St Z Z.heap "BOLD_SANS_SERIF" 10) (G11 : own_St Z Z.heap "SANS_SERIF_ITALIC" 11) (G12 : own_St Z Z.heap "SANS_SERIF_BOLD_ITALIC" 12) (G13 : own_St Z Z.heap "MONOSPACE" 13) :
    own_Met l Z x code maxLocals ret room_1 #[(.int p1)] h0 (own_Q1 n0) := by
  refine own_body (by decide +kernel) ?_
  intro p e s m below meth c T0 X0 hx hZ hby hml hown hnm hret hlk e0
  have N0 := Fr.nil n0
  refine own_cast (g' := (mkF m 0 #[iv p1, .unset, .unset, .unset] [])) rfl ?_
  obtain ⟨c0, S0, EX0, F0⟩ := G0
  obtain ⟨c1, S1, EX1, F1⟩ := G1
  obtain ⟨c2, S2, EX2, F2⟩ := G2
  obtain ⟨c3, S3, EX3, F3⟩ := G3
  obtain ⟨c4, S4, EX4, F4⟩ := G4
  obtain ⟨c5, S5, EX5, F5⟩ := G5
  obtain ⟨c6, S6, EX6, F6⟩ := G6
  obtain ⟨c7, S7, EX7, F7⟩ := G7
  obtain ⟨c8, S8, EX8, F8⟩ := G8
  obtain ⟨c9, S9, EX9, F9⟩ := G9
  obtain ⟨c10, S10, EX10, F10⟩ := G10
  obtain ⟨c11, S11, EX11, F11⟩ := G11
  obtain ⟨c12, S12, EX12, F12⟩ := G12
  obtain ⟨c13, S13, EX13, F13⟩ := G13
  refine og_bipush X0 hx (hb hby at_0) ?_
  refine own_newR X0 hx hZ hown (own_hw hw 0 rfl) (own_hw hw 1 rfl) e0 (hb hby at_2) (by decide) 14 (by decide) (by decide) (by decide) (by decide) ?_
  intro T1 h1 k1 b1 g1 X1 e1 E1 A1 V1
  have ge_b1 : n0 ≤ b1 := Nat.le_trans (own_oldle hO) (Nat.le_of_eq g1.symm)
  have O1 := hO.ext E1
  have A_b1_1 : Arv Z h1 b1 k1 (.object "com/example/hypatia/hypatia/math/MathVariant") 14 [.null, .null, .null, .null, .null, .null, .null, .null, .null, .null, .null, .null, .null, .null] .null := A1
  show own_Go p e below _ T1 (mkF m 5 #[iv p1, .unset, .unset, .unset] [(.ref b1)])
  refine og_dup X1 hx (hb hby at_5) rfl ?_
  refine og_iconst X1 hx (hb hby at_6) ?_
  refine og_getS X1 hx hZ hown (own_hw hw 2 rfl) Via.refl e1 (S0.ext O1.2) (hb hby at_7) ?_
  intro T2 X2 e2
  show own_Go p e below _ T2 (mkF m 10 #[iv p1, .unset, .unset, .unset] [(.ref c0), (.int 0), (.ref b1), (.ref b1)])
  refine own_stR X2 hx hZ e2 A_b1_1 V1 (Ins.self (EX0.ext O1.2)) ⟨by decide, by decide⟩ 0 rfl (by show 0 < 14; decide) (hb hby at_10) ?_
  intro T3 h3 X3 e3 W3 A3
  have O3 := O1.wr W3 ge_b1
  have N3 := Fr.snoc X3 N0 ge_b1
  have A_b1_3 : Arv Z h3 b1 k1 (.object "com/example/hypatia/hypatia/math/MathVariant") 14 [(.ref c0), .null, .null, .null, .null, .null, .null, .null, .null, .null, .null, .null, .null, .null] .null := A3
  show own_Go p e below _ T3 (mkF m 11 #[iv p1, .unset, .unset, .unset] [(.ref b1)])
  refine og_dup X3 hx (hb hby at_11) rfl ?_
  refine og_iconst X3 hx (hb hby at_12) ?_
  refine og_getS X3 hx hZ hown (own_hw hw 6 rfl) Via.refl e3 (S1.ext O3.2) (hb hby at_13) ?_
  intro T4 X4 e4
  show own_Go p e below _ T4 (mkF m 16 #[iv p1, .unset, .unset, .unset] [(.ref c1), (.int 1), (.ref b1), (.ref b1)])
  refine own_stR X4 hx hZ e4 A_b1_3 V1 (Ins.self (EX1.ext O3.2)) ⟨by decide, by decide⟩ 1 rfl (by show 1 < 14; decide) (hb hby at_16) ?_
  intro T5 h5 X5 e5 W5 A5
  have O5 := O3.wr W5 ge_b1
  have N5 := Fr.snoc X5 N3 ge_b1
  have A_b1_5 : Arv Z h5 b1 k1 (.object "com/example/hypatia/hypatia/math/MathVariant") 14 [(.ref c0), (.ref c1), .null, .null, .null, .null, .null, .null, .null, .null, .null, .null, .null, .null] .null := A5
  show own_Go p e below _ T5 (mkF m 17 #[iv p1, .unset, .unset, .unset] [(.ref b1)])
  refine og_dup X5 hx (hb hby at_17) rfl ?_
  refine og_iconst X5 hx (hb hby at_18) ?_
  refine og_getS X5 hx hZ hown (own_hw hw 8 rfl) Via.refl e5 (S2.ext O5.2) (hb hby at_19) ?_
  intro T6 X6 e6
  show own_Go p e below _ T6 (mkF m 22 #[iv p1, .unset, .unset, .unset] [(.ref c2), (.int 2), (.ref b1), (.ref b1)])
  refine own_stR X6 hx hZ e6 A_b1_5 V1 (Ins.self (EX2.ext O5.2)) ⟨by decide, by decide⟩ 2 rfl (by show 2 < 14; decide) (hb hby at_22) ?_
  intro T7 h7 X7 e7 W7 A7
  have O7 := O5.wr W7 ge_b1
  have N7 := Fr.snoc X7 N5 ge_b1
  have A_b1_7 : Arv Z h7 b1 k1 (.object "com/example/hypatia/hypatia/math/MathVariant") 14 [(.ref c0), (.ref c1), (.ref c2), .null, .null, .null, .null, .null, .null, .null, .null, .null, .null, .null] .null := A7
  show own_Go p e below _ T7 (mkF m 23 #[iv p1, .unset, .unset, .unset] [(.ref b1)])
  refine og_dup X7 hx (hb hby at_23) rfl ?_
  refine og_iconst X7 hx (hb hby at_24) ?_
  refine og_getS X7 hx hZ hown (own_hw hw 10 rfl) Via.refl e7 (S3.ext O7.2) (hb hby at_25) ?_
  intro T8 X8 e8
  show own_Go p e below _ T8 (mkF m 28 #[iv p1, .unset, .unset, .unset] [(.ref c3), (.int 3), (.ref b1), (.ref b1)])
  refine own_stR X8 hx hZ e8 A_b1_7 V1 (Ins.self (EX3.ext O7.2)) ⟨by decide, by decide⟩ 3 rfl (by show 3 < 14; decide) (hb hby at_28) ?_
  intro T9 h9 X9 e9 W9 A9
  have O9 := O7.wr W9 ge_b1
  have N9 := Fr.snoc X9 N7 ge_b1
  have A_b1_9 : Arv Z h9 b1 k1 (.object "com/example/hypatia/hypatia/math/MathVariant") 14 [(.ref c0), (.ref c1), (.ref c2), (.ref c3), .null, .null, .null, .null, .null, .null, .null, .null, .null, .null] .null := A9
  show own_Go p e below _ T9 (mkF m 29 #[iv p1, .unset, .unset, .unset] [(.ref b1)])
  refine og_dup X9 hx (hb hby at_29) rfl ?_
  refine og_iconst X9 hx (hb hby at_30) ?_
  refine og_getS X9 hx hZ hown (own_hw hw 12 rfl) Via.refl e9 (S4.ext O9.2) (hb hby at_31) ?_
  intro T10 X10 e10
  show own_Go p e below _ T10 (mkF m 34 #[iv p1, .unset, .unset, .unset] [(.ref c4), (.int 4), (.ref b1), (.ref b1)])
  refine own_stR X10 hx hZ e10 A_b1_9 V1 (Ins.self (EX4.ext O9.2)) ⟨by decide, by decide⟩ 4 rfl (by show 4 < 14; decide) (hb hby at_34) ?_
  intro T11 h11 X11 e11 W11 A11
  have O11 := O9.wr W11 ge_b1
  have N11 := Fr.snoc X11 N9 ge_b1
  have A_b1_11 : Arv Z h11 b1 k1 (.object "com/example/hypatia/hypatia/math/MathVariant") 14 [(.ref c0), (.ref c1), (.ref c2), (.ref c3), (.ref c4), .null, .null, .null, .null, .null, .null, .null, .null, .null] .null := A11
  show own_Go p e below _ T11 (mkF m 35 #[iv p1, .unset, .unset, .unset] [(.ref b1)])
  refine og_dup X11 hx (hb hby at_35) rfl ?_
  refine og_iconst X11 hx (hb hby at_36) ?_
  refine og_getS X11 hx hZ hown (own_hw hw 14 rfl) Via.refl e11 (S5.ext O11.2) (hb hby at_37) ?_
  intro T12 X12 e12
  show own_Go p e below _ T12 (mkF m 40 #[iv p1, .unset, .unset, .unset] [(.ref c5), (.int 5), (.ref b1), (.ref b1)])
  refine own_stR X12 hx hZ e12 A_b1_11 V1 (Ins.self (EX5.ext O11.2)) ⟨by decide, by decide⟩ 5 rfl (by show 5 < 14; decide) (hb hby at_40) ?_
  intro T13 h13 X13 e13 W13 A13
  have O13 := O11.wr W13 ge_b1
  have N13 := Fr.snoc X13 N11 ge_b1
  have A_b1_13 : Arv Z h13 b1 k1 (.object "com/example/hypatia/hypatia/math/MathVariant") 14 [(.ref c0), (.ref c1), (.ref c2), (.ref c3), (.ref c4), (.ref c5), .null, .null, .null, .null, .null, .null, .null, .null] .null := A13
  show own_Go p e below _ T13 (mkF m 41 #[iv p1, .unset, .unset, .unset] [(.ref b1)])
  refine og_dup X13 hx (hb hby at_41) rfl ?_
  refine og_bipush X13 hx (hb hby at_42) ?_
  refine og_getS X13 hx hZ hown (own_hw hw 16 rfl) Via.refl e13 (S6.ext O13.2) (hb hby at_44) ?_
  intro T14 X14 e14
  show own_Go p e below _ T14 (mkF m 47 #[iv p1, .unset, .unset, .unset] [(.ref c6), (.int 6), (.ref b1), (.ref b1)])
  refine own_stR X14 hx hZ e14 A_b1_13 V1 (Ins.self (EX6.ext O13.2)) ⟨by decide, by decide⟩ 6 rfl (by show 6 < 14; decide) (hb hby at_47) ?_
  intro T15 h15 X15 e15 W15 A15
  have O15 := O13.wr W15 ge_b1
  have N15 := Fr.snoc X15 N13 ge_b1
  have A_b1_15 : Arv Z h15 b1 k1 (.object "com/example/hypatia/hypatia/math/MathVariant") 14 [(.ref c0), (.ref c1), (.ref c2), (.ref c3), (.ref c4), (.ref c5), (.ref c6), .null, .null, .null, .null, .null, .null, .null] .null := A15
  show own_Go p e below _ T15 (mkF m 48 #[iv p1, .unset, .unset, .unset] [(.ref b1)])
  refine og_dup X15 hx (hb hby at_48) rfl ?_
  refine og_bipush X15 hx (hb hby at_49) ?_
  refine og_getS X15 hx hZ hown (own_hw hw 18 rfl) Via.refl e15 (S7.ext O15.2) (hb hby at_51) ?_
  intro T16 X16 e16
  show own_Go p e below _ T16 (mkF m 54 #[iv p1, .unset, .unset, .unset] [(.ref c7), (.int 7), (.ref b1), (.ref b1)])
  refine own_stR X16 hx hZ e16 A_b1_15 V1 (Ins.self (EX7.ext O15.2)) ⟨by decide, by decide⟩ 7 rfl (by show 7 < 14; decide) (hb hby at_54) ?_
  intro T17 h17 X17 e17 W17 A17
  have O17 := O15.wr W17 ge_b1
  have N17 := Fr.snoc X17 N15 ge_b1
  have A_b1_17 : Arv Z h17 b1 k1 (.object "com/example/hypatia/hypatia/math/MathVariant") 14 [(.ref c0), (.ref c1), (.ref c2), (.ref c3), (.ref c4), (.ref c5), (.ref c6), (.ref c7), .null, .null, .null, .null, .null, .null] .null := A17
  show own_Go p e below _ T17 (mkF m 55 #[iv p1, .unset, .unset, .unset] [(.ref b1)])
  refine og_dup X17 hx (hb hby at_55) rfl ?_
  refine og_bipush X17 hx (hb hby at_56) ?_
  refine og_getS X17 hx hZ hown (own_hw hw 20 rfl) Via.refl e17 (S8.ext O17.2) (hb hby at_58) ?_
  intro T18 X18 e18
  show own_Go p e below _ T18 (mkF m 61 #[iv p1, .unset, .unset, .unset] [(.ref c8), (.int 8), (.ref b1), (.ref b1)])
  refine own_stR X18 hx hZ e18 A_b1_17 V1 (Ins.self (EX8.ext O17.2)) ⟨by decide, by decide⟩ 8 rfl (by show 8 < 14; decide) (hb hby at_61) ?_
  intro T19 h19 X19 e19 W19 A19
  have O19 := O17.wr W19 ge_b1
  have N19 := Fr.snoc X19 N17 ge_b1
  have A_b1_19 : Arv Z h19 b1 k1 (.object "com/example/hypatia/hypatia/math/MathVariant") 14 [(.ref c0), (.ref c1), (.ref c2), (.ref c3), (.ref c4), (.ref c5), (.ref c6), (.ref c7), (.ref c8), .null, .null, .null, .null, .null] .null := A19
  show own_Go p e below _ T19 (mkF m 62 #[iv p1, .unset, .unset, .unset] [(.ref b1)])
  refine og_dup X19 hx (hb hby at_62) rfl ?_
  refine og_bipush X19 hx (hb hby at_63) ?_
  refine og_getS X19 hx hZ hown (own_hw hw 22 rfl) Via.refl e19 (S9.ext O19.2) (hb hby at_65) ?_
  intro T20 X20 e20
  show own_Go p e below _ T20 (mkF m 68 #[iv p1, .unset, .unset, .unset] [(.ref c9), (.int 9), (.ref b1), (.ref b1)])
  refine own_stR X20 hx hZ e20 A_b1_19 V1 (Ins.self (EX9.ext O19.2)) ⟨by decide, by decide⟩ 9 rfl (by show 9 < 14; decide) (hb hby at_68) ?_
  intro T21 h21 X21 e21 W21 A21
  have O21 := O19.wr W21 ge_b1
  have N21 := Fr.snoc X21 N19 ge_b1
  have A_b1_21 : Arv Z h21 b1 k1 (.object "com/example/hypatia/hypatia/math/MathVariant") 14 [(.ref c0), (.ref c1), (.ref c2), (.ref c3), (.ref c4), (.ref c5), (.ref c6), (.ref c7), (.ref c8), (.ref c9), .null, .null, .null, .null] .null := A21
  show own_Go p e below _ T21 (mkF m 69 #[iv p1, .unset, .unset, .unset] [(.ref b1)])
  refine og_dup X21 hx (hb hby at_69) rfl ?_
  refine og_bipush X21 hx (hb hby at_70) ?_
  refine og_getS X21 hx hZ hown (own_hw hw 24 rfl) Via.refl e21 (S10.ext O21.2) (hb hby at_72) ?_
  intro T22 X22 e22
  show own_Go p e below _ T22 (mkF m 75 #[iv p1, .unset, .unset, .unset] [(.ref c10), (.int 10), (.ref b1), (.ref b1)])
  refine own_stR X22 hx hZ e22 A_b1_21 V1 (Ins.self (EX10.ext O21.2)) ⟨by decide, by decide⟩ 10 rfl (by show 10 < 14; decide) (hb hby at_75) ?_
  intro T23 h23 X23 e23 W23 A23
  have O23 := O21.wr W23 ge_b1
  have N23 := Fr.snoc X23 N21 ge_b1
  have A_b1_23 : Arv Z h23 b1 k1 (.object "com/example/hypatia/hypatia/math/MathVariant") 14 [(.ref c0), (.ref c1), (.ref c2), (.ref c3), (.ref c4), (.ref c5), (.ref c6), (.ref c7), (.ref c8), (.ref c9), (.ref c10), .null, .null, .null] .null := A23
  show own_Go p e below _ T23 (mkF m 76 #[iv p1, .unset, .unset, .unset] [(.ref b1)])
  refine og_dup X23 hx (hb hby at_76) rfl ?_
  refine og_bipush X23 hx (hb hby at_77) ?_
  refine og_getS X23 hx hZ hown (own_hw hw 26 rfl) Via.refl e23 (S11.ext O23.2) (hb hby at_79) ?_
  intro T24 X24 e24
  show own_Go p e below _ T24 (mkF m 82 #[iv p1, .unset, .unset, .unset] [(.ref c11), (.int 11), (.ref b1), (.ref b1)])
  refine own_stR X24 hx hZ e24 A_b1_23 V1 (Ins.self (EX11.ext O23.2)) ⟨by decide, by decide⟩ 11 rfl (by show 11 < 14; decide) (hb hby at_82) ?_
  intro T25 h25 X25 e25 W25 A25
  have O25 := O23.wr W25 ge_b1
  have N25 := Fr.snoc X25 N23 ge_b1
  have A_b1_25 : Arv Z h25 b1 k1 (.object "com/example/hypatia/hypatia/math/MathVariant") 14 [(.ref c0), (.ref c1), (.ref c2), (.ref c3), (.ref c4), (.ref c5), (.ref c6), (.ref c7), (.ref c8), (.ref c9), (.ref c10), (.ref c11), .null, .null] .null := A25
  show own_Go p e below _ T25 (mkF m 83 #[iv p1, .unset, .unset, .unset] [(.ref b1)])
  refine og_dup X25 hx (hb hby at_83) rfl ?_
  refine og_bipush X25 hx (hb hby at_84) ?_
  refine og_getS X25 hx hZ hown (own_hw hw 28 rfl) Via.refl e25 (S12.ext O25.2) (hb hby at_86) ?_
  intro T26 X26 e26
  show own_Go p e below _ T26 (mkF m 89 #[iv p1, .unset, .unset, .unset] [(.ref c12), (.int 12), (.ref b1), (.ref b1)])
  refine own_stR X26 hx hZ e26 A_b1_25 V1 (Ins.self (EX12.ext O25.2)) ⟨by decide, by decide⟩ 12 rfl (by show 12 < 14; decide) (hb hby at_89) ?_
  intro T27 h27 X27 e27 W27 A27
  have O27 := O25.wr W27 ge_b1
  have N27 := Fr.snoc X27 N25 ge_b1
  have A_b1_27 : Arv Z h27 b1 k1 (.object "com/example/hypatia/hypatia/math/MathVariant") 14 [(.ref c0), (.ref c1), (.ref c2), (.ref c3), (.ref c4), (.ref c5), (.ref c6), (.ref c7), (.ref c8), (.ref c9), (.ref c10), (.ref c11), (.ref c12), .null] .null := A27
  show own_Go p e below _ T27 (mkF m 90 #[iv p1, .unset, .unset, .unset] [(.ref b1)])
  refine og_dup X27 hx (hb hby at_90) rfl ?_
  refine og_bipush X27 hx (hb hby at_91) ?_
  refine og_getS X27 hx hZ hown (own_hw hw 30 rfl) Via.refl e27 (S13.ext O27.2) (hb hby at_93) ?_
  intro T28 X28 e28
  show own_Go p e below _ T28 (mkF m 96 #[iv p1, .unset, .unset, .unset] [(.ref c13), (.int 13), (.ref b1), (.ref b1)])
  refine own_stR X28 hx hZ e28 A_b1_27 V1 (Ins.self (EX13.ext O27.2)) ⟨by decide, by decide⟩ 13 rfl (by show 13 < 14; decide) (hb hby at_96) ?_
  intro T29 h29 X29 e29 W29 A29
  have O29 := O27.wr W29 ge_b1
  have N29 := Fr.snoc X29 N27 ge_b1
  have A_b1_29 : Arv Z h29 b1 k1 (.object "com/example/hypatia/hypatia/math/MathVariant") 14 [(.ref c0), (.ref c1), (.ref c2), (.ref c3), (.ref c4), (.ref c5), (.ref c6), (.ref c7), (.ref c8), (.ref c9), (.ref c10), (.ref c11), (.ref c12), (.ref c13)] .null := A29
  show own_Go p e below _ T29 (mkF m 97 #[iv p1, .unset, .unset, .unset] [(.ref b1)])
  refine og_astoreN X29 hx #[iv p1, rv b1, .unset, .unset] (hb hby at_97) rfl rfl ?_
  refine og_iloadN X29 hx (hb hby at_98) rfl ?_
  refine og_ldcI X29 hx hZ hown (own_hw hw 32 rfl) (hb hby at_99) ?_
  show own_Go p e below _ T29 (mkF m 101 #[iv p1, rv b1, .unset, .unset] [(.int 2147483647), (.int p1)])
  refine og_iand X29 hx (hb hby at_101) ?_
  refine og_bipush X29 hx (hb hby at_102) ?_
  refine og_iremM X29 hx (hb hby at_104) (by decide) ?_
  show own_Go p e below _ T29 (mkF m 105 #[iv p1, rv b1, .unset, .unset] [(.int ((p1 &&& 2147483647) % 14))])
  refine og_istoreN X29 hx #[iv p1, rv b1, iv ((p1 &&& 2147483647) % 14), .unset] (hb hby at_105) rfl ?_
  refine og_iconst X29 hx (hb hby at_106) ?_
  refine og_istoreN X29 hx #[iv p1, rv b1, iv ((p1 &&& 2147483647) % 14), iv 1] (hb hby at_107) rfl ?_
  refine og_iloadN X29 hx (hb hby at_108) rfl ?_
  by_cases hc109 : ((p1 &&& 2147483647) % 14) = 0
  · refine og_ifN X29 hx (hb hby at_109) (teq hc109).2 ?_
    refine og_iconst X29 hx (hb hby at_112) ?_
    refine og_istoreN X29 hx #[iv p1, rv b1, iv ((p1 &&& 2147483647) % 14), iv 0] (hb hby at_113) rfl ?_
    refine og_iloadN X29 hx (hb hby at_114) rfl ?_
    refine og_iconst X29 hx (hb hby at_115) ?_
    by_cases hc116 : ((p1 &&& 2147483647) % 14) = 2
    · refine og_icN X29 hx (hb hby at_116) (teq hc116).2 ?_
      refine og_iconst X29 hx (hb hby at_119) ?_
      refine og_istoreN X29 hx #[iv p1, rv b1, iv ((p1 &&& 2147483647) % 14), iv 0] (hb hby at_120) rfl ?_
      refine og_aloadN X29 hx (hb hby at_121) rfl rfl ?_
      refine og_iloadN X29 hx (hb hby at_122) rfl ?_
      obtain ⟨c, hv, Ec, q0, q2⟩ := own_pick Z Z.heap c0 c1 c2 c3 c4 c5 c6 c7 c8 c9 c10 c11 c12 c13 EX0 EX1 EX2 EX3 EX4 EX5 EX6 EX7 EX8 EX9 EX10 EX11 EX12 EX13 F0 F1 F2 F3 F4 F5 F6 F7 F8 F9 F10 F11 F12 F13 _ (own_rem14 p1)
      refine own_ldA X29 hx hZ e29 A_b1_29 rfl (own_idx _ (own_rem14 p1)) hv (hb hby at_123) ?_
      show own_Go p e below _ T29 (mkF m 124 #[iv p1, rv b1, iv ((p1 &&& 2147483647) % 14), iv 0] [(.ref c)])
      refine own_callV X29 hx hZ hown (own_hw hw 33 rfl) (own_hw hw 34 rfl) (notFace_of_selects (args := #[]) (mvT hZ (own_hw hw 36 rfl))) (own_hw hw 36 rfl) (own_hw hw 35 rfl) (own_hw hw 37 rfl) (own_hw hw 3 rfl) (by decide) (b := c) (argsL := []) (rest := []) (own_rm1 l Z a0 hw c c0 c2 h29 n0 (S0.ext O29.2) (S2.ext O29.2)) e29 (Ec.ext O29.2) (by rw [hml]; rfl) (lenOf own_pd61835 rfl) rfl (hb hby at_124) (W := 0) (Nat.le_of_eq rfl) (by decide) ?_
      intro v30 T30 L30 X30 q30
      obtain ⟨rfl, N30q, e30⟩ := q30
      have N30 := Fr.app N29 N30q
      show own_Go p e below _ T30 (mkF m 127 #[iv p1, rv b1, iv ((p1 &&& 2147483647) % 14), iv 0] [(.int (if c = c0 ∨ c = c2 then (0 : Int32) else 1))])
      refine og_iloadN X30 hx (hb hby at_127) rfl ?_
      refine og_icN X30 hx (hb hby at_128) (teq (if_pos (Or.inl (q0.mpr hc109)))).2 ?_
      refine og_iconst X30 hx (hb hby at_131) ?_
      refine og_goto X30 hx 136 (hb hby at_132) (by decide) (by decide) ?_
      exact own_retI X30 hx hret hlk (hb hby at_136) rfl (by simp) (by decide) (by decide) (⟨rfl, N30⟩)
    · refine og_icY X29 hx 121 (hb hby at_116) (feq hc116).2 (by decide) (by decide) ?_
      refine og_aloadN X29 hx (hb hby at_121) rfl rfl ?_
      refine og_iloadN X29 hx (hb hby at_122) rfl ?_
      obtain ⟨c, hv, Ec, q0, q2⟩ := own_pick Z Z.heap c0 c1 c2 c3 c4 c5 c6 c7 c8 c9 c10 c11 c12 c13 EX0 EX1 EX2 EX3 EX4 EX5 EX6 EX7 EX8 EX9 EX10 EX11 EX12 EX13 F0 F1 F2 F3 F4 F5 F6 F7 F8 F9 F10 F11 F12 F13 _ (own_rem14 p1)
      refine own_ldA X29 hx hZ e29 A_b1_29 rfl (own_idx _ (own_rem14 p1)) hv (hb hby at_123) ?_
      show own_Go p e below _ T29 (mkF m 124 #[iv p1, rv b1, iv ((p1 &&& 2147483647) % 14), iv 0] [(.ref c)])
      refine own_callV X29 hx hZ hown (own_hw hw 33 rfl) (own_hw hw 34 rfl) (notFace_of_selects (args := #[]) (mvT hZ (own_hw hw 36 rfl))) (own_hw hw 36 rfl) (own_hw hw 35 rfl) (own_hw hw 37 rfl) (own_hw hw 3 rfl) (by decide) (b := c) (argsL := []) (rest := []) (own_rm1 l Z a0 hw c c0 c2 h29 n0 (S0.ext O29.2) (S2.ext O29.2)) e29 (Ec.ext O29.2) (by rw [hml]; rfl) (lenOf own_pd61835 rfl) rfl (hb hby at_124) (W := 0) (Nat.le_of_eq rfl) (by decide) ?_
      intro v31 T31 L31 X31 q31
      obtain ⟨rfl, N31q, e31⟩ := q31
      have N31 := Fr.app N29 N31q
      show own_Go p e below _ T31 (mkF m 127 #[iv p1, rv b1, iv ((p1 &&& 2147483647) % 14), iv 0] [(.int (if c = c0 ∨ c = c2 then (0 : Int32) else 1))])
      refine og_iloadN X31 hx (hb hby at_127) rfl ?_
      refine og_icN X31 hx (hb hby at_128) (teq (if_pos (Or.inl (q0.mpr hc109)))).2 ?_
      refine og_iconst X31 hx (hb hby at_131) ?_
      refine og_goto X31 hx 136 (hb hby at_132) (by decide) (by decide) ?_
      exact own_retI X31 hx hret hlk (hb hby at_136) rfl (by simp) (by decide) (by decide) (⟨rfl, N31⟩)
  · refine og_ifY X29 hx 114 (hb hby at_109) (feq hc109).2 (by decide) (by decide) ?_
    refine og_iloadN X29 hx (hb hby at_114) rfl ?_
    refine og_iconst X29 hx (hb hby at_115) ?_
    by_cases hc116 : ((p1 &&& 2147483647) % 14) = 2
    · refine og_icN X29 hx (hb hby at_116) (teq hc116).2 ?_
      refine og_iconst X29 hx (hb hby at_119) ?_
      refine og_istoreN X29 hx #[iv p1, rv b1, iv ((p1 &&& 2147483647) % 14), iv 0] (hb hby at_120) rfl ?_
      refine og_aloadN X29 hx (hb hby at_121) rfl rfl ?_
      refine og_iloadN X29 hx (hb hby at_122) rfl ?_
      obtain ⟨c, hv, Ec, q0, q2⟩ := own_pick Z Z.heap c0 c1 c2 c3 c4 c5 c6 c7 c8 c9 c10 c11 c12 c13 EX0 EX1 EX2 EX3 EX4 EX5 EX6 EX7 EX8 EX9 EX10 EX11 EX12 EX13 F0 F1 F2 F3 F4 F5 F6 F7 F8 F9 F10 F11 F12 F13 _ (own_rem14 p1)
      refine own_ldA X29 hx hZ e29 A_b1_29 rfl (own_idx _ (own_rem14 p1)) hv (hb hby at_123) ?_
      show own_Go p e below _ T29 (mkF m 124 #[iv p1, rv b1, iv ((p1 &&& 2147483647) % 14), iv 0] [(.ref c)])
      refine own_callV X29 hx hZ hown (own_hw hw 33 rfl) (own_hw hw 34 rfl) (notFace_of_selects (args := #[]) (mvT hZ (own_hw hw 36 rfl))) (own_hw hw 36 rfl) (own_hw hw 35 rfl) (own_hw hw 37 rfl) (own_hw hw 3 rfl) (by decide) (b := c) (argsL := []) (rest := []) (own_rm1 l Z a0 hw c c0 c2 h29 n0 (S0.ext O29.2) (S2.ext O29.2)) e29 (Ec.ext O29.2) (by rw [hml]; rfl) (lenOf own_pd61835 rfl) rfl (hb hby at_124) (W := 0) (Nat.le_of_eq rfl) (by decide) ?_
      intro v32 T32 L32 X32 q32
      obtain ⟨rfl, N32q, e32⟩ := q32
      have N32 := Fr.app N29 N32q
      show own_Go p e below _ T32 (mkF m 127 #[iv p1, rv b1, iv ((p1 &&& 2147483647) % 14), iv 0] [(.int (if c = c0 ∨ c = c2 then (0 : Int32) else 1))])
      refine og_iloadN X32 hx (hb hby at_127) rfl ?_
      refine og_icN X32 hx (hb hby at_128) (teq (if_pos (Or.inr (q2.mpr hc116)))).2 ?_
      refine og_iconst X32 hx (hb hby at_131) ?_
      refine og_goto X32 hx 136 (hb hby at_132) (by decide) (by decide) ?_
      exact own_retI X32 hx hret hlk (hb hby at_136) rfl (by simp) (by decide) (by decide) (⟨rfl, N32⟩)
    · refine og_icY X29 hx 121 (hb hby at_116) (feq hc116).2 (by decide) (by decide) ?_
      refine og_aloadN X29 hx (hb hby at_121) rfl rfl ?_
      refine og_iloadN X29 hx (hb hby at_122) rfl ?_
      obtain ⟨c, hv, Ec, q0, q2⟩ := own_pick Z Z.heap c0 c1 c2 c3 c4 c5 c6 c7 c8 c9 c10 c11 c12 c13 EX0 EX1 EX2 EX3 EX4 EX5 EX6 EX7 EX8 EX9 EX10 EX11 EX12 EX13 F0 F1 F2 F3 F4 F5 F6 F7 F8 F9 F10 F11 F12 F13 _ (own_rem14 p1)
      refine own_ldA X29 hx hZ e29 A_b1_29 rfl (own_idx _ (own_rem14 p1)) hv (hb hby at_123) ?_
      show own_Go p e below _ T29 (mkF m 124 #[iv p1, rv b1, iv ((p1 &&& 2147483647) % 14), iv 1] [(.ref c)])
      refine own_callV X29 hx hZ hown (own_hw hw 33 rfl) (own_hw hw 34 rfl) (notFace_of_selects (args := #[]) (mvT hZ (own_hw hw 36 rfl))) (own_hw hw 36 rfl) (own_hw hw 35 rfl) (own_hw hw 37 rfl) (own_hw hw 3 rfl) (by decide) (b := c) (argsL := []) (rest := []) (own_rm1 l Z a0 hw c c0 c2 h29 n0 (S0.ext O29.2) (S2.ext O29.2)) e29 (Ec.ext O29.2) (by rw [hml]; rfl) (lenOf own_pd61835 rfl) rfl (hb hby at_124) (W := 0) (Nat.le_of_eq rfl) (by decide) ?_
      intro v33 T33 L33 X33 q33
      obtain ⟨rfl, N33q, e33⟩ := q33
      have N33 := Fr.app N29 N33q
      show own_Go p e below _ T33 (mkF m 127 #[iv p1, rv b1, iv ((p1 &&& 2147483647) % 14), iv 1] [(.int (if c = c0 ∨ c = c2 then (0 : Int32) else 1))])
      refine og_iloadN X33 hx (hb hby at_127) rfl ?_
      refine og_icN X33 hx (hb hby at_128) (teq (if_neg (fun h => h.elim (fun q => hc109 (q0.mp q)) (fun q => hc116 (q2.mp q))))).2 ?_
      refine og_iconst X33 hx (hb hby at_131) ?_
      refine og_goto X33 hx 136 (hb hby at_132) (by decide) (by decide) ?_
      exact own_retI X33 hx hret hlk (hb hby at_136) rfl (by simp) (by decide) (by decide) (⟨rfl, N33⟩)
set_option maxRecDepth 65536 in
set_option maxHeartbeats 40000000 in
theorem comes_1 {Post : Tables → Env → Array Value → State → Outcome → State → Prop} (hpost : ∀ tb e args s v u, (limb_1_1.after args s (.returned v) u = true ∧ limb_1_2.after args s (.returned v) u = true ∧ True) → FrameEnd s (.returned v) u (Jvm.fieldLocs frame_1_writes args s ++ Jvm.arrayLocs frame_1_arrays args s ++ Jvm.staticLocs frame_1_statics s) 16 128 → Post tb e args s (.returned v) u) :
    ArmFor flags0 classFile x code maxLocals ret World_1 tables_1 room_1 Calls_1 rest_1 Pre_1 Post := by
  intro l hfl _ _ p e ha hc hk s m args below hf hA hF happ hP
  obtain ⟨hcalls, hrest, hpre⟩ := hP
  obtain ⟨-, -, -, hnamed, -, -, -, hat⟩ := (Spec.applies_iff hf).mp happ
  obtain ⟨hg, hn⟩ := and_e (Cond.before_iff.mp (show (Jvm.Cond.and given_1 narrow_1).before args s = true from hpre))
  obtain ⟨hcount, hk0⟩ := and_e hg
  obtain ⟨w0, rfl⟩ : ∃ w0 : Value, args = #[w0] := by
    have hs : args.size = 1 := by simpa [Cond.value, given_1] using hcount
    obtain ⟨L⟩ := args
    match L, hs with
    | [w0], _ => exact ⟨w0, rfl⟩
  have hw := fun d (hd : d ∈ tables_1) => atoms_spec (ws := Jvm.Cond.code x code maxLocals ret :: tables_1) hat d (List.mem_cons_of_mem _ hd)
  have hfit : Fit s := fun {y c} hc i hi => by
    obtain ⟨ha, rfl⟩ := Array.getElem?_eq_some_iff.mp hc
    have q := List.all_eq_true.mp ((Array.all_eq_true_iff_forall_mem.mp hF) _ (Array.getElem_mem ha)) i (List.mem_range.mpr hi)
    simpa [Array.getElem?_eq_getElem hi] using q
  obtain ⟨i0, ei0⟩ := is_v hk0
  obtain rfl : w0 = (.int i0) := Option.some.inj ei0
  obtain ⟨n0, hn0⟩ := and_e hn
  obtain ⟨n1, hn1⟩ := and_e hn0
  obtain ⟨n2, hn2⟩ := and_e hn1
  obtain ⟨n3, hn3⟩ := and_e hn2
  obtain ⟨n4, hn4⟩ := and_e hn3
  obtain ⟨n5, hn5⟩ := and_e hn4
  obtain ⟨n6, hn6⟩ := and_e hn5
  obtain ⟨n7, hn7⟩ := and_e hn6
  obtain ⟨n8, hn8⟩ := and_e hn7
  obtain ⟨n9, hn9⟩ := and_e hn8
  obtain ⟨n10, hn10⟩ := and_e hn9
  obtain ⟨n11, hn11⟩ := and_e hn10
  obtain ⟨n12, hn12⟩ := and_e hn11
  obtain ⟨n13, hn13⟩ := and_e hn12
  obtain ⟨n14, hn14⟩ := and_e hn13
  obtain ⟨n15, hn15⟩ := and_e hn14
  obtain ⟨n16, hn16⟩ := and_e hn15
  obtain ⟨n17, hn17⟩ := and_e hn16
  obtain ⟨n18, hn18⟩ := and_e hn17
  obtain ⟨n19, hn19⟩ := and_e hn18
  obtain ⟨n20, hn20⟩ := and_e hn19
  obtain ⟨n21, hn21⟩ := and_e hn20
  obtain ⟨n22, hn22⟩ := and_e hn21
  obtain ⟨n23, hn23⟩ := and_e hn22
  obtain ⟨n24, hn24⟩ := and_e hn23
  obtain ⟨n25, hn25⟩ := and_e hn24
  obtain ⟨n26, hn26⟩ := and_e hn25
  have n27 := hn26
  obtain ⟨b0, ev0⟩ := exa_v n0
  have G0 : own_St s s.heap "NORMAL" 0 := ⟨b0, Sta.start ev0 (Or.inr ⟨(own_hw hw 3 rfl), (own_hw hw 4 rfl)⟩), Exa.start ev0 n0, own_fldI ev0 n15⟩
  obtain ⟨b1, ev1⟩ := exa_v n1
  have G1 : own_St s s.heap "BOLD" 1 := ⟨b1, Sta.start ev1 (Or.inr ⟨(own_hw hw 3 rfl), (own_hw hw 7 rfl)⟩), Exa.start ev1 n1, own_fldI ev1 n24⟩
  obtain ⟨b2, ev2⟩ := exa_v n2
  have G2 : own_St s s.heap "ITALIC" 2 := ⟨b2, Sta.start ev2 (Or.inr ⟨(own_hw hw 3 rfl), (own_hw hw 9 rfl)⟩), Exa.start ev2 n2, own_fldI ev2 n16⟩
  obtain ⟨b3, ev3⟩ := exa_v n3
  have G3 : own_St s s.heap "BOLD_ITALIC" 3 := ⟨b3, Sta.start ev3 (Or.inr ⟨(own_hw hw 3 rfl), (own_hw hw 11 rfl)⟩), Exa.start ev3 n3, own_fldI ev3 n14⟩
  obtain ⟨b4, ev4⟩ := exa_v n4
  have G4 : own_St s s.heap "DOUBLE_STRUCK" 4 := ⟨b4, Sta.start ev4 (Or.inr ⟨(own_hw hw 3 rfl), (own_hw hw 13 rfl)⟩), Exa.start ev4 n4, own_fldI ev4 n19⟩
  obtain ⟨b5, ev5⟩ := exa_v n5
  have G5 : own_St s s.heap "BOLD_FRAKTUR" 5 := ⟨b5, Sta.start ev5 (Or.inr ⟨(own_hw hw 3 rfl), (own_hw hw 15 rfl)⟩), Exa.start ev5 n5, own_fldI ev5 n26⟩
  obtain ⟨b6, ev6⟩ := exa_v n6
  have G6 : own_St s s.heap "SCRIPT" 6 := ⟨b6, Sta.start ev6 (Or.inr ⟨(own_hw hw 3 rfl), (own_hw hw 17 rfl)⟩), Exa.start ev6 n6, own_fldI ev6 n27⟩
  obtain ⟨b7, ev7⟩ := exa_v n7
  have G7 : own_St s s.heap "BOLD_SCRIPT" 7 := ⟨b7, Sta.start ev7 (Or.inr ⟨(own_hw hw 3 rfl), (own_hw hw 19 rfl)⟩), Exa.start ev7 n7, own_fldI ev7 n20⟩
  obtain ⟨b8, ev8⟩ := exa_v n8
  have G8 : own_St s s.heap "FRAKTUR" 8 := ⟨b8, Sta.start ev8 (Or.inr ⟨(own_hw hw 3 rfl), (own_hw hw 21 rfl)⟩), Exa.start ev8 n8, own_fldI ev8 n23⟩
  obtain ⟨b9, ev9⟩ := exa_v n9
  have G9 : own_St s s.heap "SANS_SERIF" 9 := ⟨b9, Sta.start ev9 (Or.inr ⟨(own_hw hw 3 rfl), (own_hw hw 23 rfl)⟩), Exa.start ev9 n9, own_fldI ev9 n25⟩
  obtain ⟨b10, ev10⟩ := exa_v n10
  have G10 : own_St s s.heap "BOLD_SANS_SERIF" 10 := ⟨b10, Sta.start ev10 (Or.inr ⟨(own_hw hw 3 rfl), (own_hw hw 25 rfl)⟩), Exa.start ev10 n10, own_fldI ev10 n22⟩
  obtain ⟨b11, ev11⟩ := exa_v n11
  have G11 : own_St s s.heap "SANS_SERIF_ITALIC" 11 := ⟨b11, Sta.start ev11 (Or.inr ⟨(own_hw hw 3 rfl), (own_hw hw 27 rfl)⟩), Exa.start ev11 n11, own_fldI ev11 n21⟩
  obtain ⟨b12, ev12⟩ := exa_v n12
  have G12 : own_St s s.heap "SANS_SERIF_BOLD_ITALIC" 12 := ⟨b12, Sta.start ev12 (Or.inr ⟨(own_hw hw 3 rfl), (own_hw hw 29 rfl)⟩), Exa.start ev12 n12, own_fldI ev12 n17⟩
  obtain ⟨b13, ev13⟩ := exa_v n13
  have G13 : own_St s s.heap "MONOSPACE" 13 := ⟨b13, Sta.start ev13 (Or.inr ⟨(own_hw hw 3 rfl), (own_hw hw 31 rfl)⟩), Exa.start ev13 n13, own_fldI ev13 n18⟩
  obtain ⟨n, o, h1, h2, h3, _, L, rfl, ⟨rfl, N⟩, hq⟩ := (own_rm0 l s _ hw i0 s.heap s.heap.size (Old.start s) G0 G1 G2 G3 G4 G5 G6 G7 G8 G9 G10 G11 G12 G13) tables_1 p e ha hc hk s m _ below hf ((Spec.applies_iff_loose hf).mp happ).1 ⟨rfl, State.Warmed39.refl s, rfl⟩ trivial
  refine ⟨n, _, h1, h2, h3, hpost _ _ _ _ _ _ ⟨Cond.after_iff.mpr rfl, Cond.after_iff.mpr (eq_i res_at (Term.int_eval (1)) rfl), trivial⟩ ⟨hq.1, hq.2.1, (hq.2.2.sift fun y hy => Or.inr (N y hy)).mono (by decide) (by decide)⟩⟩
theorem main_1_1 : Claimed_1_1 := comes_1 fun _ _ _ _ _ _ h hF => ⟨h.1, hF⟩
theorem main_1_2 : Claimed_1_2 := comes_1 fun _ _ _ _ _ _ h hF => ⟨h.2.1, hF⟩
end Jvm.Pilot.@@N@@
namespace Jvm.Pilot.@@N@@
open Jvm Jvm.ClassFile Sem Op Lib Jvm.Free Jvm.Stand Jvm.Pilot.@@N@@.Jvm.D
/-! MADE BY PROGRAM (witnessworld.py) out of the Statement's table words and the real class files: 13 classes; the members and pool entries that the words name. The judged class is class 1, her method 1. -/
namespace start1
open Jvm.ClassFile
def u (s : String) : CpInfo := .utf8 (stringToUtf16 s)
/-- a pool by its gaps: so many unusable entries, then the entry; so many at the end -/
def gap : Nat → List CpInfo → List CpInfo
  | 0, r => r
  | n + 1, r => .unusable :: gap n r
def poolList (es : List (Nat × CpInfo)) (last : Nat) : List CpInfo := es.foldr (fun e r => gap e.1 (e.2 :: r)) (gap last [])
def pool (es : List (Nat × CpInfo)) (last : Nat) : Array CpInfo := ⟨poolList es last⟩
def fileOf (pool : Array CpInfo) (this : Nat) (attrs : Array Attribute := #[]) (ms : Array MethodInfo := #[]) (fl : Nat := 33) (sup : Nat := 0) (ifs : Array Nat := #[]) (fds : Array FieldInfo := #[]) : ClassFile where
  minorVersion := 0
  majorVersion := 65
  constantPool := pool
  accessFlags := fl
  thisClass := this
  superClass := sup
  interfaces := ifs
  fields := fds
  methods := ms
  attributes := attrs
def plain (name : String) (sup : Option ClassId) : Class where
  name := name
  kind := .ordinary
  loader := none
  accessFlags := 33
  super := sup
  interfaces := #[]
  cf := none
  fields := #[]
  methods := #[]
  instanceTypes := #[]
  staticTypes := #[]
  resolved := #[]
  callSites := []
  init := .initialized
  statics := none
  mirror := none

def pool0 : Array CpInfo := pool [(5, u "<init>"), (0, u "()V"), (1, .class_ 10), (1, u "java/lang/Object")] 113

def k0m0 : Method := { name := "<init>", desc := "()V", sig := { parameters := [], returnType := none }, accessFlags := 1, code := none }
/-- java/lang/Object -/
def k0 : Class := { plain "java/lang/Object" none with
  accessFlags := 33
  interfaces := #[]
  cf := some (fileOf pool0 8 #[] #[{ accessFlags := 1, nameIndex := 5, descriptorIndex := 6, attributes := #[] }] 33 0 #[] #[])
  fields := #[]
  methods := #[k0m0]
  instanceTypes := #[]
  staticTypes := #[]
  resolved := Array.replicate 124 none
  statics := none }

def pool1 : Array CpInfo := pool [(2, .class_ 4), (1, u "java/lang/Object"), (0, u "<init>"), (0, u "()V"), (0, .class_ 8), (0, u "com/example/hypatia/hypatia/math/MathVariant"), (0, .fieldref 7 10), (0, .nameAndType 11 12), (0, u "NORMAL"), (0, u "Lcom/example/hypatia/hypatia/math/MathVariant;"), (0, .fieldref 7 14), (0, .nameAndType 15 12), (0, u "BOLD"), (0, .fieldref 7 17), (0, .nameAndType 18 12), (0, u "ITALIC"), (0, .fieldref 7 20), (0, .nameAndType 21 12), (0, u "BOLD_ITALIC"), (0, .fieldref 7 23), (0, .nameAndType 24 12), (0, u "DOUBLE_STRUCK"), (0, .fieldref 7 26), (0, .nameAndType 27 12), (0, u "BOLD_FRAKTUR"), (0, .fieldref 7 29), (0, .nameAndType 30 12), (0, u "SCRIPT"), (0, .fieldref 7 32), (0, .nameAndType 33 12), (0, u "BOLD_SCRIPT"), (0, .fieldref 7 35), (0, .nameAndType 36 12), (0, u "FRAKTUR"), (0, .fieldref 7 38), (0, .nameAndType 39 12), (0, u "SANS_SERIF"), (0, .fieldref 7 41), (0, .nameAndType 42 12), (0, u "BOLD_SANS_SERIF"), (0, .fieldref 7 44), (0, .nameAndType 45 12), (0, u "SANS_SERIF_ITALIC"), (0, .fieldref 7 47), (0, .nameAndType 48 12), (0, u "SANS_SERIF_BOLD_ITALIC"), (0, .fieldref 7 50), (0, .nameAndType 51 12), (0, u "MONOSPACE"), (0, .integer 2147483647), (0, .methodref 7 54), (0, .nameAndType 55 56), (0, u "isWritten"), (0, u "()Z"), (0, .class_ 58), (0, u "com/example/hypatia/hypatia/math/MathVariantIsWrittenPinLaw"), (2, u "law"), (0, u "(I)Z")] 5

def k1m0 : Method := { name := "<init>", desc := "()V", sig := { parameters := [], returnType := none }, accessFlags := 1, code := none }
def k1c1 : Code := { maxStack := 4, maxLocals := 4, code := code, exceptionTable := #[], attributes := #[] }
def k1m1 : Method := { name := "law", desc := "(I)Z", sig := { parameters := [.int], returnType := some .boolean }, accessFlags := 9, code := some k1c1 }
/-- com/example/hypatia/hypatia/math/MathVariantIsWrittenPinLaw -/
def k1 : Class := { plain "com/example/hypatia/hypatia/math/MathVariantIsWrittenPinLaw" (some 0) with
  accessFlags := 49
  interfaces := #[]
  cf := some (fileOf pool1 57 #[] #[{ accessFlags := 1, nameIndex := 5, descriptorIndex := 6, attributes := #[] }, { accessFlags := 9, nameIndex := 61, descriptorIndex := 62, attributes := #[] }] 49 2 #[] #[])
  fields := #[]
  methods := #[k1m0, k1m1]
  instanceTypes := #[]
  staticTypes := #[]
  resolved := Array.replicate 68 none
  statics := none }

def pool2 : Array CpInfo := pool [(1, .class_ 2), (0, u "java/lang/constant/Constable"), (0, .class_ 4), (0, u "java/lang/Object")] 6

/-- java/lang/constant/Constable -/
def k2 : Class := { plain "java/lang/constant/Constable" (some 0) with
  accessFlags := 1537
  interfaces := #[]
  cf := some (fileOf pool2 1 #[] #[] 1537 3 #[] #[])
  fields := #[]
  methods := #[]
  instanceTypes := #[]
  staticTypes := #[]
  resolved := Array.replicate 11 none
  statics := none }

def pool3 : Array CpInfo := pool [(1, .class_ 2), (0, u "java/lang/Comparable"), (0, .class_ 4), (0, u "java/lang/Object")] 7

/-- java/lang/Comparable -/
def k3 : Class := { plain "java/lang/Comparable" (some 0) with
  accessFlags := 1537
  interfaces := #[]
  cf := some (fileOf pool3 1 #[] #[] 1537 3 #[] #[])
  fields := #[]
  methods := #[]
  instanceTypes := #[]
  staticTypes := #[]
  resolved := Array.replicate 12 none
  statics := none }

def pool4 : Array CpInfo := pool [(1, .class_ 2), (0, u "java/io/Serializable"), (0, .class_ 4), (0, u "java/lang/Object")] 2

/-- java/io/Serializable -/
def k4 : Class := { plain "java/io/Serializable" (some 0) with
  accessFlags := 1537
  interfaces := #[]
  cf := some (fileOf pool4 1 #[] #[] 1537 3 #[] #[])
  fields := #[]
  methods := #[]
  instanceTypes := #[]
  staticTypes := #[]
  resolved := Array.replicate 7 none
  statics := none }

def pool5 : Array CpInfo := pool [(2, .class_ 4), (1, u "java/lang/Enum"), (0, u "name"), (0, u "Ljava/lang/String;"), (2, u "ordinal"), (0, u "I"), (1, .class_ 14), (1, u "java/lang/Object"), (4, u "hash"), (86, .class_ 108), (1, u "java/lang/Enum$EnumDesc"), (2, .class_ 112), (0, u "java/lang/constant/Constable"), (0, .class_ 114), (0, u "java/lang/Comparable"), (0, .class_ 116), (0, u "java/io/Serializable")] 87

/-- java/lang/Enum -/
def k5 : Class := { plain "java/lang/Enum" (some 0) with
  accessFlags := 1057
  interfaces := #[2, 3, 4]
  cf := some (fileOf pool5 2 #[.nestMembers #[106]] #[] 1057 12 #[111, 113, 115] #[{ accessFlags := 18, nameIndex := 5, descriptorIndex := 6, attributes := #[] }, { accessFlags := 18, nameIndex := 9, descriptorIndex := 10, attributes := #[] }, { accessFlags := 2, nameIndex := 19, descriptorIndex := 10, attributes := #[] }])
  fields := #[{ name := "name", type := (.object "java/lang/String"), accessFlags := 18, slot := 0, constantValue := 0 }, { name := "ordinal", type := .int, accessFlags := 18, slot := 1, constantValue := 0 }, { name := "hash", type := .int, accessFlags := 2, slot := 2, constantValue := 0 }]
  methods := #[]
  instanceTypes := #[(.object "java/lang/String"), .int, .int]
  staticTypes := #[]
  resolved := Array.replicate 204 none
  statics := none }

def pool6 : Array CpInfo := pool [(1, .class_ 2), (0, u "com/example/hypatia/hypatia/math/MathVariant"), (0, .fieldref 1 4), (0, .nameAndType 5 6), (0, u "NORMAL"), (0, u "Lcom/example/hypatia/hypatia/math/MathVariant;"), (2, u "BOLD"), (0, .fieldref 1 11), (0, .nameAndType 12 6), (0, u "ITALIC"), (2, u "BOLD_ITALIC"), (2, u "DOUBLE_STRUCK"), (2, u "BOLD_FRAKTUR"), (2, u "SCRIPT"), (2, u "BOLD_SCRIPT"), (2, u "FRAKTUR"), (2, u "SANS_SERIF"), (2, u "BOLD_SANS_SERIF"), (2, u "SANS_SERIF_ITALIC"), (2, u "SANS_SERIF_BOLD_ITALIC"), (2, u "MONOSPACE"), (2, u "$VALUES"), (0, u "[Lcom/example/hypatia/hypatia/math/MathVariant;"), (6, .class_ 58), (1, u "java/lang/Enum"), (116, u "isWritten"), (0, u "()Z")] 10

def k6c0 : Code := { maxStack := 2, maxLocals := 1, code := prog_34_method_5_code, exceptionTable := #[], attributes := #[] }
def k6m0 : Method := { name := "isWritten", desc := "()Z", sig := { parameters := [], returnType := some .boolean }, accessFlags := 0, code := some k6c0 }
/-- com/example/hypatia/hypatia/math/MathVariant -/
def k6 : Class := { plain "com/example/hypatia/hypatia/math/MathVariant" (some 5) with
  accessFlags := 16432
  interfaces := #[]
  cf := some (fileOf pool6 1 #[] #[{ accessFlags := 0, nameIndex := 175, descriptorIndex := 176, attributes := #[] }] 16432 56 #[] #[{ accessFlags := 16409, nameIndex := 5, descriptorIndex := 6, attributes := #[] }, { accessFlags := 16409, nameIndex := 9, descriptorIndex := 6, attributes := #[] }, { accessFlags := 16409, nameIndex := 12, descriptorIndex := 6, attributes := #[] }, { accessFlags := 16409, nameIndex := 15, descriptorIndex := 6, attributes := #[] }, { accessFlags := 16409, nameIndex := 18, descriptorIndex := 6, attributes := #[] }, { accessFlags := 16409, nameIndex := 21, descriptorIndex := 6, attributes := #[] }, { accessFlags := 16409, nameIndex := 24, descriptorIndex := 6, attributes := #[] }, { accessFlags := 16409, nameIndex := 27, descriptorIndex := 6, attributes := #[] }, { accessFlags := 16409, nameIndex := 30, descriptorIndex := 6, attributes := #[] }, { accessFlags := 16409, nameIndex := 33, descriptorIndex := 6, attributes := #[] }, { accessFlags := 16409, nameIndex := 36, descriptorIndex := 6, attributes := #[] }, { accessFlags := 16409, nameIndex := 39, descriptorIndex := 6, attributes := #[] }, { accessFlags := 16409, nameIndex := 42, descriptorIndex := 6, attributes := #[] }, { accessFlags := 16409, nameIndex := 45, descriptorIndex := 6, attributes := #[] }, { accessFlags := 4122, nameIndex := 48, descriptorIndex := 49, attributes := #[] }])
  fields := #[{ name := "NORMAL", type := (.object "com/example/hypatia/hypatia/math/MathVariant"), accessFlags := 16409, slot := 0, constantValue := 0 }, { name := "BOLD", type := (.object "com/example/hypatia/hypatia/math/MathVariant"), accessFlags := 16409, slot := 1, constantValue := 0 }, { name := "ITALIC", type := (.object "com/example/hypatia/hypatia/math/MathVariant"), accessFlags := 16409, slot := 2, constantValue := 0 }, { name := "BOLD_ITALIC", type := (.object "com/example/hypatia/hypatia/math/MathVariant"), accessFlags := 16409, slot := 3, constantValue := 0 }, { name := "DOUBLE_STRUCK", type := (.object "com/example/hypatia/hypatia/math/MathVariant"), accessFlags := 16409, slot := 4, constantValue := 0 }, { name := "BOLD_FRAKTUR", type := (.object "com/example/hypatia/hypatia/math/MathVariant"), accessFlags := 16409, slot := 5, constantValue := 0 }, { name := "SCRIPT", type := (.object "com/example/hypatia/hypatia/math/MathVariant"), accessFlags := 16409, slot := 6, constantValue := 0 }, { name := "BOLD_SCRIPT", type := (.object "com/example/hypatia/hypatia/math/MathVariant"), accessFlags := 16409, slot := 7, constantValue := 0 }, { name := "FRAKTUR", type := (.object "com/example/hypatia/hypatia/math/MathVariant"), accessFlags := 16409, slot := 8, constantValue := 0 }, { name := "SANS_SERIF", type := (.object "com/example/hypatia/hypatia/math/MathVariant"), accessFlags := 16409, slot := 9, constantValue := 0 }, { name := "BOLD_SANS_SERIF", type := (.object "com/example/hypatia/hypatia/math/MathVariant"), accessFlags := 16409, slot := 10, constantValue := 0 }, { name := "SANS_SERIF_ITALIC", type := (.object "com/example/hypatia/hypatia/math/MathVariant"), accessFlags := 16409, slot := 11, constantValue := 0 }, { name := "SANS_SERIF_BOLD_ITALIC", type := (.object "com/example/hypatia/hypatia/math/MathVariant"), accessFlags := 16409, slot := 12, constantValue := 0 }, { name := "MONOSPACE", type := (.object "com/example/hypatia/hypatia/math/MathVariant"), accessFlags := 16409, slot := 13, constantValue := 0 }, { name := "$VALUES", type := (.array (.object "com/example/hypatia/hypatia/math/MathVariant")), accessFlags := 4122, slot := 14, constantValue := 0 }]
  methods := #[k6m0]
  instanceTypes := #[(.object "java/lang/String"), .int, .int]
  staticTypes := #[(.object "com/example/hypatia/hypatia/math/MathVariant"), (.object "com/example/hypatia/hypatia/math/MathVariant"), (.object "com/example/hypatia/hypatia/math/MathVariant"), (.object "com/example/hypatia/hypatia/math/MathVariant"), (.object "com/example/hypatia/hypatia/math/MathVariant"), (.object "com/example/hypatia/hypatia/math/MathVariant"), (.object "com/example/hypatia/hypatia/math/MathVariant"), (.object "com/example/hypatia/hypatia/math/MathVariant"), (.object "com/example/hypatia/hypatia/math/MathVariant"), (.object "com/example/hypatia/hypatia/math/MathVariant"), (.object "com/example/hypatia/hypatia/math/MathVariant"), (.object "com/example/hypatia/hypatia/math/MathVariant"), (.object "com/example/hypatia/hypatia/math/MathVariant"), (.object "com/example/hypatia/hypatia/math/MathVariant"), (.array (.object "com/example/hypatia/hypatia/math/MathVariant"))]
  resolved := Array.replicate 187 none
  statics := some 0 }

def pool7 : Array CpInfo := pool [(1, u "java/lang/Cloneable"), (0, .class_ 1), (0, u "java/lang/Object"), (0, .class_ 3)] 3

/-- java/lang/Cloneable -/
def k7 : Class := { plain "java/lang/Cloneable" (some 0) with
  accessFlags := 1537
  interfaces := #[]
  cf := some (fileOf pool7 2 #[] #[] 1537 4 #[] #[])
  fields := #[]
  methods := #[]
  instanceTypes := #[]
  staticTypes := #[]
  resolved := Array.replicate 8 none
  statics := none }

/-- the primitive byte -/
def k8 : Class := { plain "byte" none with kind := .primitive 'B', accessFlags := 0x411 }
/-- [B -/
def k9 : Class := { plain "[B" (some 0) with kind := .array 8 .byte, interfaces := #[7, 4], accessFlags := 1041 }

/-- the primitive int -/
def k10 : Class := { plain "int" none with kind := .primitive 'I', accessFlags := 0x411 }
/-- [I -/
def k11 : Class := { plain "[I" (some 0) with kind := .array 10 .int, interfaces := #[7, 4], accessFlags := 1041 }

/-- [Lcom/example/hypatia/hypatia/math/MathVariant; -/
def k12 : Class := { plain "[Lcom/example/hypatia/hypatia/math/MathVariant;" (some 0) with kind := .array 6 (.object "com/example/hypatia/hypatia/math/MathVariant"), interfaces := #[7, 4], accessFlags := 1041 }

def heap : Heap := #[{ cls := 6, slots := #[.ref 1, .ref 2, .ref 3, .ref 4, .ref 5, .ref 6, .ref 7, .ref 8, .ref 9, .ref 10, .ref 11, .ref 12, .ref 13, .ref 14, .null], vm := .statics 6 },
  { cls := 6, slots := #[.null, .int 0, .int 0], vm := .none },
  { cls := 6, slots := #[.null, .int 1, .int 0], vm := .none },
  { cls := 6, slots := #[.null, .int 2, .int 0], vm := .none },
  { cls := 6, slots := #[.null, .int 3, .int 0], vm := .none },
  { cls := 6, slots := #[.null, .int 4, .int 0], vm := .none },
  { cls := 6, slots := #[.null, .int 5, .int 0], vm := .none },
  { cls := 6, slots := #[.null, .int 6, .int 0], vm := .none },
  { cls := 6, slots := #[.null, .int 7, .int 0], vm := .none },
  { cls := 6, slots := #[.null, .int 8, .int 0], vm := .none },
  { cls := 6, slots := #[.null, .int 9, .int 0], vm := .none },
  { cls := 6, slots := #[.null, .int 10, .int 0], vm := .none },
  { cls := 6, slots := #[.null, .int 11, .int 0], vm := .none },
  { cls := 6, slots := #[.null, .int 12, .int 0], vm := .none },
  { cls := 6, slots := #[.null, .int 13, .int 0], vm := .none }]
def classes : Array Class := #[k0, k1, k2, k3, k4, k5, k6, k7, k8, k9, k10, k11, k12]
def interned : List (Array UInt16 × Addr) := []
def slotsUsed : Nat := 57
def theMethod : MethodId := ⟨1, 1⟩
def args0 : Array Value := #[.int 5]
def aboutOver (below : List Frame) : State where
  vm := { classes := classes, interned := interned.toArray }
  heap := heap
  slotsUsed := slotsUsed
  threads := #[{ frames := .invoking theMethod args0 :: below }]
def below0 : List Frame := [.native { method := ⟨0, 0⟩, args := #[] }]
def about1 : State := aboutOver below0
def p0 : Program := .bare "" "" ""
def e0 : Env := launch0.env 0 0 0
theorem w_frames : about1.frames = Frame.invoking theMethod args0 :: below0 := rfl
set_option maxRecDepth 65536 in
theorem w_args : argsFit about1.vm theMethod args0 = true := by decide +kernel
set_option maxRecDepth 65536 in
theorem w_heap : heapFits about1 = true := by decide +kernel
set_option maxRecDepth 65536 in
theorem w_runnable : about1.curStatus? = some .runnable := by decide +kernel
set_option maxRecDepth 65536 in
theorem w_alone : about1.alone = true := by decide +kernel
set_option maxRecDepth 65536 in
theorem w_named : about1.methodNamed? x = some theMethod := by decide +kernel
set_option maxRecDepth 65536 in
theorem w_hears : about1.hears theMethod below0 = true := by decide +kernel
set_option maxRecDepth 65536 in
theorem w_ripe : about1.ripe theMethod args0 below0 = true := by decide +kernel
theorem w_running : about1.status = .running := rfl
set_option maxRecDepth 65536 in
theorem w_room : about1.hasRoom e0.platform room_1 = true :=
  launch0.hasRoom_least _ room_1 (by decide +kernel) (by decide +kernel) (by decide +kernel) (by decide +kernel) (by decide +kernel) (by decide +kernel)
theorem allAtoms_all (ts : List Jvm.Cond) (a : Array Jvm.Value) (st : Jvm.State) : (allAtoms ts).before a st = ts.all (fun c => c.before a st) := by
  induction ts with
  | nil => rfl
  | cons c t ih =>
    show (Jvm.Cond.and c (allAtoms t)).before a st = _
    rw [Jvm.Cond.before_and, ih, List.all_cons]
def words1 : List Jvm.Cond := Jvm.Cond.code x code maxLocals ret :: tables_1
/-- a 'code' word, met by the world's own term for the bytes: nothing is compared byte by byte -/
theorem code_word {y : MethodName} {bytes : ByteArray} {mx : Nat} {rt : Option FieldType} {a : Array Value} {s : State} {m : MethodId} {meth : Method} {c : Code} (h1 : s.methodNamed? y = some m) (h2 : s.vm.method? m = some meth) (h3 : meth.code = some c) (h4 : c.code = bytes)
    (h5 : (c.maxLocals == mx && c.exceptionTable.isEmpty && decide (c.maxStack ≤ mostOperands) && decide (meth.sig.returnType = rt) && !meth.locks && decide (parseMethodDescriptor y.desc = some meth.sig)) = true) : (Jvm.Cond.code y bytes mx rt).before a s = true := by
  simp only [Bool.and_eq_true, beq_iff_eq, Bool.not_eq_true', decide_eq_true_eq] at h5
  obtain ⟨⟨⟨⟨⟨g1, g2⟩, g3⟩, g4⟩, g5⟩, g6⟩ := h5
  simp [Cond.before, Cond.holds, Cond.value, h1, h2, h3, h4, g1, g2, g3, g4, g5, g6]
def isCode : Jvm.Cond → Bool
  | .code _ _ _ _ => true
  | _ => false
theorem all_split {L : List Jvm.Cond} {P : Jvm.Cond → Bool} (h1 : L.all (fun c => isCode c || P c) = true) (h2 : ∀ c ∈ L.filter isCode, P c = true) : L.all P = true := by
  refine List.all_eq_true.mpr fun c hc => ?_
  have h := List.all_eq_true.mp h1 c hc
  rcases Bool.eq_false_or_eq_true (isCode c) with hi | hi
  · exact h2 c (List.mem_filter.mpr ⟨hc, hi⟩)
  · simpa [hi] using h
set_option maxRecDepth 65536 in
theorem w_c0 : (Jvm.Cond.code x code maxLocals ret).before args0 about1 = true := code_word (m := ⟨1, 1⟩) (meth := k1m1) (c := k1c1) (by decide +kernel) rfl rfl rfl (by decide +kernel)
set_option maxRecDepth 65536 in
theorem w_c1 : (Jvm.Cond.code ({ cls := "com/example/hypatia/hypatia/math/MathVariant", name := "isWritten", desc := "()Z" } : Jvm.MethodName) prog_34_method_5_code (1 : Nat) (Option.some Jvm.ClassFile.FieldType.boolean)).before args0 about1 = true := code_word (m := ⟨6, 0⟩) (meth := k6m0) (c := k6c0) (by decide +kernel) rfl rfl rfl (by decide +kernel)
def codes1 : List Jvm.Cond := [Jvm.Cond.code x code maxLocals ret, Jvm.Cond.code ({ cls := "com/example/hypatia/hypatia/math/MathVariant", name := "isWritten", desc := "()Z" } : Jvm.MethodName) prog_34_method_5_code (1 : Nat) (Option.some Jvm.ClassFile.FieldType.boolean)]
set_option maxRecDepth 65536 in
theorem codes_eq : words1.filter isCode = codes1 := rfl
theorem w_codes : ∀ c ∈ words1.filter isCode, c.before args0 about1 = true := by
  rw [codes_eq]
  intro c hc
  simp only [codes1, List.mem_cons, List.not_mem_nil, or_false] at hc
  rcases hc with rfl | rfl
  · exact w_c0
  · exact w_c1
set_option maxRecDepth 65536 in
theorem w_t1 : (words1.take 24).all (fun c => isCode c || c.before args0 about1) = true := by decide +kernel
set_option maxRecDepth 65536 in
theorem w_t2 : (words1.drop 24).all (fun c => isCode c || c.before args0 about1) = true := by decide +kernel
theorem w_tables : (allAtoms (Jvm.Cond.code x code maxLocals ret :: tables_1)).before args0 about1 = true := by
  rw [allAtoms_all]
  show words1.all (fun c => c.before args0 about1) = true
  refine all_split ?_ w_codes
  rw [← List.take_append_drop 24 words1, List.all_append, w_t1, w_t2]
  rfl
set_option maxRecDepth 65536 in
theorem w_case : (Jvm.Cond.and given_1 narrow_1).before args0 about1 = true := by decide +kernel
theorem w_applies : (headSpec (Jvm.Cond.code x code maxLocals ret :: tables_1) room_1).applies x e0.platform about1 = true :=
  (Spec.applies_iff w_frames).mpr ⟨w_running, w_runnable, w_alone, w_named, w_hears, w_ripe, w_room, w_tables⟩
theorem atStart : AtStart classFile x code maxLocals ret World_1 tables_1 room_1 Calls_1 rest_1 Pre_1 launch0 p0 e0 about1 theMethod args0 below0 :=
  ⟨lists_1, trivial, launch0.admits_env _ _ _, launch0.least_env, fairChoices_fair.cas, fairChoices_fair.clock, w_frames, w_args, w_heap, w_applies, trivial, trivial, w_case⟩
end start1
theorem witness_1 : WitnessClaimed_1 := ⟨start1.p0, start1.e0, start1.about1, start1.theMethod, start1.args0, start1.below0, start1.atStart⟩
end Jvm.Pilot.@@N@@
