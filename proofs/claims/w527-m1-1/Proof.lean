import JvmDerived
import JvmDerived.Pilot.@@N@@Statement
import JvmDerived.Pilot.@@N@@Code
set_option linter.unusedVariables false
set_option linter.unusedSimpArgs false
@@BLOCK:NumsL.lean.txt@@
namespace Jvm.Pilot.@@N@@
set_option maxRecDepth 65536
set_option maxHeartbeats 40000000
open Jvm Jvm.ClassFile Sem Op Lib Jvm.Free Jvm.Stand Jvm.LawKit Jvm.RoadKit Bundle Jvm.Pilot.@@N@@.Jvm.D
abbrev own_W (a0 : Array Value) (Z : State) : Prop := ∀ d ∈ tables_1, d.before a0 Z = true
section Own
variable {p : Program} {l : Launch} {e : Env} {R : Room} {s : State} {m : MethodId} {args : Array Value} {below : List Frame} {meth : Method} {c : Code} {T T' : State} {locs : List Loc} {cells slots : Nat} {Z : State} {a0 : Array Value} {h : Heap} {P : Outcome → State → Prop}
theorem own_hw {L : List Jvm.Cond} (hw : ∀ d ∈ L, d.before a0 Z = true) (i : Nat) {d : Jvm.Cond} (q : L[i]? = some d) : d.before a0 Z = true := hw d (List.mem_of_getElem? q)
/-- from here the run comes to an end that P allows -/
def own_Go (p : Program) (e : Env) (below : List Frame) (P : Outcome → State → Prop) (T : State) (g : JFrame) : Prop :=
  ∃ s₂ o, Steps p.tables e below (T.setTop g) s₂ ∧ s₂.status = .running ∧ Ended s₂ below o ∧ P o s₂
theorem own_go {g g' : JFrame} (h : ∀ t, Steps p.tables e below (T'.setTop g') t → Steps p.tables e below (T.setTop g) t) (k : own_Go p e below P T' g') : own_Go p e below P T g := by
  obtain ⟨s₂, o, h1, h2⟩ := k
  exact ⟨s₂, o, h _ h1, h2⟩
theorem own_cut {α : Type} {g : JFrame} {F : α → JFrame} (tl : ∀ v, own_Go p e below P T (F v)) (k : (∀ v, own_Go p e below P T (F v)) → own_Go p e below P T g) : own_Go p e below P T g := k tl
theorem own_cast {g g' : JFrame} (q : g = g') (k : own_Go p e below P T g') : own_Go p e below P T g := q ▸ k
/-- what a body leaves: Q of its answer, of the heap and of the places written; no more cells and slots than k and n -/
def own_End (s : State) (Q : Option Value → Heap → List Loc → Prop) (k n : Nat) (o : Outcome) (t : State) : Prop := ∃ v L, o = .returned v ∧ Q v t.heap L ∧ FrameEnd s o t L k n
/-- a body's contract, at one heap and one list of arguments -/
def own_Met (l : Launch) (Z : State) (y : MethodName) (bytes : ByteArray) (maxL : Nat) (ret : Option FieldType) (rm : Room) (as' : Array Value) (h0 : Heap) (Q : Option Value → Heap → List Loc → Prop) : Prop :=
  ∀ ws : List Jvm.Cond, MetFree l y (head1 (Jvm.Cond.code y bytes maxL ret :: ws) rm) (fun a U => a = as' ∧ Z.Warmed39 U.vm ∧ U.heap = h0) (fun _ _ _ _ _ => True) (fun _ U o U' => ∃ v L, o = .returned v ∧ Q v U'.heap L ∧ FrameEnd U o U' L rm.cells rm.slots)
theorem own_body {y : MethodName} {bytes : ByteArray} {maxL : Nat} {ret : Option FieldType} {rm : Room} {as' : Array Value} {h0 : Heap} {Q : Option Value → Heap → List Loc → Prop} (hp : plainFor y = true)
    (k : ∀ (p : Program) (e : Env) (s : State) (m : MethodId) (below : List Frame) (meth : Method) (c : Code) (T : State), Stand p l e rm s m as' below meth c T [] 0 0 → p.tables.exec = Jvm.exec → Z.Warmed39 s.vm → c.code = bytes → c.maxLocals = maxL → s.vm.findClass y.cls = some m.cls → meth.name = y.name →
      meth.sig.returnType = ret → meth.locks = false → T.heap = h0 → own_Go p e below (own_End s Q rm.cells rm.slots) T (entryFrame m as' maxL)) : own_Met l Z y bytes maxL ret rm as' h0 Q := by
  intro ws
  refine MetFree.of_bodySF hp hisR ?_
  intro p e s m args below meth c s₁ Bd hml0 hP hK
  obtain ⟨rfl, hZ, hh⟩ := hP
  exact k p e s m below meth c s₁ (Stand.of_body Bd) Bd.exec hZ Bd.bytes hml0 (findClass_of_methodNamed Bd.named) (name_of_methodNamed Bd.named Bd.method).1 Bd.returns Bd.notSynchronized (by rw [← hh, Bd.state]; rfl)
/-- a return with a value -/
theorem own_ret (X : Stand p l e R s m args below meth c T locs cells slots) (hx : p.tables.exec = Jvm.exec) {pc : Nat} {Ls : Array Slot} {w : Value} {t : FieldType} {i : Instr} {rest : List Value} (hret : meth.sig.returnType = some t) (hlk : meth.locks = false) (hd : decode c.code pc = .ok (i, 1)) (hn : narrow t w = w)
    (hi : (i = .ireturn ∧ (t = .int ∨ t = .boolean ∨ t = .byte ∨ t = .char ∨ t = .short) ∧ ∃ z, w = .int z) ∨ (i = .lreturn ∧ t = .long ∧ ∃ z, w = .long z) ∨ (i = .dreturn ∧ t = .double ∧ ∃ z, w = .double z) ∨ (i = .freturn ∧ t = .float ∧ ∃ z, w = .float z) ∨ (i = .areturn ∧ t.isReference = true ∧ w.isRef = true))
    {Q : Option Value → Heap → List Loc → Prop} {kc kn : Nat} (hc : cells ≤ kc) (hs : slots ≤ kn) (hQ : Q (some w) T.heap locs) : own_Go p e below (own_End s Q kc kn) T (mkF m pc Ls (w :: rest)) := by
  obtain ⟨fs, hr, hrun, hended, hW, hsame⟩ := X.leave (v := some w) (fun h => by rw [hret] at h; cases h) hlk
  exact ⟨_, _, retOut X hx hret hn hi hd hr, hrun, hended, _, _, rfl, hQ, ⟨_, rfl⟩, hW, hsame.mono hc hs⟩
theorem own_retI (X : Stand p l e R s m args below meth c T locs cells slots) (hx : p.tables.exec = Jvm.exec) {pc : Nat} {Ls : Array Slot} {z : Int32} {t : FieldType} {rest : List Value} (hret : meth.sig.returnType = some t) (hlk : meth.locks = false) (hd : decode c.code pc = .ok (.ireturn, 1)) (hn : narrow t (.int z) = .int z)
    (ht : t = .int ∨ t = .boolean ∨ t = .byte ∨ t = .char ∨ t = .short) {Q : Option Value → Heap → List Loc → Prop} {kc kn : Nat} (hc : cells ≤ kc) (hs : slots ≤ kn) (hQ : Q (some (.int z)) T.heap locs) : own_Go p e below (own_End s Q kc kn) T (mkF m pc Ls (.int z :: rest)) :=
  own_ret X hx hret hlk hd hn (Or.inl ⟨rfl, ht, z, rfl⟩) hc hs hQ
theorem own_retA (X : Stand p l e R s m args below meth c T locs cells slots) (hx : p.tables.exec = Jvm.exec) {pc : Nat} {Ls : Array Slot} {w : Value} {t : FieldType} {rest : List Value} (hret : meth.sig.returnType = some t) (hlk : meth.locks = false) (hd : decode c.code pc = .ok (.areturn, 1)) (ht : t.isReference = true) (hw : w.isRef = true)
    {Q : Option Value → Heap → List Loc → Prop} {kc kn : Nat} (hc : cells ≤ kc) (hs : slots ≤ kn) (hQ : Q (some w) T.heap locs) : own_Go p e below (own_End s Q kc kn) T (mkF m pc Ls (w :: rest)) :=
  own_ret X hx hret hlk hd (by cases t <;> first | rfl | (cases w <;> rfl) | (simp [FieldType.isReference] at ht)) (Or.inr (Or.inr (Or.inr (Or.inr ⟨rfl, ht, hw⟩)))) hc hs hQ
theorem own_retV (X : Stand p l e R s m args below meth c T locs cells slots) (hx : p.tables.exec = Jvm.exec) {pc : Nat} {Ls : Array Slot} (hret : meth.sig.returnType = none) (hlk : meth.locks = false) (hd : decode c.code pc = .ok (.return_, 1))
    {Q : Option Value → Heap → List Loc → Prop} {kc kn : Nat} (hc : cells ≤ kc) (hs : slots ≤ kn) (hQ : Q none T.heap locs) : own_Go p e below (own_End s Q kc kn) T (mkF m pc Ls []) := by
  obtain ⟨fs, hr, hrun, hended, hW, hsame⟩ := X.leave (v := none) (fun _ => rfl) hlk
  exact ⟨_, _, X.returnOut hx hret hd hr, hrun, hended, _, _, rfl, hQ, ⟨_, rfl⟩, hW, hsame.mono hc hs⟩
section Og
variable {pc : Nat} {Ls : Array Slot} {st : List Value}
theorem og_iload (X : Stand p l e R s m args below meth c T locs cells slots) (hx : p.tables.exec = Jvm.exec) {k : Nat} {v : Int32} (hd : decode c.code pc = .ok (.iload k, 2)) (hl : Ls[k]? = some (.val (.int v))) (kk : own_Go p e below P T (mkF m (pc + 2) Ls (.int v :: st))) : own_Go p e below P T (mkF m pc Ls st) :=
  own_go (fun _ q => XS.iload X.here hx rfl hd hl q) kk
theorem og_iloadN (X : Stand p l e R s m args below meth c T locs cells slots) (hx : p.tables.exec = Jvm.exec) {k : Fin 4} {v : Int32} (hd : decode c.code pc = .ok (.iload_n k, 1)) (hl : Ls[k.val]? = some (.val (.int v))) (kk : own_Go p e below P T (mkF m (pc + 1) Ls (.int v :: st))) : own_Go p e below P T (mkF m pc Ls st) :=
  own_go (fun _ q => XS.iloadN X.here hx rfl hd hl q) kk
theorem og_aload (X : Stand p l e R s m args below meth c T locs cells slots) (hx : p.tables.exec = Jvm.exec) {k : Nat} {v : Value} (hd : decode c.code pc = .ok (.aload k, 2)) (hl : Ls[k]? = some (.val v)) (hv : v.isRef = true) (kk : own_Go p e below P T (mkF m (pc + 2) Ls (v :: st))) : own_Go p e below P T (mkF m pc Ls st) :=
  own_go (fun _ q => XS.aload X.here hx rfl hd hl hv q) kk
theorem og_aloadN (X : Stand p l e R s m args below meth c T locs cells slots) (hx : p.tables.exec = Jvm.exec) {k : Fin 4} {v : Value} (hd : decode c.code pc = .ok (.aload_n k, 1)) (hl : Ls[k.val]? = some (.val v)) (hv : v.isRef = true) (kk : own_Go p e below P T (mkF m (pc + 1) Ls (v :: st))) : own_Go p e below P T (mkF m pc Ls st) :=
  own_go (fun _ q => XS.aloadN X.here hx rfl hd hl hv q) kk
theorem og_lload (X : Stand p l e R s m args below meth c T locs cells slots) (hx : p.tables.exec = Jvm.exec) {k : Nat} {v : Int64} (hd : decode c.code pc = .ok (.lload k, 2)) (hl : Ls[k]? = some (.val (.long v))) (kk : own_Go p e below P T (mkF m (pc + 2) Ls (.long v :: st))) : own_Go p e below P T (mkF m pc Ls st) :=
  own_go (fun _ q => XS.lload X.here hx rfl hd hl q) kk
theorem og_lloadN (X : Stand p l e R s m args below meth c T locs cells slots) (hx : p.tables.exec = Jvm.exec) {k : Fin 4} {v : Int64} (hd : decode c.code pc = .ok (.lload_n k, 1)) (hl : Ls[k.val]? = some (.val (.long v))) (kk : own_Go p e below P T (mkF m (pc + 1) Ls (.long v :: st))) : own_Go p e below P T (mkF m pc Ls st) :=
  own_go (fun _ q => XS.lloadN X.here hx rfl hd hl q) kk
theorem og_istore (X : Stand p l e R s m args below meth c T locs cells slots) (hx : p.tables.exec = Jvm.exec) {k : Nat} {x : Int32} (l' : Array Slot) (hd : decode c.code pc = .ok (.istore k, 2)) (hl : storeLocals Ls k (.int x) = some l') (kk : own_Go p e below P T (mkF m (pc + 2) l' st)) : own_Go p e below P T (mkF m pc Ls (.int x :: st)) :=
  own_go (fun _ q => XS.istore X.here hx rfl hd rfl hl q) kk
theorem og_istoreN (X : Stand p l e R s m args below meth c T locs cells slots) (hx : p.tables.exec = Jvm.exec) {k : Fin 4} {x : Int32} (l' : Array Slot) (hd : decode c.code pc = .ok (.istore_n k, 1)) (hl : storeLocals Ls k.val (.int x) = some l') (kk : own_Go p e below P T (mkF m (pc + 1) l' st)) : own_Go p e below P T (mkF m pc Ls (.int x :: st)) :=
  own_go (fun _ q => XS.istoreN X.here hx rfl hd rfl hl q) kk
theorem og_lstore (X : Stand p l e R s m args below meth c T locs cells slots) (hx : p.tables.exec = Jvm.exec) {k : Nat} {x : Int64} (l' : Array Slot) (hd : decode c.code pc = .ok (.lstore k, 2)) (hl : storeLocals Ls k (.long x) = some l') (kk : own_Go p e below P T (mkF m (pc + 2) l' st)) : own_Go p e below P T (mkF m pc Ls (.long x :: st)) :=
  own_go (fun _ q => XS.lstore X.here hx rfl hd rfl hl q) kk
theorem og_lstoreN (X : Stand p l e R s m args below meth c T locs cells slots) (hx : p.tables.exec = Jvm.exec) {k : Fin 4} {x : Int64} (l' : Array Slot) (hd : decode c.code pc = .ok (.lstore_n k, 1)) (hl : storeLocals Ls k.val (.long x) = some l') (kk : own_Go p e below P T (mkF m (pc + 1) l' st)) : own_Go p e below P T (mkF m pc Ls (.long x :: st)) :=
  own_go (fun _ q => XS.lstoreN X.here hx rfl hd rfl hl q) kk
theorem og_astore (X : Stand p l e R s m args below meth c T locs cells slots) (hx : p.tables.exec = Jvm.exec) {k : Nat} {x : Value} (l' : Array Slot) (hd : decode c.code pc = .ok (.astore k, 2)) (hv : x.isRef = true) (hl : storeLocals Ls k x = some l') (kk : own_Go p e below P T (mkF m (pc + 2) l' st)) : own_Go p e below P T (mkF m pc Ls (x :: st)) :=
  own_go (fun _ q => XS.astore X.here hx rfl hd rfl hv hl q) kk
theorem og_astoreN (X : Stand p l e R s m args below meth c T locs cells slots) (hx : p.tables.exec = Jvm.exec) {k : Fin 4} {x : Value} (l' : Array Slot) (hd : decode c.code pc = .ok (.astore_n k, 1)) (hv : x.isRef = true) (hl : storeLocals Ls k.val x = some l') (kk : own_Go p e below P T (mkF m (pc + 1) l' st)) : own_Go p e below P T (mkF m pc Ls (x :: st)) :=
  own_go (fun _ q => XS.astoreN X.here hx rfl hd rfl hv hl q) kk
theorem og_iconst (X : Stand p l e R s m args below meth c T locs cells slots) (hx : p.tables.exec = Jvm.exec) {i : Int} (hd : decode c.code pc = .ok (.iconst i, 1)) (kk : own_Go p e below P T (mkF m (pc + 1) Ls (.int (Int32.ofInt i) :: st))) : own_Go p e below P T (mkF m pc Ls st) :=
  own_go (fun _ q => XS.iconst X.here hx rfl hd q) kk
theorem og_bipush (X : Stand p l e R s m args below meth c T locs cells slots) (hx : p.tables.exec = Jvm.exec) {i : Int} (hd : decode c.code pc = .ok (.bipush i, 2)) (kk : own_Go p e below P T (mkF m (pc + 2) Ls (.int (Int8.ofInt i).toInt32 :: st))) : own_Go p e below P T (mkF m pc Ls st) :=
  own_go (fun _ q => XS.bipush X.here hx rfl hd q) kk
theorem og_sipush (X : Stand p l e R s m args below meth c T locs cells slots) (hx : p.tables.exec = Jvm.exec) {i : Int} (hd : decode c.code pc = .ok (.sipush i, 3)) (kk : own_Go p e below P T (mkF m (pc + 3) Ls (.int (Int16.ofInt i).toInt32 :: st))) : own_Go p e below P T (mkF m pc Ls st) :=
  own_go (fun _ q => XS.sipush X.here hx rfl hd q) kk
theorem og_lconst (X : Stand p l e R s m args below meth c T locs cells slots) (hx : p.tables.exec = Jvm.exec) {k : Fin 2} (hd : decode c.code pc = .ok (.lconst k, 1)) (kk : own_Go p e below P T (mkF m (pc + 1) Ls (.long (Int64.ofNat k) :: st))) : own_Go p e below P T (mkF m pc Ls st) :=
  own_go (fun _ q => XS.lconst X.here hx rfl hd q) kk
theorem og_null (X : Stand p l e R s m args below meth c T locs cells slots) (hx : p.tables.exec = Jvm.exec) (hd : decode c.code pc = .ok (.aconst_null, 1)) (kk : own_Go p e below P T (mkF m (pc + 1) Ls (.null :: st))) : own_Go p e below P T (mkF m pc Ls st) :=
  own_go (fun _ q => XS.aconstNull X.here hx rfl hd q) kk
theorem og_iadd (X : Stand p l e R s m args below meth c T locs cells slots) (hx : p.tables.exec = Jvm.exec) {x y : Int32} (hd : decode c.code pc = .ok (.iadd, 1)) (kk : own_Go p e below P T (mkF m (pc + 1) Ls (.int (x + y) :: st))) : own_Go p e below P T (mkF m pc Ls (.int y :: .int x :: st)) :=
  own_go (fun _ q => XS.iadd X.here hx rfl hd rfl q) kk
theorem og_isub (X : Stand p l e R s m args below meth c T locs cells slots) (hx : p.tables.exec = Jvm.exec) {x y : Int32} (hd : decode c.code pc = .ok (.isub, 1)) (kk : own_Go p e below P T (mkF m (pc + 1) Ls (.int (x - y) :: st))) : own_Go p e below P T (mkF m pc Ls (.int y :: .int x :: st)) :=
  own_go (fun _ q => XS.isub X.here hx rfl hd rfl q) kk
theorem og_iand (X : Stand p l e R s m args below meth c T locs cells slots) (hx : p.tables.exec = Jvm.exec) {x y : Int32} (hd : decode c.code pc = .ok (.iand, 1)) (kk : own_Go p e below P T (mkF m (pc + 1) Ls (.int (x &&& y) :: st))) : own_Go p e below P T (mkF m pc Ls (.int y :: .int x :: st)) :=
  own_go (fun _ q => XS.iand X.here hx rfl hd rfl q) kk
theorem og_imul (X : Stand p l e R s m args below meth c T locs cells slots) (hx : p.tables.exec = Jvm.exec) {x y : Int32} (hd : decode c.code pc = .ok (.imul, 1)) (kk : own_Go p e below P T (mkF m (pc + 1) Ls (.int (x * y) :: st))) : own_Go p e below P T (mkF m pc Ls (.int y :: .int x :: st)) :=
  own_go (fun _ q => XS.imul X.here hx rfl hd rfl q) kk
theorem og_ior (X : Stand p l e R s m args below meth c T locs cells slots) (hx : p.tables.exec = Jvm.exec) {x y : Int32} (hd : decode c.code pc = .ok (.ior, 1)) (kk : own_Go p e below P T (mkF m (pc + 1) Ls (.int (x ||| y) :: st))) : own_Go p e below P T (mkF m pc Ls (.int y :: .int x :: st)) :=
  own_go (fun _ q => XS.ior X.here hx rfl hd rfl q) kk
theorem og_ixor (X : Stand p l e R s m args below meth c T locs cells slots) (hx : p.tables.exec = Jvm.exec) {x y : Int32} (hd : decode c.code pc = .ok (.ixor, 1)) (kk : own_Go p e below P T (mkF m (pc + 1) Ls (.int (x ^^^ y) :: st))) : own_Go p e below P T (mkF m pc Ls (.int y :: .int x :: st)) :=
  own_go (fun _ q => XS.ixor X.here hx rfl hd rfl q) kk
theorem og_dup (X : Stand p l e R s m args below meth c T locs cells slots) (hx : p.tables.exec = Jvm.exec) {x : Value} (hd : decode c.code pc = .ok (.dup, 1)) (hc : x.category = 1) (kk : own_Go p e below P T (mkF m (pc + 1) Ls (x :: x :: st))) : own_Go p e below P T (mkF m pc Ls (x :: st)) :=
  own_go (fun _ q => XS.dup X.here hx rfl hd rfl hc q) kk
theorem og_pop (X : Stand p l e R s m args below meth c T locs cells slots) (hx : p.tables.exec = Jvm.exec) {x : Value} (hd : decode c.code pc = .ok (.pop, 1)) (hc : x.category = 1) (kk : own_Go p e below P T (mkF m (pc + 1) Ls st)) : own_Go p e below P T (mkF m pc Ls (x :: st)) :=
  own_go (fun _ q => XS.pop X.here hx rfl hd rfl hc q) kk
theorem og_goto (X : Stand p l e R s m args below meth c T locs cells slots) (hx : p.tables.exec = Jvm.exec) {o : Int} (pc' : Nat) (hd : decode c.code pc = .ok (.goto o, 3)) (ho : 0 ≤ (pc : Int) + o) (hp : ((pc : Int) + o).toNat = pc') (kk : own_Go p e below P T (mkF m pc' Ls st)) : own_Go p e below P T (mkF m pc Ls st) :=
  own_go (fun _ q => XS.goto X.here hx rfl rfl hd ho hp q) kk
theorem og_ifN (X : Stand p l e R s m args below meth c T locs cells slots) (hx : p.tables.exec = Jvm.exec) {cd : ClassFile.Cond} {o : Int} {x : Int32} (hd : decode c.code pc = .ok (.ifCond cd o, 3)) (hc : if_icmp.holds cd x 0 = false) (kk : own_Go p e below P T (mkF m (pc + 3) Ls st)) : own_Go p e below P T (mkF m pc Ls (.int x :: st)) :=
  own_go (fun _ q => XS.ifNo X.here hx rfl hd rfl ((if0 _ _).trans hc) q) kk
theorem og_ifY (X : Stand p l e R s m args below meth c T locs cells slots) (hx : p.tables.exec = Jvm.exec) {cd : ClassFile.Cond} {o : Int} {x : Int32} (pc' : Nat) (hd : decode c.code pc = .ok (.ifCond cd o, 3)) (hc : if_icmp.holds cd x 0 = true) (ho : 0 ≤ (pc : Int) + o) (hp : ((pc : Int) + o).toNat = pc') (kk : own_Go p e below P T (mkF m pc' Ls st)) : own_Go p e below P T (mkF m pc Ls (.int x :: st)) :=
  own_go (fun _ q => XS.ifYes X.here hx rfl rfl hd rfl ((if0 _ _).trans hc) ho hp q) kk
theorem og_icN (X : Stand p l e R s m args below meth c T locs cells slots) (hx : p.tables.exec = Jvm.exec) {cd : ClassFile.Cond} {o : Int} {x y : Int32} (hd : decode c.code pc = .ok (.if_icmp cd o, 3)) (hc : if_icmp.holds cd x y = false) (kk : own_Go p e below P T (mkF m (pc + 3) Ls st)) : own_Go p e below P T (mkF m pc Ls (.int y :: .int x :: st)) :=
  own_go (fun _ q => XS.icmpNo X.here hx rfl hd rfl hc q) kk
theorem og_icY (X : Stand p l e R s m args below meth c T locs cells slots) (hx : p.tables.exec = Jvm.exec) {cd : ClassFile.Cond} {o : Int} {x y : Int32} (pc' : Nat) (hd : decode c.code pc = .ok (.if_icmp cd o, 3)) (hc : if_icmp.holds cd x y = true) (ho : 0 ≤ (pc : Int) + o) (hp : ((pc : Int) + o).toNat = pc') (kk : own_Go p e below P T (mkF m pc' Ls st)) : own_Go p e below P T (mkF m pc Ls (.int y :: .int x :: st)) :=
  own_go (fun _ q => XS.icmpYes X.here hx rfl rfl hd rfl hc ho hp q) kk
theorem og_ifnullY (X : Stand p l e R s m args below meth c T locs cells slots) (hx : p.tables.exec = Jvm.exec) {o : Int} (pc' : Nat) (hd : decode c.code pc = .ok (.ifnull o, 3)) (ho : 0 ≤ (pc : Int) + o) (hp : ((pc : Int) + o).toNat = pc') (kk : own_Go p e below P T (mkF m pc' Ls st)) : own_Go p e below P T (mkF m pc Ls (.null :: st)) :=
  own_go (fun _ q => XS.ifnullYes X.here hx rfl rfl hd rfl ho hp q) kk
theorem og_ifnullN (X : Stand p l e R s m args below meth c T locs cells slots) (hx : p.tables.exec = Jvm.exec) {b : Addr} {o : Int} (hd : decode c.code pc = .ok (.ifnull o, 3)) (kk : own_Go p e below P T (mkF m (pc + 3) Ls st)) : own_Go p e below P T (mkF m pc Ls (.ref b :: st)) :=
  own_go (fun _ q => XS.ifnullNo X.here hx rfl hd rfl q) kk
theorem og_ifnonnullY (X : Stand p l e R s m args below meth c T locs cells slots) (hx : p.tables.exec = Jvm.exec) {b : Addr} {o : Int} (pc' : Nat) (hd : decode c.code pc = .ok (.ifnonnull o, 3)) (ho : 0 ≤ (pc : Int) + o) (hp : ((pc : Int) + o).toNat = pc') (kk : own_Go p e below P T (mkF m pc' Ls st)) : own_Go p e below P T (mkF m pc Ls (.ref b :: st)) :=
  own_go (fun _ q => XS.ifnonnullYes X.here hx rfl rfl hd rfl ho hp q) kk
theorem og_ifnonnullN (X : Stand p l e R s m args below meth c T locs cells slots) (hx : p.tables.exec = Jvm.exec) {o : Int} (hd : decode c.code pc = .ok (.ifnonnull o, 3)) (kk : own_Go p e below P T (mkF m (pc + 3) Ls st)) : own_Go p e below P T (mkF m pc Ls (.null :: st)) :=
  own_go (fun _ q => XS.ifnonnullNo X.here hx rfl hd rfl q) kk
theorem og_getF (X : Stand p l e R s m args below meth c T locs cells slots) (hx : p.tables.exec = Jvm.exec) (hZ : Z.Warmed39 s.vm) {own R0 O n d : String} {index : Nat} (hown : s.vm.findClass own = some m.cls) (w : (Jvm.Cond.fieldLink own index R0 n d).before a0 Z = true) (via : Via Z R0 O n d) (eT : T.heap = h) {a : Addr} {v : Value} (F : Fld Z h a O n d v) (hd : decode c.code pc = .ok (.getfield index, 3))
    (kk : ∀ T', Stand p l e R s m args below meth c T' locs cells slots → T'.heap = h → own_Go p e below P T' (mkF m (pc + 3) Ls (v :: st))) : own_Go p e below P T (mkF m pc Ls (.ref a :: st)) := by
  obtain ⟨T', X', e', stp⟩ := getF X hx hZ hown (host := "") (Or.inl w) via eT F (g := mkF m pc Ls (.ref a :: st)) rfl rfl hd
  exact own_go stp (kk T' X' e')
theorem og_getS (X : Stand p l e R s m args below meth c T locs cells slots) (hx : p.tables.exec = Jvm.exec) (hZ : Z.Warmed39 s.vm) {own R0 O n d : String} {index : Nat} (hown : s.vm.findClass own = some m.cls) (w : (Jvm.Cond.fieldLink own index R0 n d).before a0 Z = true) (via : Via Z R0 O n d) (eT : T.heap = h) {v : Value} (F : Sta Z h O n d v) (hd : decode c.code pc = .ok (.getstatic index, 3))
    (kk : ∀ T', Stand p l e R s m args below meth c T' locs cells slots → T'.heap = h → own_Go p e below P T' (mkF m (pc + 3) Ls (v :: st))) : own_Go p e below P T (mkF m pc Ls st) := by
  obtain ⟨T', X', e', stp⟩ := getS2 X hx hZ hown (host := "") (Or.inl w) via eT F (g := mkF m pc Ls st) rfl hd
  exact own_go stp (kk T' X' e')
theorem og_ldcI (X : Stand p l e R s m args below meth c T locs cells slots) (hx : p.tables.exec = Jvm.exec) (hZ : Z.Warmed39 s.vm) {own : String} {index : Nat} {v : Int32} (hown : s.vm.findClass own = some m.cls) (w : (Jvm.Cond.constant own index v).before a0 Z = true) (hd : decode c.code pc = .ok (.ldc index, 2)) (kk : own_Go p e below P T (mkF m (pc + 2) Ls (.int v :: st))) : own_Go p e below P T (mkF m pc Ls st) :=
  own_go (fun _ q => X.ldcI hx hown (mvT hZ w) rfl hd q) kk
theorem og_iremM (X : Stand p l e R s m args below meth c T locs cells slots) (hx : p.tables.exec = Jvm.exec) {x y : Int32} (hd : decode c.code pc = .ok (.irem, 1)) (hy : y ≠ 0) (kk : own_Go p e below P T (mkF m (pc + 1) Ls (.int (x % y) :: st))) : own_Go p e below P T (mkF m pc Ls (.int y :: .int x :: st)) :=
  own_go (fun _ q => iremM X hx rfl hd rfl hy q) kk
theorem og_acmp (X : Stand p l e R s m args below meth c T locs cells slots) (hx : p.tables.exec = Jvm.exec) {cd : ACond} {x y : Value} {o : Int} {pc' : Nat} {same : Bool} (h1 : x.isRef = true) (h2 : y.isRef = true) (hd : decode c.code pc = .ok (.if_acmp cd o, 3)) (hq : decide (x = y) = same) (ho : 0 ≤ (pc : Int) + o) (hp : pc' = if acV cd same = true then ((pc : Int) + o).toNat else pc + 3)
    (kk : own_Go p e below P T (mkF m pc' Ls st)) : own_Go p e below P T (mkF m pc Ls (y :: x :: st)) :=
  own_go (fun _ q => Jvm.RoadKit.acmp (g := mkF m pc Ls (y :: x :: st)) X hx rfl h1 h2 rfl hd rfl hq ho hp q) kk
end Og
/-! the calls: by a Back (..B), or by a body's own contract -/
theorem own_callSB (X : Stand p l e R s m args below meth c T locs cells slots) (hx : p.tables.exec = Jvm.exec) (hZ : Z.Warmed39 s.vm) {own : String} {index : Nat} {y : MethodName} {bytes : ByteArray} {maxL : Nat} {ret : Option FieldType} (hown : s.vm.findClass own = some m.cls)
    (w1 : (Jvm.Cond.methodLink own index y).before a0 Z = true) (w2 : (Jvm.Cond.static y).before a0 Z = true) (w3 : (Jvm.Cond.initialized y.cls).before a0 Z = true) (w4 : (Jvm.Cond.code y bytes maxL ret).before a0 Z = true) (hy : y.cls ≠ "java/lang/invoke/MethodHandle" ∧ y.cls ≠ "java/lang/invoke/VarHandle")
    {argsL rest : List Value} {Q : Option Value → Heap → List Loc → Prop} {kc kn W : Nat} (hK : Back l R p e below s args y 3 W (fun A a => a = (argsL).toArray ∧ A.U.heap = h ∧ A.cells + kc ≤ R.cells ∧ A.slots + kn ≤ R.slots) (fun A _ v B => ∃ L, Q v B.U.heap L ∧ B.locs = A.locs ++ L ∧ B.cells = A.cells + kc ∧ B.slots = A.slots + kn)) (eT : T.heap = h) {pc : Nat} {Ls : Array Slot} {st : List Value} (hsize : Ls.size = c.maxLocals)
    (hlen : ∀ sig, parseMethodDescriptor y.desc = some sig → argsL.length = sig.parameters.length) (hstack : st = argsL.reverse ++ rest) (hd : decode c.code pc = .ok (.invokestatic index, 3)) (hW : (rest.map fun v => v.category).sum ≤ W) (hc : cells + kc ≤ R.cells) (hs : slots + kn ≤ R.slots)
    (k : ∀ (v : Option Value) (T' : State) (L : List Loc), Stand p l e R s m args below meth c T' (locs ++ L) (cells + kc) (slots + kn) → Q v T'.heap L → own_Go p e below P T' (mkF m (pc + 3) Ls (v.toList ++ rest))) : own_Go p e below P T (mkF m pc Ls st) := by
  obtain ⟨v, _, ⟨T', L', k', n'⟩, -, X', ⟨Lc, hQ, l1, y1, z1⟩, stp⟩ := Jvm.LawKit.callS X hx (y := y) hown (mvT hZ w1) (mvT hZ w2) (mvT hZ w3) (mvT hZ w4) hy hK (g := mkF m pc Ls st) rfl hsize (argsL := argsL) (rest := rest) hlen hstack (by show 2 * 0 + _ ≤ _; omega) hd (fun _ _ => ⟨rfl, eT, hc, hs⟩)
  dsimp only [Pt.U, Pt.locs, Pt.cells, Pt.slots] at X' l1 y1 z1 stp hQ
  subst l1 y1 z1
  exact own_go stp (k v T' Lc X' hQ)
theorem own_callS (X : Stand p l e R s m args below meth c T locs cells slots) (hx : p.tables.exec = Jvm.exec) (hZ : Z.Warmed39 s.vm) {own : String} {index : Nat} {y : MethodName} {bytes : ByteArray} {maxL : Nat} {ret : Option FieldType} (hown : s.vm.findClass own = some m.cls)
    (w1 : (Jvm.Cond.methodLink own index y).before a0 Z = true) (w2 : (Jvm.Cond.static y).before a0 Z = true) (w3 : (Jvm.Cond.initialized y.cls).before a0 Z = true) (w4 : (Jvm.Cond.code y bytes maxL ret).before a0 Z = true) (hy : y.cls ≠ "java/lang/invoke/MethodHandle" ∧ y.cls ≠ "java/lang/invoke/VarHandle")
    {argsL rest : List Value} {rm : Room} {Q : Option Value → Heap → List Loc → Prop} (hM : own_Met l Z y bytes maxL ret rm (argsL).toArray h Q) (eT : T.heap = h) {pc : Nat} {Ls : Array Slot} {st : List Value} (hsize : Ls.size = c.maxLocals)
    (hlen : ∀ sig, parseMethodDescriptor y.desc = some sig → argsL.length = sig.parameters.length) (hstack : st = argsL.reverse ++ rest) (hd : decode c.code pc = .ok (.invokestatic index, 3)) {W : Nat} (hW : (rest.map fun v => v.category).sum ≤ W) (h4 : rm.frames + 1 ≤ R.frames ∧ W + (maxL + 11) + rm.locals ≤ R.locals ∧ cells + rm.cells ≤ R.cells ∧ slots + rm.slots ≤ R.slots)
    (k : ∀ (v : Option Value) (T' : State) (L : List Loc), Stand p l e R s m args below meth c T' (locs ++ L) (cells + rm.cells) (slots + rm.slots) → Q v T'.heap L → own_Go p e below P T' (mkF m (pc + 3) Ls (v.toList ++ rest))) : own_Go p e below P T (mkF m pc Ls st) :=
  own_callSB X hx hZ hown w1 w2 w3 w4 hy (backOf (W := W) (hM []) hZ w4 w3 h4.1 h4.2.1) eT hsize hlen hstack hd hW h4.2.2.1 h4.2.2.2 k
theorem own_callVB (X : Stand p l e R s m args below meth c T locs cells slots) (hx : p.tables.exec = Jvm.exec) (hZ : Z.Warmed39 s.vm) {own C : String} {index : Nat} {y z : MethodName} {bytes : ByteArray} {maxL : Nat} {ret : Option FieldType} (hown : s.vm.findClass own = some m.cls)
    (w1 : (Jvm.Cond.methodLink own index y).before a0 Z = true) (w2 : (Jvm.Cond.declares y).before a0 Z = true) (nf : NotFace s y) (w3 : (Jvm.Cond.selects C y z).before a0 Z = true) (w4 : (Jvm.Cond.instanceMethod z).before a0 Z = true) (w5 : (Jvm.Cond.code z bytes maxL ret).before a0 Z = true) (w6 : (Jvm.Cond.initialized z.cls).before a0 Z = true) (hy : y.cls ≠ "java/lang/invoke/MethodHandle" ∧ y.cls ≠ "java/lang/invoke/VarHandle")
    {b : Addr} {argsL rest : List Value} {Q : Option Value → Heap → List Loc → Prop} {kc kn W : Nat} (hK : Back l R p e below s args z 3 W (fun A a => a = (.ref b :: argsL).toArray ∧ A.U.heap = h ∧ A.cells + kc ≤ R.cells ∧ A.slots + kn ≤ R.slots) (fun A _ v B => ∃ L, Q v B.U.heap L ∧ B.locs = A.locs ++ L ∧ B.cells = A.cells + kc ∧ B.slots = A.slots + kn)) (eT : T.heap = h) (E : Exa Z h b C) {pc : Nat} {Ls : Array Slot} {st : List Value} (hsize : Ls.size = c.maxLocals)
    (hlen : ∀ sig, parseMethodDescriptor y.desc = some sig → argsL.length = sig.parameters.length) (hstack : st = argsL.reverse ++ .ref b :: rest) (hd : decode c.code pc = .ok (.invokevirtual index, 3)) (hW : (rest.map fun v => v.category).sum ≤ W) (hc : cells + kc ≤ R.cells) (hs : slots + kn ≤ R.slots)
    (k : ∀ (v : Option Value) (T' : State) (L : List Loc), Stand p l e R s m args below meth c T' (locs ++ L) (cells + kc) (slots + kn) → Q v T'.heap L → own_Go p e below P T' (mkF m (pc + 3) Ls (v.toList ++ rest))) : own_Go p e below P T (mkF m pc Ls st) := by
  obtain ⟨cq, kq, qa, qb, qc⟩ := isOf hZ eT E
  obtain ⟨v, _, ⟨T', L', k', n'⟩, -, X', ⟨Lc, hQ, l1, y1, z1⟩, stp⟩ := X.virtualBack hx (y := y) (z := z) hown (mvT hZ w1) (mvT hZ w2) nf (mvT hZ w3) (mvT hZ w4) hy hK qa qc (g := mkF m pc Ls st) rfl hsize (Steps.refl _) (argsL := argsL) (rest := rest) hlen hstack (by show 2 * 0 + _ ≤ _; omega) hd (fun _ _ => ⟨rfl, eT, hc, hs⟩)
  dsimp only [Pt.U, Pt.locs, Pt.cells, Pt.slots] at X' l1 y1 z1 stp hQ
  subst l1 y1 z1
  exact own_go (fun _ q => stp.trans q) (k v T' Lc X' hQ)
theorem own_callV (X : Stand p l e R s m args below meth c T locs cells slots) (hx : p.tables.exec = Jvm.exec) (hZ : Z.Warmed39 s.vm) {own C : String} {index : Nat} {y z : MethodName} {bytes : ByteArray} {maxL : Nat} {ret : Option FieldType} (hown : s.vm.findClass own = some m.cls)
    (w1 : (Jvm.Cond.methodLink own index y).before a0 Z = true) (w2 : (Jvm.Cond.declares y).before a0 Z = true) (nf : NotFace s y) (w3 : (Jvm.Cond.selects C y z).before a0 Z = true) (w4 : (Jvm.Cond.instanceMethod z).before a0 Z = true) (w5 : (Jvm.Cond.code z bytes maxL ret).before a0 Z = true) (w6 : (Jvm.Cond.initialized z.cls).before a0 Z = true) (hy : y.cls ≠ "java/lang/invoke/MethodHandle" ∧ y.cls ≠ "java/lang/invoke/VarHandle")
    {b : Addr} {argsL rest : List Value} {rm : Room} {Q : Option Value → Heap → List Loc → Prop} (hM : own_Met l Z z bytes maxL ret rm (.ref b :: argsL).toArray h Q) (eT : T.heap = h) (E : Exa Z h b C) {pc : Nat} {Ls : Array Slot} {st : List Value} (hsize : Ls.size = c.maxLocals)
    (hlen : ∀ sig, parseMethodDescriptor y.desc = some sig → argsL.length = sig.parameters.length) (hstack : st = argsL.reverse ++ .ref b :: rest) (hd : decode c.code pc = .ok (.invokevirtual index, 3)) {W : Nat} (hW : (rest.map fun v => v.category).sum ≤ W) (h4 : rm.frames + 1 ≤ R.frames ∧ W + (maxL + 11) + rm.locals ≤ R.locals ∧ cells + rm.cells ≤ R.cells ∧ slots + rm.slots ≤ R.slots)
    (k : ∀ (v : Option Value) (T' : State) (L : List Loc), Stand p l e R s m args below meth c T' (locs ++ L) (cells + rm.cells) (slots + rm.slots) → Q v T'.heap L → own_Go p e below P T' (mkF m (pc + 3) Ls (v.toList ++ rest))) : own_Go p e below P T (mkF m pc Ls st) :=
  own_callVB X hx hZ hown w1 w2 nf w3 w4 w5 w6 hy (backOf (W := W) (hM []) hZ w5 w6 h4.1 h4.2.1) eT E hsize hlen hstack hd hW h4.2.2.1 h4.2.2.2 k
theorem own_callUB (X : Stand p l e R s m args below meth c T locs cells slots) (hx : p.tables.exec = Jvm.exec) (hZ : Z.Warmed39 s.vm) {own C owner : String} {index : Nat} {y z : MethodName} {bytes : ByteArray} {maxL : Nat} {ret : Option FieldType} (hown : s.vm.findClass own = some m.cls)
    (w1 : (Jvm.Cond.methodLink own index y).before a0 Z = true) (ws : (Jvm.Cond.sameMethod y.cls owner y.name y.desc).before a0 Z = true) (w2 : (Jvm.Cond.declares ⟨owner, y.name, y.desc⟩).before a0 Z = true) (ho : owner ≠ "java/lang/invoke/MethodHandle" ∧ owner ≠ "java/lang/invoke/VarHandle")
    (w3 : (Jvm.Cond.selects C y z).before a0 Z = true) (w4 : (Jvm.Cond.instanceMethod z).before a0 Z = true) (w5 : (Jvm.Cond.code z bytes maxL ret).before a0 Z = true) (w6 : (Jvm.Cond.initialized z.cls).before a0 Z = true)
    {b : Addr} {argsL rest : List Value} {Q : Option Value → Heap → List Loc → Prop} {kc kn W : Nat} (hK : Back l R p e below s args z 3 W (fun A a => a = (.ref b :: argsL).toArray ∧ A.U.heap = h ∧ A.cells + kc ≤ R.cells ∧ A.slots + kn ≤ R.slots) (fun A _ v B => ∃ L, Q v B.U.heap L ∧ B.locs = A.locs ++ L ∧ B.cells = A.cells + kc ∧ B.slots = A.slots + kn)) (eT : T.heap = h) (E : Exa Z h b C) {pc : Nat} {Ls : Array Slot} {st : List Value} (hsize : Ls.size = c.maxLocals)
    (hlen : ∀ sig, parseMethodDescriptor y.desc = some sig → argsL.length = sig.parameters.length) (hstack : st = argsL.reverse ++ .ref b :: rest) (hd : decode c.code pc = .ok (.invokevirtual index, 3)) (hW : (rest.map fun v => v.category).sum ≤ W) (hc : cells + kc ≤ R.cells) (hs : slots + kn ≤ R.slots)
    (k : ∀ (v : Option Value) (T' : State) (L : List Loc), Stand p l e R s m args below meth c T' (locs ++ L) (cells + kc) (slots + kn) → Q v T'.heap L → own_Go p e below P T' (mkF m (pc + 3) Ls (v.toList ++ rest))) : own_Go p e below P T (mkF m pc Ls st) := by
  obtain ⟨cq, kq, qa, qb, qc⟩ := isOf hZ eT E
  obtain ⟨v, _, ⟨T', L', k', n'⟩, -, X', ⟨Lc, hQ, l1, y1, z1⟩, stp⟩ := X.virtualBackUp hx (x := y) (y := z) (owner := owner) hown (mvT hZ w1) (mvT hZ ws) (mvT hZ w2) ho (mvT hZ w3) (mvT hZ w4) hK qa qc (g := mkF m pc Ls st) rfl hsize (Steps.refl _) (argsL := argsL) (rest := rest) hlen hstack (by show 2 * 0 + _ ≤ _; omega) hd (fun _ _ => ⟨rfl, eT, hc, hs⟩)
  dsimp only [Pt.U, Pt.locs, Pt.cells, Pt.slots] at X' l1 y1 z1 stp hQ
  subst l1 y1 z1
  exact own_go (fun _ q => stp.trans q) (k v T' Lc X' hQ)
theorem own_callU (X : Stand p l e R s m args below meth c T locs cells slots) (hx : p.tables.exec = Jvm.exec) (hZ : Z.Warmed39 s.vm) {own C owner : String} {index : Nat} {y z : MethodName} {bytes : ByteArray} {maxL : Nat} {ret : Option FieldType} (hown : s.vm.findClass own = some m.cls)
    (w1 : (Jvm.Cond.methodLink own index y).before a0 Z = true) (ws : (Jvm.Cond.sameMethod y.cls owner y.name y.desc).before a0 Z = true) (w2 : (Jvm.Cond.declares ⟨owner, y.name, y.desc⟩).before a0 Z = true) (ho : owner ≠ "java/lang/invoke/MethodHandle" ∧ owner ≠ "java/lang/invoke/VarHandle")
    (w3 : (Jvm.Cond.selects C y z).before a0 Z = true) (w4 : (Jvm.Cond.instanceMethod z).before a0 Z = true) (w5 : (Jvm.Cond.code z bytes maxL ret).before a0 Z = true) (w6 : (Jvm.Cond.initialized z.cls).before a0 Z = true)
    {b : Addr} {argsL rest : List Value} {rm : Room} {Q : Option Value → Heap → List Loc → Prop} (hM : own_Met l Z z bytes maxL ret rm (.ref b :: argsL).toArray h Q) (eT : T.heap = h) (E : Exa Z h b C) {pc : Nat} {Ls : Array Slot} {st : List Value} (hsize : Ls.size = c.maxLocals)
    (hlen : ∀ sig, parseMethodDescriptor y.desc = some sig → argsL.length = sig.parameters.length) (hstack : st = argsL.reverse ++ .ref b :: rest) (hd : decode c.code pc = .ok (.invokevirtual index, 3)) {W : Nat} (hW : (rest.map fun v => v.category).sum ≤ W) (h4 : rm.frames + 1 ≤ R.frames ∧ W + (maxL + 11) + rm.locals ≤ R.locals ∧ cells + rm.cells ≤ R.cells ∧ slots + rm.slots ≤ R.slots)
    (k : ∀ (v : Option Value) (T' : State) (L : List Loc), Stand p l e R s m args below meth c T' (locs ++ L) (cells + rm.cells) (slots + rm.slots) → Q v T'.heap L → own_Go p e below P T' (mkF m (pc + 3) Ls (v.toList ++ rest))) : own_Go p e below P T (mkF m pc Ls st) :=
  own_callUB X hx hZ hown w1 ws w2 ho w3 w4 w5 w6 (backOf (W := W) (hM []) hZ w5 w6 h4.1 h4.2.1) eT E hsize hlen hstack hd hW h4.2.2.1 h4.2.2.2 k
theorem own_callNB (X : Stand p l e R s m args below meth c T locs cells slots) (hx : p.tables.exec = Jvm.exec) (hZ : Z.Warmed39 s.vm) {own : String} {index : Nat} {y : MethodName} {bytes : ByteArray} {maxL : Nat} (hown : s.vm.findClass own = some m.cls)
    (w1 : (Jvm.Cond.methodLink own index y).before a0 Z = true) (w2 : (Jvm.Cond.instanceMethod y).before a0 Z = true) (w4 : (Jvm.Cond.code y bytes maxL none).before a0 Z = true) (w3 : (Jvm.Cond.initialized y.cls).before a0 Z = true) (hy : y.cls ≠ "java/lang/invoke/MethodHandle" ∧ y.cls ≠ "java/lang/invoke/VarHandle") (hn : y.name = "<init>")
    {b : Addr} {argsL rest : List Value} {Q : Option Value → Heap → List Loc → Prop} {kc kn W : Nat} (hK : Back l R p e below s args y 3 W (fun A a => a = (.ref b :: argsL).toArray ∧ A.U.heap = h ∧ A.cells + kc ≤ R.cells ∧ A.slots + kn ≤ R.slots) (fun A _ v B => ∃ L, Q v B.U.heap L ∧ B.locs = A.locs ++ L ∧ B.cells = A.cells + kc ∧ B.slots = A.slots + kn)) (eT : T.heap = h) {pc : Nat} {Ls : Array Slot} {st : List Value} (hsize : Ls.size = c.maxLocals)
    (hlen : ∀ sig, parseMethodDescriptor y.desc = some sig → argsL.length = sig.parameters.length) (hstack : st = argsL.reverse ++ .ref b :: rest) (hd : decode c.code pc = .ok (.invokespecial index, 3)) (hW : (rest.map fun v => v.category).sum ≤ W) (hc : cells + kc ≤ R.cells) (hs : slots + kn ≤ R.slots)
    (k : ∀ (v : Option Value) (T' : State) (L : List Loc), Stand p l e R s m args below meth c T' (locs ++ L) (cells + kc) (slots + kn) → Q v T'.heap L → own_Go p e below P T' (mkF m (pc + 3) Ls (v.toList ++ rest))) : own_Go p e below P T (mkF m pc Ls st) := by
  obtain ⟨v, _, ⟨T', L', k', n'⟩, -, X', ⟨Lc, hQ, l1, y1, z1⟩, stp⟩ := X.specialBack hx (y := y) hn hown (mvT hZ w1) (mvT hZ w2) (mvT hZ w4) hy hK (g := mkF m pc Ls st) rfl hsize (Steps.refl _) (a := b) (argsL := argsL) (rest := rest) hlen hstack (by show 2 * 0 + _ ≤ _; omega) hd (fun _ _ => ⟨rfl, eT, hc, hs⟩)
  dsimp only [Pt.U, Pt.locs, Pt.cells, Pt.slots] at X' l1 y1 z1 stp hQ
  subst l1 y1 z1
  exact own_go (fun _ q => stp.trans q) (k v T' Lc X' hQ)
theorem own_callN (X : Stand p l e R s m args below meth c T locs cells slots) (hx : p.tables.exec = Jvm.exec) (hZ : Z.Warmed39 s.vm) {own : String} {index : Nat} {y : MethodName} {bytes : ByteArray} {maxL : Nat} (hown : s.vm.findClass own = some m.cls)
    (w1 : (Jvm.Cond.methodLink own index y).before a0 Z = true) (w2 : (Jvm.Cond.instanceMethod y).before a0 Z = true) (w4 : (Jvm.Cond.code y bytes maxL none).before a0 Z = true) (w3 : (Jvm.Cond.initialized y.cls).before a0 Z = true) (hy : y.cls ≠ "java/lang/invoke/MethodHandle" ∧ y.cls ≠ "java/lang/invoke/VarHandle") (hn : y.name = "<init>")
    {b : Addr} {argsL rest : List Value} {rm : Room} {Q : Option Value → Heap → List Loc → Prop} (hM : own_Met l Z y bytes maxL none rm (.ref b :: argsL).toArray h Q) (eT : T.heap = h) {pc : Nat} {Ls : Array Slot} {st : List Value} (hsize : Ls.size = c.maxLocals)
    (hlen : ∀ sig, parseMethodDescriptor y.desc = some sig → argsL.length = sig.parameters.length) (hstack : st = argsL.reverse ++ .ref b :: rest) (hd : decode c.code pc = .ok (.invokespecial index, 3)) {W : Nat} (hW : (rest.map fun v => v.category).sum ≤ W) (h4 : rm.frames + 1 ≤ R.frames ∧ W + (maxL + 11) + rm.locals ≤ R.locals ∧ cells + rm.cells ≤ R.cells ∧ slots + rm.slots ≤ R.slots)
    (k : ∀ (v : Option Value) (T' : State) (L : List Loc), Stand p l e R s m args below meth c T' (locs ++ L) (cells + rm.cells) (slots + rm.slots) → Q v T'.heap L → own_Go p e below P T' (mkF m (pc + 3) Ls (v.toList ++ rest))) : own_Go p e below P T (mkF m pc Ls st) :=
  own_callNB X hx hZ hown w1 w2 w4 w3 hy hn (backOf (W := W) (hM []) hZ w4 w3 h4.1 h4.2.1) eT hsize hlen hstack hd hW h4.2.2.1 h4.2.2.2 k
/-- answers w, writes nothing old, leaves the heap as it was -/
def own_Qv (w : Option Value) (h0 : Heap) (n0 : Nat) (v : Option Value) (h : Heap) (L : List Loc) : Prop := v = w ∧ Fr n0 L ∧ h = h0
/-- the law's own: it answers 1 and writes nothing old -/
def own_Q1 (n0 : Nat) (v : Option Value) (h : Heap) (L : List Loc) : Prop := v = some (.int 1) ∧ Fr n0 L
theorem own_fldI {t : Term} {C n d : String} {a : Addr} {k : Int32} (ev : t.eval args Z none [] Z = some (.ref a)) (hx : (Jvm.Cond.eq (.field t C n d) (.int k)).value args Z none Z [] = some true) : Fld Z Z.heap a C n d (.int k) := by
  obtain ⟨x, y, h1, h2, k1, k2⟩ := cmp_v (Or.inl hx)
  have h2' : y = .int k := (Option.some.inj (h2.symm.trans (Term.int_eval k)))
  subst h2'
  obtain ⟨z, rfl⟩ : ∃ z, x = .int z := k2
  have hz : z = k := by simpa [Jvm.Cond.value, h1, h2] using hx
  subst hz
  exact Fld.start ((fld_at ev).symm.trans h1)
theorem own_fldN {t : Term} {C n d : String} {a : Addr} (ev : t.eval args Z none [] Z = some (.ref a)) (hx : (Jvm.Cond.eq (.field t C n d) .null).value args Z none Z [] = some true) : Fld Z Z.heap a C n d .null :=
  Fld.start ((fld_at ev).symm.trans (null_v hx))
theorem own_fldR {t : Term} {C n d : String} {a : Addr} (ev : t.eval args Z none [] Z = some (.ref a)) (hx : (Jvm.Cond.not (.eq (.field t C n d) .null)).value args Z none Z [] = some true) : ∃ b, Fld Z Z.heap a C n d (.ref b) := by
  obtain ⟨b, hb⟩ := nn_v (not_v hx)
  exact ⟨b, Fld.start ((fld_at ev).symm.trans hb)⟩
theorem own_fldX {t : Term} {C n d K : String} {a : Addr} (ev : t.eval args Z none [] Z = some (.ref a)) (hx : (Jvm.Cond.exactly (.field t C n d) K).value args Z none Z [] = some true) : ∃ b, (Term.field t C n d).eval args Z none [] Z = some (.ref b) ∧ Fld Z Z.heap a C n d (.ref b) ∧ Exa Z Z.heap b K := by
  obtain ⟨b, hb⟩ := exa_v hx
  exact ⟨b, hb, Fld.start ((fld_at ev).symm.trans hb), Exa.start hb hx⟩
theorem own_fldE {t t' : Term} {C n d : String} {a b : Addr} (ev : t.eval args Z none [] Z = some (.ref a)) (h2 : t'.eval args Z none [] Z = some (.ref b)) (hx : (Jvm.Cond.eq (.field t C n d) t').value args Z none Z [] = some true) : Fld Z Z.heap a C n d (.ref b) := by
  obtain ⟨x, y, h1, h2', k1, k2⟩ := cmp_v (Or.inl hx)
  cases h2.symm.trans h2'
  have k3 : x.isRef = true := k2.2
  have hz : x = .ref b := gotT (eq_R h1 h2 k3 rfl) hx
  subst hz
  exact Fld.start ((fld_at ev).symm.trans h1)
end Own
theorem own_and7 (x : Int32) : 0 ≤ (x &&& 7).toInt ∧ (x &&& 7).toInt ≤ 7 := by
  have h : (x &&& 7).toInt = x.toInt % 2 ^ 3 := Jvm.Kit.i32_mask x 7 (k := 3) (by decide) (by decide)
  rw [h]; omega
def own_Nu (Z : State) (h : Heap) (b : Addr) : Prop := Exa Z h b "com/example/svazek/svazek/FileKind" ∧ Fld Z h b "com/example/svazek/svazek/FileKind" "folder" "Ljava/lang/String;" .null ∧ Fld Z h b "com/example/svazek/svazek/FileKind" "mimeType" "Ljava/lang/String;" .null
def own_Re (Z : State) (h : Heap) (b : Addr) : Prop := Exa Z h b "com/example/svazek/svazek/FileKind" ∧ (∃ x, Fld Z h b "com/example/svazek/svazek/FileKind" "folder" "Ljava/lang/String;" (.ref x)) ∧ ∃ x, Fld Z h b "com/example/svazek/svazek/FileKind" "mimeType" "Ljava/lang/String;" (.ref x)
def own_Qa (Z : State) (h0 : Heap) (n0 : Nat) (i : Int32) (v : Option Value) (h : Heap) (L : List Loc) : Prop := ∃ b, v = some (.ref b) ∧ Fr n0 L ∧ h = h0 ∧ ((i < 3 ∧ own_Nu Z h0 b) ∨ (¬ i < 3 ∧ own_Re Z h0 b))
theorem d2_0 : decode prog_11_method_8_code 0 = .ok (.aload_n 0, 1) := by decide +kernel
theorem d2_1 : decode prog_11_method_8_code 1 = .ok (.getfield 51, 3) := by decide +kernel
theorem d2_4 : decode prog_11_method_8_code 4 = .ok (.ifnull 7, 3) := by decide +kernel
theorem d2_11 : decode prog_11_method_8_code 11 = .ok (.iconst 0, 1) := by decide +kernel
theorem d2_12 : decode prog_11_method_8_code 12 = .ok (.ireturn, 1) := by decide +kernel
def own_r_own_rm2n : Room := { frames := 0, cells := 0, slots := 0, locals := 0 }
theorem own_rm2n (l : Launch) (Z : State) (a0 : Array Value) (hw : own_W a0 Z) (a1 : Addr) (h0 : Heap) (n0 : Nat) (F : Fld Z h0 a1 "com/example/svazek/svazek/FileKind" "folder" "Ljava/lang/String;" .null) :
    own_Met l Z (⟨"com/example/svazek/svazek/FileKind", "isPerPage", "()Z"⟩ : MethodName) prog_11_method_8_code 1 (some .boolean) own_r_own_rm2n #[(.ref a1)] h0 (own_Qv (some (.int 0)) h0 n0) := by
  refine own_body (by decide +kernel) ?_
  intro p e s m below meth c T0 X0 hx hZ hby hml hown hnm hret hlk e0
  have N0 := Fr.nil n0
  refine own_cast (g' := (mkF m 0 #[rv a1] [])) rfl ?_
  refine og_aloadN X0 hx (hb hby d2_0) rfl rfl ?_
  refine og_getF X0 hx hZ hown (own_hw hw 12 rfl) Via.refl e0 F (hb hby d2_1) ?_
  intro T1 X1 e1
  show own_Go p e below _ T1 (mkF m 4 #[rv a1] [.null])
  refine og_ifnullY X1 hx 11 (hb hby d2_4) (by decide) (by decide) ?_
  show own_Go p e below _ T1 (mkF m 11 #[rv a1] [])
  refine og_iconst X1 hx (hb hby d2_11) ?_
  exact own_retI X1 hx hret hlk (hb hby d2_12) rfl (by simp) (by decide) (by decide) (⟨rfl, N0, e1⟩)
theorem d3_0 : decode prog_11_method_13_code 0 = .ok (.aload_n 0, 1) := by decide +kernel
theorem d3_1 : decode prog_11_method_13_code 1 = .ok (.getfield 60, 3) := by decide +kernel
theorem d3_4 : decode prog_11_method_13_code 4 = .ok (.areturn, 1) := by decide +kernel
def own_r_own_rm3n : Room := { frames := 0, cells := 0, slots := 0, locals := 0 }
theorem own_rm3n (l : Launch) (Z : State) (a0 : Array Value) (hw : own_W a0 Z) (a1 : Addr) (h0 : Heap) (n0 : Nat) (F : Fld Z h0 a1 "com/example/svazek/svazek/FileKind" "mimeType" "Ljava/lang/String;" .null) :
    own_Met l Z (⟨"com/example/svazek/svazek/FileKind", "getMimeType", "()Ljava/lang/String;"⟩ : MethodName) prog_11_method_13_code 1 (some (.object "java/lang/String")) own_r_own_rm3n #[(.ref a1)] h0 (own_Qv (some .null) h0 n0) := by
  refine own_body (by decide +kernel) ?_
  intro p e s m below meth c T0 X0 hx hZ hby hml hown hnm hret hlk e0
  have N0 := Fr.nil n0
  refine own_cast (g' := (mkF m 0 #[rv a1] [])) rfl ?_
  refine og_aloadN X0 hx (hb hby d3_0) rfl rfl ?_
  refine og_getF X0 hx hZ hown (own_hw hw 19 rfl) Via.refl e0 F (hb hby d3_1) ?_
  intro T1 X1 e1
  show own_Go p e below _ T1 (mkF m 4 #[rv a1] [.null])
  exact own_retA X1 hx hret hlk (hb hby d3_4) rfl rfl (by decide) (by decide) (⟨rfl, N0, e1⟩)
theorem d2_7 : decode prog_11_method_8_code 7 = .ok (.iconst 1, 1) := by decide +kernel
theorem d2_8 : decode prog_11_method_8_code 8 = .ok (.goto 4, 3) := by decide +kernel
def own_r_own_rm2r : Room := { frames := 0, cells := 0, slots := 0, locals := 0 }
theorem own_rm2r (l : Launch) (Z : State) (a0 : Array Value) (hw : own_W a0 Z) (a1 : Addr) (u1 : Addr) (h0 : Heap) (n0 : Nat) (F : Fld Z h0 a1 "com/example/svazek/svazek/FileKind" "folder" "Ljava/lang/String;" (.ref u1)) :
    own_Met l Z (⟨"com/example/svazek/svazek/FileKind", "isPerPage", "()Z"⟩ : MethodName) prog_11_method_8_code 1 (some .boolean) own_r_own_rm2r #[(.ref a1)] h0 (own_Qv (some (.int 1)) h0 n0) := by
  refine own_body (by decide +kernel) ?_
  intro p e s m below meth c T0 X0 hx hZ hby hml hown hnm hret hlk e0
  have N0 := Fr.nil n0
  refine own_cast (g' := (mkF m 0 #[rv a1] [])) rfl ?_
  refine og_aloadN X0 hx (hb hby d2_0) rfl rfl ?_
  refine og_getF X0 hx hZ hown (own_hw hw 12 rfl) Via.refl e0 F (hb hby d2_1) ?_
  intro T1 X1 e1
  show own_Go p e below _ T1 (mkF m 4 #[rv a1] [(.ref u1)])
  refine og_ifnullN X1 hx (hb hby d2_4) ?_
  show own_Go p e below _ T1 (mkF m 7 #[rv a1] [])
  refine og_iconst X1 hx (hb hby d2_7) ?_
  refine og_goto X1 hx 12 (hb hby d2_8) (by decide) (by decide) ?_
  exact own_retI X1 hx hret hlk (hb hby d2_12) rfl (by simp) (by decide) (by decide) (⟨rfl, N0, e1⟩)
def own_r_own_rm3r : Room := { frames := 0, cells := 0, slots := 0, locals := 0 }
theorem own_rm3r (l : Launch) (Z : State) (a0 : Array Value) (hw : own_W a0 Z) (a1 : Addr) (u1 : Addr) (h0 : Heap) (n0 : Nat) (F : Fld Z h0 a1 "com/example/svazek/svazek/FileKind" "mimeType" "Ljava/lang/String;" (.ref u1)) :
    own_Met l Z (⟨"com/example/svazek/svazek/FileKind", "getMimeType", "()Ljava/lang/String;"⟩ : MethodName) prog_11_method_13_code 1 (some (.object "java/lang/String")) own_r_own_rm3r #[(.ref a1)] h0 (own_Qv (some (.ref u1)) h0 n0) := by
  refine own_body (by decide +kernel) ?_
  intro p e s m below meth c T0 X0 hx hZ hby hml hown hnm hret hlk e0
  have N0 := Fr.nil n0
  refine own_cast (g' := (mkF m 0 #[rv a1] [])) rfl ?_
  refine og_aloadN X0 hx (hb hby d3_0) rfl rfl ?_
  refine og_getF X0 hx hZ hown (own_hw hw 19 rfl) Via.refl e0 F (hb hby d3_1) ?_
  intro T1 X1 e1
  show own_Go p e below _ T1 (mkF m 4 #[rv a1] [(.ref u1)])
  exact own_retA X1 hx hret hlk (hb hby d3_4) rfl rfl (by decide) (by decide) (⟨rfl, N0, e1⟩)
def own_St (Z : State) (h : Heap) (f : String) (t : Bool) : Prop := ∃ b, Sta Z h "com/example/svazek/svazek/FileKind" f "Lcom/example/svazek/svazek/FileKind;" (.ref b) ∧ (match t with | false => own_Nu Z h b | true => own_Re Z h b)
theorem d1_0 : decode method_3_code 0 = .ok (.iload_n 0, 1) := by decide +kernel
theorem d1_1 : decode method_3_code 1 = .ok (.ifCond .ne 7, 3) := by decide +kernel
theorem d1_4 : decode method_3_code 4 = .ok (.getstatic 23, 3) := by decide +kernel
theorem d1_7 : decode method_3_code 7 = .ok (.areturn, 1) := by decide +kernel
theorem d1_8 : decode method_3_code 8 = .ok (.iload_n 0, 1) := by decide +kernel
theorem d1_9 : decode method_3_code 9 = .ok (.iconst 1, 1) := by decide +kernel
theorem d1_10 : decode method_3_code 10 = .ok (.if_icmp .ne 7, 3) := by decide +kernel
theorem d1_13 : decode method_3_code 13 = .ok (.getstatic 27, 3) := by decide +kernel
theorem d1_16 : decode method_3_code 16 = .ok (.areturn, 1) := by decide +kernel
theorem d1_17 : decode method_3_code 17 = .ok (.iload_n 0, 1) := by decide +kernel
theorem d1_18 : decode method_3_code 18 = .ok (.iconst 2, 1) := by decide +kernel
theorem d1_19 : decode method_3_code 19 = .ok (.if_icmp .ne 7, 3) := by decide +kernel
theorem d1_22 : decode method_3_code 22 = .ok (.getstatic 30, 3) := by decide +kernel
theorem d1_25 : decode method_3_code 25 = .ok (.areturn, 1) := by decide +kernel
theorem d1_26 : decode method_3_code 26 = .ok (.iload_n 0, 1) := by decide +kernel
theorem d1_27 : decode method_3_code 27 = .ok (.iconst 3, 1) := by decide +kernel
theorem d1_28 : decode method_3_code 28 = .ok (.if_icmp .ne 7, 3) := by decide +kernel
theorem d1_31 : decode method_3_code 31 = .ok (.getstatic 33, 3) := by decide +kernel
theorem d1_34 : decode method_3_code 34 = .ok (.areturn, 1) := by decide +kernel
theorem d1_35 : decode method_3_code 35 = .ok (.iload_n 0, 1) := by decide +kernel
theorem d1_36 : decode method_3_code 36 = .ok (.iconst 4, 1) := by decide +kernel
theorem d1_37 : decode method_3_code 37 = .ok (.if_icmp .ne 7, 3) := by decide +kernel
theorem d1_40 : decode method_3_code 40 = .ok (.getstatic 36, 3) := by decide +kernel
theorem d1_43 : decode method_3_code 43 = .ok (.areturn, 1) := by decide +kernel
theorem d1_44 : decode method_3_code 44 = .ok (.iload_n 0, 1) := by decide +kernel
theorem d1_45 : decode method_3_code 45 = .ok (.iconst 5, 1) := by decide +kernel
theorem d1_46 : decode method_3_code 46 = .ok (.if_icmp .ne 7, 3) := by decide +kernel
theorem d1_49 : decode method_3_code 49 = .ok (.getstatic 39, 3) := by decide +kernel
theorem d1_52 : decode method_3_code 52 = .ok (.areturn, 1) := by decide +kernel
theorem d1_53 : decode method_3_code 53 = .ok (.iload_n 0, 1) := by decide +kernel
theorem d1_54 : decode method_3_code 54 = .ok (.bipush 6, 2) := by decide +kernel
theorem d1_56 : decode method_3_code 56 = .ok (.if_icmp .ne 7, 3) := by decide +kernel
theorem d1_59 : decode method_3_code 59 = .ok (.getstatic 42, 3) := by decide +kernel
theorem d1_62 : decode method_3_code 62 = .ok (.areturn, 1) := by decide +kernel
theorem d1_63 : decode method_3_code 63 = .ok (.getstatic 45, 3) := by decide +kernel
theorem d1_66 : decode method_3_code 66 = .ok (.areturn, 1) := by decide +kernel
def own_r_own_rm1 : Room := { frames := 0, cells := 0, slots := 0, locals := 0 }
theorem own_rm1 (l : Launch) (Z : State) (a0 : Array Value) (hw : own_W a0 Z) (p1 : Int32) (h0 : Heap) (n0 : Nat) (hi : 0 ≤ p1.toInt ∧ p1.toInt ≤ 7) (G0 : own_St Z h0 "MANIFEST" false) (G1 : own_St Z h0 "MAIN_METS" false) (G2 : own_St Z h0 "CHECKSUM_LIST" false) (G3 : own_St Z h0 "MASTER_COPY" true) (G4 : own_St Z h0 "USER_COPY" true) (G5 : own_St Z h0 "ALTO" true) (G6 : own_St Z h0 "TEXT" true) (G7 : own_St Z h0 "TECHNICAL_METADATA" true) :
    own_Met l Z (⟨"com/example/svazek/svazek/FileKindIsPerPagePinLaw", "pick", "(I)Lcom/example/svazek/svazek/FileKind;"⟩ : MethodName) method_3_code 1 (some (.object "com/example/svazek/svazek/FileKind")) own_r_own_rm1 #[(.int p1)] h0 (own_Qa Z h0 n0 p1) := by
  refine own_body (by decide +kernel) ?_
  intro p e s m below meth c T0 X0 hx hZ hby hml hown hnm hret hlk e0
  have N0 := Fr.nil n0
  refine own_cast (g' := (mkF m 0 #[iv p1] [])) rfl ?_
  obtain ⟨b0, S0, U0⟩ := G0
  obtain ⟨b1, S1, U1⟩ := G1
  obtain ⟨b2, S2, U2⟩ := G2
  obtain ⟨b3, S3, U3⟩ := G3
  obtain ⟨b4, S4, U4⟩ := G4
  obtain ⟨b5, S5, U5⟩ := G5
  obtain ⟨b6, S6, U6⟩ := G6
  obtain ⟨b7, S7, U7⟩ := G7
  refine og_iloadN X0 hx (hb hby d1_0) rfl ?_
  by_cases hc1 : p1 = 0
  · refine og_ifN X0 hx (hb hby d1_1) (teq hc1).2 ?_
    refine og_getS X0 hx hZ hown (own_hw hw 4 rfl) Via.refl e0 S0 (hb hby d1_4) ?_
    intro T1 X1 e1
    show own_Go p e below _ T1 (mkF m 7 #[iv p1] [(.ref b0)])
    subst hc1
    exact own_retA X1 hx hret hlk (hb hby d1_7) rfl rfl (by decide) (by decide) (⟨_, rfl, N0, e1, Or.inl ⟨by decide, U0⟩⟩)
  · refine og_ifY X0 hx 8 (hb hby d1_1) (feq hc1).2 (by decide) (by decide) ?_
    refine og_iloadN X0 hx (hb hby d1_8) rfl ?_
    refine og_iconst X0 hx (hb hby d1_9) ?_
    by_cases hc10 : p1 = 1
    · refine og_icN X0 hx (hb hby d1_10) (teq hc10).2 ?_
      refine og_getS X0 hx hZ hown (own_hw hw 29 rfl) Via.refl e0 S1 (hb hby d1_13) ?_
      intro T2 X2 e2
      show own_Go p e below _ T2 (mkF m 16 #[iv p1] [(.ref b1)])
      subst hc10
      exact own_retA X2 hx hret hlk (hb hby d1_16) rfl rfl (by decide) (by decide) (⟨_, rfl, N0, e2, Or.inl ⟨by decide, U1⟩⟩)
    · refine og_icY X0 hx 17 (hb hby d1_10) (feq hc10).2 (by decide) (by decide) ?_
      refine og_iloadN X0 hx (hb hby d1_17) rfl ?_
      refine og_iconst X0 hx (hb hby d1_18) ?_
      by_cases hc19 : p1 = 2
      · refine og_icN X0 hx (hb hby d1_19) (teq hc19).2 ?_
        refine og_getS X0 hx hZ hown (own_hw hw 27 rfl) Via.refl e0 S2 (hb hby d1_22) ?_
        intro T3 X3 e3
        show own_Go p e below _ T3 (mkF m 25 #[iv p1] [(.ref b2)])
        subst hc19
        exact own_retA X3 hx hret hlk (hb hby d1_25) rfl rfl (by decide) (by decide) (⟨_, rfl, N0, e3, Or.inl ⟨by decide, U2⟩⟩)
      · refine og_icY X0 hx 26 (hb hby d1_19) (feq hc19).2 (by decide) (by decide) ?_
        refine og_iloadN X0 hx (hb hby d1_26) rfl ?_
        refine og_iconst X0 hx (hb hby d1_27) ?_
        by_cases hc28 : p1 = 3
        · refine og_icN X0 hx (hb hby d1_28) (teq hc28).2 ?_
          refine og_getS X0 hx hZ hown (own_hw hw 21 rfl) Via.refl e0 S3 (hb hby d1_31) ?_
          intro T4 X4 e4
          show own_Go p e below _ T4 (mkF m 34 #[iv p1] [(.ref b3)])
          subst hc28
          exact own_retA X4 hx hret hlk (hb hby d1_34) rfl rfl (by decide) (by decide) (⟨_, rfl, N0, e4, Or.inr ⟨by decide, U3⟩⟩)
        · refine og_icY X0 hx 35 (hb hby d1_28) (feq hc28).2 (by decide) (by decide) ?_
          refine og_iloadN X0 hx (hb hby d1_35) rfl ?_
          refine og_iconst X0 hx (hb hby d1_36) ?_
          by_cases hc37 : p1 = 4
          · refine og_icN X0 hx (hb hby d1_37) (teq hc37).2 ?_
            refine og_getS X0 hx hZ hown (own_hw hw 31 rfl) Via.refl e0 S4 (hb hby d1_40) ?_
            intro T5 X5 e5
            show own_Go p e below _ T5 (mkF m 43 #[iv p1] [(.ref b4)])
            subst hc37
            exact own_retA X5 hx hret hlk (hb hby d1_43) rfl rfl (by decide) (by decide) (⟨_, rfl, N0, e5, Or.inr ⟨by decide, U4⟩⟩)
          · refine og_icY X0 hx 44 (hb hby d1_37) (feq hc37).2 (by decide) (by decide) ?_
            refine og_iloadN X0 hx (hb hby d1_44) rfl ?_
            refine og_iconst X0 hx (hb hby d1_45) ?_
            by_cases hc46 : p1 = 5
            · refine og_icN X0 hx (hb hby d1_46) (teq hc46).2 ?_
              refine og_getS X0 hx hZ hown (own_hw hw 33 rfl) Via.refl e0 S5 (hb hby d1_49) ?_
              intro T6 X6 e6
              show own_Go p e below _ T6 (mkF m 52 #[iv p1] [(.ref b5)])
              subst hc46
              exact own_retA X6 hx hret hlk (hb hby d1_52) rfl rfl (by decide) (by decide) (⟨_, rfl, N0, e6, Or.inr ⟨by decide, U5⟩⟩)
            · refine og_icY X0 hx 53 (hb hby d1_46) (feq hc46).2 (by decide) (by decide) ?_
              refine og_iloadN X0 hx (hb hby d1_53) rfl ?_
              refine og_bipush X0 hx (hb hby d1_54) ?_
              by_cases hc56 : p1 = 6
              · refine og_icN X0 hx (hb hby d1_56) (teq hc56).2 ?_
                refine og_getS X0 hx hZ hown (own_hw hw 23 rfl) Via.refl e0 S6 (hb hby d1_59) ?_
                intro T7 X7 e7
                show own_Go p e below _ T7 (mkF m 62 #[iv p1] [(.ref b6)])
                subst hc56
                exact own_retA X7 hx hret hlk (hb hby d1_62) rfl rfl (by decide) (by decide) (⟨_, rfl, N0, e7, Or.inr ⟨by decide, U6⟩⟩)
              · refine og_icY X0 hx 63 (hb hby d1_56) (feq hc56).2 (by decide) (by decide) ?_
                refine og_getS X0 hx hZ hown (own_hw hw 25 rfl) Via.refl e0 S7 (hb hby d1_63) ?_
                intro T8 X8 e8
                show own_Go p e below _ T8 (mkF m 66 #[iv p1] [(.ref b7)])
                have hc : p1 = 7 := Int32.toInt_inj.mp (by
                  have k0 : p1.toInt ≠ 0 := fun q => hc1 (Int32.toInt_inj.mp q)
                  have k1 : p1.toInt ≠ 1 := fun q => hc10 (Int32.toInt_inj.mp q)
                  have k2 : p1.toInt ≠ 2 := fun q => hc19 (Int32.toInt_inj.mp q)
                  have k3 : p1.toInt ≠ 3 := fun q => hc28 (Int32.toInt_inj.mp q)
                  have k4 : p1.toInt ≠ 4 := fun q => hc37 (Int32.toInt_inj.mp q)
                  have k5 : p1.toInt ≠ 5 := fun q => hc46 (Int32.toInt_inj.mp q)
                  have k6 : p1.toInt ≠ 6 := fun q => hc56 (Int32.toInt_inj.mp q)
                  show p1.toInt = 7
                  omega)
                subst hc
                exact own_retA X8 hx hret hlk (hb hby d1_66) rfl rfl (by decide) (by decide) (⟨_, rfl, N0, e8, Or.inr ⟨by decide, U7⟩⟩)
theorem own_pd44543 : parseMethodDescriptor "(I)Lcom/example/svazek/svazek/FileKind;" = some ⟨[.int], some (.object "com/example/svazek/svazek/FileKind")⟩ := by decide +kernel
theorem own_pd61835 : parseMethodDescriptor "()Z" = some ⟨[], some .boolean⟩ := by decide +kernel
theorem own_pd53479 : parseMethodDescriptor "()Ljava/lang/String;" = some ⟨[], some (.object "java/lang/String")⟩ := by decide +kernel
theorem own_rm0 (l : Launch) (Z : State) (a0 : Array Value) (hw : own_W a0 Z) (p1 : Int32) (h0 : Heap) (n0 : Nat) (G0 : own_St Z h0 "MANIFEST" false) (G1 : own_St Z h0 "MAIN_METS" false) (G2 : own_St Z h0 "CHECKSUM_LIST" false) (G3 : own_St Z h0 "MASTER_COPY" true) (G4 : own_St Z h0 "USER_COPY" true) (G5 : own_St Z h0 "ALTO" true) (G6 : own_St Z h0 "TEXT" true) (G7 : own_St Z h0 "TECHNICAL_METADATA" true) :
    own_Met l Z x code maxLocals ret room_1 #[(.int p1)] h0 (own_Q1 n0) := by
  refine own_body (by decide +kernel) ?_
  intro p e s m below meth c T0 X0 hx hZ hby hml hown hnm hret hlk e0
  have N0 := Fr.nil n0
  refine own_cast (g' := (mkF m 0 #[iv p1, .unset, .unset, .unset, .unset] [])) rfl ?_
  refine og_iloadN X0 hx (hb hby at_0) rfl ?_
  refine og_bipush X0 hx (hb hby at_1) ?_
  refine og_iand X0 hx (hb hby at_3) ?_
  refine og_istoreN X0 hx #[iv p1, iv (p1 &&& 7), .unset, .unset, .unset] (hb hby at_4) rfl ?_
  refine og_iloadN X0 hx (hb hby at_5) rfl ?_
  refine own_callS X0 hx hZ hown (own_hw hw 0 rfl) (own_hw hw 1 rfl) (own_hw hw 2 rfl) (own_hw hw 3 rfl) (by decide) (argsL := [(.int (p1 &&& 7))]) (rest := []) (own_rm1 l Z a0 hw (p1 &&& 7) h0 n0 (own_and7 _) G0 G1 G2 G3 G4 G5 G6 G7) e0 (by rw [hml]; rfl) (lenOf own_pd44543 rfl) rfl (hb hby at_6) (W := 0) (Nat.le_of_eq rfl) (by decide) ?_
  intro v1 T1 L1 X1 q1
  obtain ⟨b, rfl, N1q, e1, hd⟩ := q1
  have N1 := Fr.app N0 N1q
  show own_Go p e below _ T1 (mkF m 9 #[iv p1, iv (p1 &&& 7), .unset, .unset, .unset] [(.ref b)])
  refine og_astoreN X1 hx #[iv p1, iv (p1 &&& 7), rv b, .unset, .unset] (hb hby at_9) rfl rfl ?_
  refine og_iloadN X1 hx (hb hby at_10) rfl ?_
  refine og_iconst X1 hx (hb hby at_11) ?_
  by_cases hc12 : (p1 &&& 7) < 3
  · refine og_icY X1 hx 19 (hb hby at_12) (tlt hc12).1 (by decide) (by decide) ?_
    refine og_iconst X1 hx (hb hby at_19) ?_
    refine og_istoreN X1 hx #[iv p1, iv (p1 &&& 7), rv b, iv 0, .unset] (hb hby at_20) rfl ?_
    refine og_aloadN X1 hx (hb hby at_21) rfl rfl ?_
    obtain ⟨-, Eb, Fu, Fv⟩ := hd.resolve_right (fun h => h.1 hc12)
    refine own_callV X1 hx hZ hown (own_hw hw 7 rfl) (own_hw hw 8 rfl) (notFace_of_selects (args := #[]) (mvT hZ (own_hw hw 10 rfl))) (own_hw hw 10 rfl) (own_hw hw 9 rfl) (own_hw hw 11 rfl) (own_hw hw 5 rfl) (by decide) (b := b) (argsL := []) (rest := []) (own_rm2n l Z a0 hw b h0 n0 Fu) e1 Eb (by rw [hml]; rfl) (lenOf own_pd61835 rfl) rfl (hb hby at_22) (W := 0) (Nat.le_of_eq rfl) (by decide) ?_
    intro v2 T2 L2 X2 q2
    obtain ⟨rfl, N2q, e2⟩ := q2
    have N2 := Fr.app N1 N2q
    show own_Go p e below _ T2 (mkF m 25 #[iv p1, iv (p1 &&& 7), rv b, iv 0, .unset] [(.int (0 : Int32))])
    refine og_istore X2 hx #[iv p1, iv (p1 &&& 7), rv b, iv 0, iv (0 : Int32)] (hb hby at_25) rfl ?_
    refine og_iload X2 hx (hb hby at_27) rfl ?_
    refine og_iloadN X2 hx (hb hby at_29) rfl ?_
    refine og_icN X2 hx (hb hby at_30) (teq (by decide)).2 ?_
    refine og_iload X2 hx (hb hby at_33) rfl ?_
    refine og_aloadN X2 hx (hb hby at_35) rfl rfl ?_
    refine own_callV X2 hx hZ hown (own_hw hw 14 rfl) (own_hw hw 15 rfl) (notFace_of_selects (args := #[]) (mvT hZ (own_hw hw 17 rfl))) (own_hw hw 17 rfl) (own_hw hw 16 rfl) (own_hw hw 18 rfl) (own_hw hw 5 rfl) (by decide) (b := b) (argsL := []) (rest := [(.int (0 : Int32))]) (own_rm3n l Z a0 hw b h0 n0 Fv) e2 Eb (by rw [hml]; rfl) (lenOf own_pd53479 rfl) rfl (hb hby at_36) (W := 1) (Nat.le_of_eq rfl) (by decide) ?_
    intro v3 T3 L3 X3 q3
    obtain ⟨rfl, N3q, e3⟩ := q3
    have N3 := Fr.app N2 N3q
    show own_Go p e below _ T3 (mkF m 39 #[iv p1, iv (p1 &&& 7), rv b, iv 0, iv (0 : Int32)] [.null, (.int (0 : Int32))])
    refine og_ifnullY X3 hx 46 (hb hby at_39) (by decide) (by decide) ?_
    show own_Go p e below _ T3 (mkF m 46 #[iv p1, iv (p1 &&& 7), rv b, iv 0, iv (0 : Int32)] [(.int (0 : Int32))])
    refine og_iconst X3 hx (hb hby at_46) ?_
    refine og_icN X3 hx (hb hby at_47) (teq (by decide)).2 ?_
    refine og_iconst X3 hx (hb hby at_50) ?_
    refine og_goto X3 hx 55 (hb hby at_51) (by decide) (by decide) ?_
    exact own_retI X3 hx hret hlk (hb hby at_55) rfl (by simp) (by decide) (by decide) (⟨rfl, N3⟩)
  · refine og_icN X1 hx (hb hby at_12) (flt hc12).1 ?_
    refine og_iconst X1 hx (hb hby at_15) ?_
    refine og_goto X1 hx 20 (hb hby at_16) (by decide) (by decide) ?_
    refine og_istoreN X1 hx #[iv p1, iv (p1 &&& 7), rv b, iv 1, .unset] (hb hby at_20) rfl ?_
    refine og_aloadN X1 hx (hb hby at_21) rfl rfl ?_
    obtain ⟨-, Eb, ⟨u, Fu⟩, v, Fv⟩ := hd.resolve_left (fun h => hc12 h.1)
    refine own_callV X1 hx hZ hown (own_hw hw 7 rfl) (own_hw hw 8 rfl) (notFace_of_selects (args := #[]) (mvT hZ (own_hw hw 10 rfl))) (own_hw hw 10 rfl) (own_hw hw 9 rfl) (own_hw hw 11 rfl) (own_hw hw 5 rfl) (by decide) (b := b) (argsL := []) (rest := []) (own_rm2r l Z a0 hw b u h0 n0 Fu) e1 Eb (by rw [hml]; rfl) (lenOf own_pd61835 rfl) rfl (hb hby at_22) (W := 0) (Nat.le_of_eq rfl) (by decide) ?_
    intro v4 T4 L4 X4 q4
    obtain ⟨rfl, N4q, e4⟩ := q4
    have N4 := Fr.app N1 N4q
    show own_Go p e below _ T4 (mkF m 25 #[iv p1, iv (p1 &&& 7), rv b, iv 1, .unset] [(.int (1 : Int32))])
    refine og_istore X4 hx #[iv p1, iv (p1 &&& 7), rv b, iv 1, iv (1 : Int32)] (hb hby at_25) rfl ?_
    refine og_iload X4 hx (hb hby at_27) rfl ?_
    refine og_iloadN X4 hx (hb hby at_29) rfl ?_
    refine og_icN X4 hx (hb hby at_30) (teq (by decide)).2 ?_
    refine og_iload X4 hx (hb hby at_33) rfl ?_
    refine og_aloadN X4 hx (hb hby at_35) rfl rfl ?_
    refine own_callV X4 hx hZ hown (own_hw hw 14 rfl) (own_hw hw 15 rfl) (notFace_of_selects (args := #[]) (mvT hZ (own_hw hw 17 rfl))) (own_hw hw 17 rfl) (own_hw hw 16 rfl) (own_hw hw 18 rfl) (own_hw hw 5 rfl) (by decide) (b := b) (argsL := []) (rest := [(.int (1 : Int32))]) (own_rm3r l Z a0 hw b v h0 n0 Fv) e4 Eb (by rw [hml]; rfl) (lenOf own_pd53479 rfl) rfl (hb hby at_36) (W := 1) (Nat.le_of_eq rfl) (by decide) ?_
    intro v5 T5 L5 X5 q5
    obtain ⟨rfl, N5q, e5⟩ := q5
    have N5 := Fr.app N4 N5q
    show own_Go p e below _ T5 (mkF m 39 #[iv p1, iv (p1 &&& 7), rv b, iv 1, iv (1 : Int32)] [(.ref v), (.int (1 : Int32))])
    refine og_ifnullN X5 hx (hb hby at_39) ?_
    show own_Go p e below _ T5 (mkF m 42 #[iv p1, iv (p1 &&& 7), rv b, iv 1, iv (1 : Int32)] [(.int (1 : Int32))])
    refine og_iconst X5 hx (hb hby at_42) ?_
    refine og_goto X5 hx 47 (hb hby at_43) (by decide) (by decide) ?_
    refine og_icN X5 hx (hb hby at_47) (teq (by decide)).2 ?_
    refine og_iconst X5 hx (hb hby at_50) ?_
    refine og_goto X5 hx 55 (hb hby at_51) (by decide) (by decide) ?_
    exact own_retI X5 hx hret hlk (hb hby at_55) rfl (by simp) (by decide) (by decide) (⟨rfl, N5⟩)
set_option maxRecDepth 65536 in
set_option maxHeartbeats 40000000 in
theorem comes_1 {Post : Tables → Env → Array Value → State → Outcome → State → Prop} (hpost : ∀ tb e args s v u, (limb_1_1.after args s (.returned v) u = true ∧ limb_1_2.after args s (.returned v) u = true ∧ True) → FrameEnd s (.returned v) u (Jvm.fieldLocs frame_1_writes args s ++ Jvm.arrayLocs frame_1_arrays args s ++ Jvm.staticLocs frame_1_statics s) 0 0 → Post tb e args s (.returned v) u) :
    ArmFor flags0 classFile x code maxLocals ret World_1 tables_1 room_1 Calls_1 rest_1 Pre_1 Post := by
  intro l hfl _ _ p e ha hc hk s m args below hf hA hF happ hP
  obtain ⟨hcalls, hrest, hpre⟩ := hP
  obtain ⟨-, -, -, hnamed, -, -, -, hat⟩ := (Spec.applies_iff hf).mp happ
  obtain ⟨hg, hn⟩ := and_e (Cond.before_iff.mp (show (Jvm.Cond.and given_1 narrow_1).before args s = true from hpre))
  obtain ⟨hcount, hk0⟩ := and_e hg
  obtain ⟨w0, rfl⟩ : ∃ w0 : Value, args = #[w0] := by
    have hs : args.size = 1 := by simpa [Cond.value, given_1] using hcount
    obtain ⟨L⟩ := args
    match L, hs with
    | [w0], _ => exact ⟨w0, rfl⟩
  have hw := fun d (hd : d ∈ tables_1) => atoms_spec (ws := Jvm.Cond.code x code maxLocals ret :: tables_1) hat d (List.mem_cons_of_mem _ hd)
  have hfit : Fit s := fun {y c} hc i hi => by
    obtain ⟨ha, rfl⟩ := Array.getElem?_eq_some_iff.mp hc
    have q := List.all_eq_true.mp ((Array.all_eq_true_iff_forall_mem.mp hF) _ (Array.getElem_mem ha)) i (List.mem_range.mpr hi)
    simpa [Array.getElem?_eq_getElem hi] using q
  obtain ⟨i0, ei0⟩ := is_v hk0
  obtain rfl : w0 = (.int i0) := Option.some.inj ei0
  obtain ⟨n0, hn0⟩ := and_e hn
  obtain ⟨n1, hn1⟩ := and_e hn0
  obtain ⟨n2, hn2⟩ := and_e hn1
  obtain ⟨n3, hn3⟩ := and_e hn2
  obtain ⟨n4, hn4⟩ := and_e hn3
  obtain ⟨n5, hn5⟩ := and_e hn4
  obtain ⟨n6, hn6⟩ := and_e hn5
  obtain ⟨n7, hn7⟩ := and_e hn6
  obtain ⟨n8, hn8⟩ := and_e hn7
  obtain ⟨n9, hn9⟩ := and_e hn8
  obtain ⟨n10, hn10⟩ := and_e hn9
  obtain ⟨n11, hn11⟩ := and_e hn10
  obtain ⟨n12, hn12⟩ := and_e hn11
  obtain ⟨n13, hn13⟩ := and_e hn12
  obtain ⟨n14, hn14⟩ := and_e hn13
  obtain ⟨n15, hn15⟩ := and_e hn14
  obtain ⟨n16, hn16⟩ := and_e hn15
  obtain ⟨n17, hn17⟩ := and_e hn16
  obtain ⟨n18, hn18⟩ := and_e hn17
  obtain ⟨n19, hn19⟩ := and_e hn18
  obtain ⟨n20, hn20⟩ := and_e hn19
  obtain ⟨n21, hn21⟩ := and_e hn20
  obtain ⟨n22, hn22⟩ := and_e hn21
  have n23 := hn22
  obtain ⟨b0, ev0⟩ := exa_v n0
  obtain ⟨b1, ev1⟩ := exa_v n15
  obtain ⟨b2, ev2⟩ := exa_v n12
  obtain ⟨b3, ev3⟩ := exa_v n3
  obtain ⟨b4, ev4⟩ := exa_v n18
  obtain ⟨b5, ev5⟩ := exa_v n21
  obtain ⟨b6, ev6⟩ := exa_v n6
  obtain ⟨b7, ev7⟩ := exa_v n9
  have F_MANIFEST_folder := own_fldN ev0 n1
  have F_MANIFEST_mimeType := own_fldN ev0 n2
  have F_MAIN_METS_folder := own_fldN ev1 n16
  have F_MAIN_METS_mimeType := own_fldN ev1 n17
  have F_CHECKSUM_LIST_folder := own_fldN ev2 n13
  have F_CHECKSUM_LIST_mimeType := own_fldN ev2 n14
  obtain ⟨x_MASTER_COPY_folder, v_MASTER_COPY_folder, F_MASTER_COPY_folder, -⟩ := own_fldX ev3 n4
  obtain ⟨x_MASTER_COPY_mimeType, v_MASTER_COPY_mimeType, F_MASTER_COPY_mimeType, -⟩ := own_fldX ev3 n5
  obtain ⟨x_USER_COPY_folder, v_USER_COPY_folder, F_USER_COPY_folder, -⟩ := own_fldX ev4 n19
  obtain ⟨x_ALTO_folder, v_ALTO_folder, F_ALTO_folder, -⟩ := own_fldX ev5 n22
  obtain ⟨x_TEXT_folder, v_TEXT_folder, F_TEXT_folder, -⟩ := own_fldX ev6 n7
  obtain ⟨x_TEXT_mimeType, v_TEXT_mimeType, F_TEXT_mimeType, -⟩ := own_fldX ev6 n8
  obtain ⟨x_TECHNICAL_METADATA_folder, v_TECHNICAL_METADATA_folder, F_TECHNICAL_METADATA_folder, -⟩ := own_fldX ev7 n10
  obtain ⟨x_TECHNICAL_METADATA_mimeType, v_TECHNICAL_METADATA_mimeType, F_TECHNICAL_METADATA_mimeType, -⟩ := own_fldX ev7 n11
  have F_USER_COPY_mimeType := own_fldE ev4 v_MASTER_COPY_mimeType n20
  have F_ALTO_mimeType := own_fldE ev5 v_TECHNICAL_METADATA_mimeType n23
  have G0 : own_St s s.heap "MANIFEST" false := ⟨b0, Sta.start ev0 (Or.inr ⟨(own_hw hw 5 rfl), (own_hw hw 6 rfl)⟩), Exa.start ev0 n0, F_MANIFEST_folder, F_MANIFEST_mimeType⟩
  have G1 : own_St s s.heap "MAIN_METS" false := ⟨b1, Sta.start ev1 (Or.inr ⟨(own_hw hw 5 rfl), (own_hw hw 30 rfl)⟩), Exa.start ev1 n15, F_MAIN_METS_folder, F_MAIN_METS_mimeType⟩
  have G2 : own_St s s.heap "CHECKSUM_LIST" false := ⟨b2, Sta.start ev2 (Or.inr ⟨(own_hw hw 5 rfl), (own_hw hw 28 rfl)⟩), Exa.start ev2 n12, F_CHECKSUM_LIST_folder, F_CHECKSUM_LIST_mimeType⟩
  have G3 : own_St s s.heap "MASTER_COPY" true := ⟨b3, Sta.start ev3 (Or.inr ⟨(own_hw hw 5 rfl), (own_hw hw 22 rfl)⟩), Exa.start ev3 n3, ⟨_, F_MASTER_COPY_folder⟩, ⟨_, F_MASTER_COPY_mimeType⟩⟩
  have G4 : own_St s s.heap "USER_COPY" true := ⟨b4, Sta.start ev4 (Or.inr ⟨(own_hw hw 5 rfl), (own_hw hw 32 rfl)⟩), Exa.start ev4 n18, ⟨_, F_USER_COPY_folder⟩, ⟨_, F_USER_COPY_mimeType⟩⟩
  have G5 : own_St s s.heap "ALTO" true := ⟨b5, Sta.start ev5 (Or.inr ⟨(own_hw hw 5 rfl), (own_hw hw 34 rfl)⟩), Exa.start ev5 n21, ⟨_, F_ALTO_folder⟩, ⟨_, F_ALTO_mimeType⟩⟩
  have G6 : own_St s s.heap "TEXT" true := ⟨b6, Sta.start ev6 (Or.inr ⟨(own_hw hw 5 rfl), (own_hw hw 24 rfl)⟩), Exa.start ev6 n6, ⟨_, F_TEXT_folder⟩, ⟨_, F_TEXT_mimeType⟩⟩
  have G7 : own_St s s.heap "TECHNICAL_METADATA" true := ⟨b7, Sta.start ev7 (Or.inr ⟨(own_hw hw 5 rfl), (own_hw hw 26 rfl)⟩), Exa.start ev7 n9, ⟨_, F_TECHNICAL_METADATA_folder⟩, ⟨_, F_TECHNICAL_METADATA_mimeType⟩⟩
  obtain ⟨n, o, h1, h2, h3, _, L, rfl, ⟨rfl, N⟩, hq⟩ := (own_rm0 l s _ hw i0 s.heap s.heap.size G0 G1 G2 G3 G4 G5 G6 G7) tables_1 p e ha hc hk s m _ below hf ((Spec.applies_iff_loose hf).mp happ).1 ⟨rfl, State.Warmed39.refl s, rfl⟩ trivial
  refine ⟨n, _, h1, h2, h3, hpost _ _ _ _ _ _ ⟨Cond.after_iff.mpr rfl, Cond.after_iff.mpr (eq_i res_at (Term.int_eval (1)) rfl), trivial⟩ ⟨hq.1, hq.2.1, (hq.2.2.sift fun y hy => Or.inr (N y hy)).mono (by decide) (by decide)⟩⟩
theorem main_1_1 : Claimed_1_1 := comes_1 fun _ _ _ _ _ _ h hF => ⟨h.1, hF⟩
theorem main_1_2 : Claimed_1_2 := comes_1 fun _ _ _ _ _ _ h hF => ⟨h.2.1, hF⟩
end Jvm.Pilot.@@N@@
namespace Jvm.Pilot.@@N@@
open Jvm Jvm.ClassFile Sem Op Lib Jvm.Free Jvm.Stand Jvm.Pilot.@@N@@.Jvm.D
/-! MADE BY PROGRAM (witnessworld.py) out of the Statement's table words and the real class files: 15 classes; the members and pool entries that the words name. The judged class is class 1, her method 1. -/
namespace start1
open Jvm.ClassFile
def u (s : String) : CpInfo := .utf8 (stringToUtf16 s)
/-- a pool by its gaps: so many unusable entries, then the entry; so many at the end -/
def gap : Nat → List CpInfo → List CpInfo
  | 0, r => r
  | n + 1, r => .unusable :: gap n r
def poolList (es : List (Nat × CpInfo)) (last : Nat) : List CpInfo := es.foldr (fun e r => gap e.1 (e.2 :: r)) (gap last [])
def pool (es : List (Nat × CpInfo)) (last : Nat) : Array CpInfo := ⟨poolList es last⟩
def fileOf (pool : Array CpInfo) (this : Nat) (attrs : Array Attribute := #[]) (ms : Array MethodInfo := #[]) (fl : Nat := 33) (sup : Nat := 0) (ifs : Array Nat := #[]) (fds : Array FieldInfo := #[]) : ClassFile where
  minorVersion := 0
  majorVersion := 65
  constantPool := pool
  accessFlags := fl
  thisClass := this
  superClass := sup
  interfaces := ifs
  fields := fds
  methods := ms
  attributes := attrs
def plain (name : String) (sup : Option ClassId) : Class where
  name := name
  kind := .ordinary
  loader := none
  accessFlags := 33
  super := sup
  interfaces := #[]
  cf := none
  fields := #[]
  methods := #[]
  instanceTypes := #[]
  staticTypes := #[]
  resolved := #[]
  callSites := []
  init := .initialized
  statics := none
  mirror := none

def pool0 : Array CpInfo := pool [(5, u "<init>"), (0, u "()V"), (1, .class_ 10), (1, u "java/lang/Object")] 113

def k0m0 : Method := { name := "<init>", desc := "()V", sig := { parameters := [], returnType := none }, accessFlags := 1, code := none }
/-- java/lang/Object -/
def k0 : Class := { plain "java/lang/Object" none with
  accessFlags := 33
  interfaces := #[]
  cf := some (fileOf pool0 8 #[] #[{ accessFlags := 1, nameIndex := 5, descriptorIndex := 6, attributes := #[] }] 33 0 #[] #[])
  fields := #[]
  methods := #[k0m0]
  instanceTypes := #[]
  staticTypes := #[]
  resolved := Array.replicate 124 none
  statics := none }

def pool1 : Array CpInfo := pool [(2, .class_ 4), (1, u "java/lang/Object"), (0, u "<init>"), (0, u "()V"), (0, .methodref 8 9), (0, .class_ 10), (0, .nameAndType 11 12), (0, u "com/example/svazek/svazek/FileKindIsPerPagePinLaw"), (0, u "pick"), (0, u "(I)Lcom/example/svazek/svazek/FileKind;"), (0, .methodref 14 15), (0, .class_ 16), (0, .nameAndType 17 18), (0, u "com/example/svazek/svazek/FileKind"), (0, u "isPerPage"), (0, u "()Z"), (0, .methodref 14 20), (0, .nameAndType 21 22), (0, u "getMimeType"), (0, u "()Ljava/lang/String;"), (0, .fieldref 14 24), (0, .nameAndType 25 26), (0, u "MANIFEST"), (0, u "Lcom/example/svazek/svazek/FileKind;"), (0, .fieldref 14 28), (0, .nameAndType 29 26), (0, u "MAIN_METS"), (0, .fieldref 14 31), (0, .nameAndType 32 26), (0, u "CHECKSUM_LIST"), (0, .fieldref 14 34), (0, .nameAndType 35 26), (0, u "MASTER_COPY"), (0, .fieldref 14 37), (0, .nameAndType 38 26), (0, u "USER_COPY"), (0, .fieldref 14 40), (0, .nameAndType 41 26), (0, u "ALTO"), (0, .fieldref 14 43), (0, .nameAndType 44 26), (0, u "TEXT"), (0, .fieldref 14 46), (0, .nameAndType 47 26), (0, u "TECHNICAL_METADATA"), (2, u "law"), (0, u "(I)Z")] 3

def k1m0 : Method := { name := "<init>", desc := "()V", sig := { parameters := [], returnType := none }, accessFlags := 1, code := none }
def k1c1 : Code := { maxStack := 2, maxLocals := 5, code := code, exceptionTable := #[], attributes := #[] }
def k1m1 : Method := { name := "law", desc := "(I)Z", sig := { parameters := [.int], returnType := some .boolean }, accessFlags := 9, code := some k1c1 }
def k1c2 : Code := { maxStack := 2, maxLocals := 1, code := method_3_code, exceptionTable := #[], attributes := #[] }
def k1m2 : Method := { name := "pick", desc := "(I)Lcom/example/svazek/svazek/FileKind;", sig := { parameters := [.int], returnType := some (.object "com/example/svazek/svazek/FileKind") }, accessFlags := 10, code := some k1c2 }
/-- com/example/svazek/svazek/FileKindIsPerPagePinLaw -/
def k1 : Class := { plain "com/example/svazek/svazek/FileKindIsPerPagePinLaw" (some 0) with
  accessFlags := 49
  interfaces := #[]
  cf := some (fileOf pool1 8 #[] #[{ accessFlags := 1, nameIndex := 5, descriptorIndex := 6, attributes := #[] }, { accessFlags := 9, nameIndex := 50, descriptorIndex := 51, attributes := #[] }, { accessFlags := 10, nameIndex := 11, descriptorIndex := 12, attributes := #[] }] 49 2 #[] #[])
  fields := #[]
  methods := #[k1m0, k1m1, k1m2]
  instanceTypes := #[]
  staticTypes := #[]
  resolved := Array.replicate 55 none
  statics := none }

def pool2 : Array CpInfo := pool [(1, .class_ 2), (0, u "java/lang/constant/Constable"), (0, .class_ 4), (0, u "java/lang/Object")] 6

/-- java/lang/constant/Constable -/
def k2 : Class := { plain "java/lang/constant/Constable" (some 0) with
  accessFlags := 1537
  interfaces := #[]
  cf := some (fileOf pool2 1 #[] #[] 1537 3 #[] #[])
  fields := #[]
  methods := #[]
  instanceTypes := #[]
  staticTypes := #[]
  resolved := Array.replicate 11 none
  statics := none }

def pool3 : Array CpInfo := pool [(1, .class_ 2), (0, u "java/lang/Comparable"), (0, .class_ 4), (0, u "java/lang/Object")] 7

/-- java/lang/Comparable -/
def k3 : Class := { plain "java/lang/Comparable" (some 0) with
  accessFlags := 1537
  interfaces := #[]
  cf := some (fileOf pool3 1 #[] #[] 1537 3 #[] #[])
  fields := #[]
  methods := #[]
  instanceTypes := #[]
  staticTypes := #[]
  resolved := Array.replicate 12 none
  statics := none }

def pool4 : Array CpInfo := pool [(1, .class_ 2), (0, u "java/io/Serializable"), (0, .class_ 4), (0, u "java/lang/Object")] 2

/-- java/io/Serializable -/
def k4 : Class := { plain "java/io/Serializable" (some 0) with
  accessFlags := 1537
  interfaces := #[]
  cf := some (fileOf pool4 1 #[] #[] 1537 3 #[] #[])
  fields := #[]
  methods := #[]
  instanceTypes := #[]
  staticTypes := #[]
  resolved := Array.replicate 7 none
  statics := none }

def pool5 : Array CpInfo := pool [(2, .class_ 4), (1, u "java/lang/Enum"), (0, u "name"), (0, u "Ljava/lang/String;"), (2, u "ordinal"), (0, u "I"), (1, .class_ 14), (1, u "java/lang/Object"), (4, u "hash"), (86, .class_ 108), (1, u "java/lang/Enum$EnumDesc"), (2, .class_ 112), (0, u "java/lang/constant/Constable"), (0, .class_ 114), (0, u "java/lang/Comparable"), (0, .class_ 116), (0, u "java/io/Serializable")] 87

/-- java/lang/Enum -/
def k5 : Class := { plain "java/lang/Enum" (some 0) with
  accessFlags := 1057
  interfaces := #[2, 3, 4]
  cf := some (fileOf pool5 2 #[.nestMembers #[106]] #[] 1057 12 #[111, 113, 115] #[{ accessFlags := 18, nameIndex := 5, descriptorIndex := 6, attributes := #[] }, { accessFlags := 18, nameIndex := 9, descriptorIndex := 10, attributes := #[] }, { accessFlags := 2, nameIndex := 19, descriptorIndex := 10, attributes := #[] }])
  fields := #[{ name := "name", type := (.object "java/lang/String"), accessFlags := 18, slot := 0, constantValue := 0 }, { name := "ordinal", type := .int, accessFlags := 18, slot := 1, constantValue := 0 }, { name := "hash", type := .int, accessFlags := 2, slot := 2, constantValue := 0 }]
  methods := #[]
  instanceTypes := #[(.object "java/lang/String"), .int, .int]
  staticTypes := #[]
  resolved := Array.replicate 204 none
  statics := none }

def pool6 : Array CpInfo := pool [(1, .class_ 2), (0, u "com/example/svazek/svazek/FileKind"), (2, u "MANIFEST"), (0, u "Lcom/example/svazek/svazek/FileKind;"), (2, u "MAIN_METS"), (2, u "CHECKSUM_LIST"), (2, u "MASTER_COPY"), (2, u "USER_COPY"), (2, u "ALTO"), (2, u "TEXT"), (2, u "TECHNICAL_METADATA"), (2, u "$VALUES"), (0, u "[Lcom/example/svazek/svazek/FileKind;"), (6, .class_ 40), (1, u "java/lang/Enum"), (8, u "noun"), (0, u "Ljava/lang/String;"), (0, .fieldref 1 52), (0, .nameAndType 53 50), (0, u "folder"), (2, u "prefix"), (2, u "suffix"), (0, .fieldref 1 61), (0, .nameAndType 62 50), (0, u "mimeType"), (2, u "sequenced"), (0, u "Z"), (20, u "namePattern"), (0, u "Ljava/util/regex/Pattern;"), (2, u "PER_PAGE"), (0, u "Ljava/util/List;"), (84, u "isPerPage"), (0, u "()Z"), (176, u "()Ljava/lang/String;"), (3, u "getMimeType")] 61

def k6c0 : Code := { maxStack := 1, maxLocals := 1, code := prog_11_method_8_code, exceptionTable := #[], attributes := #[] }
def k6m0 : Method := { name := "isPerPage", desc := "()Z", sig := { parameters := [], returnType := some .boolean }, accessFlags := 0, code := some k6c0 }
def k6c1 : Code := { maxStack := 1, maxLocals := 1, code := prog_11_method_13_code, exceptionTable := #[], attributes := #[] }
def k6m1 : Method := { name := "getMimeType", desc := "()Ljava/lang/String;", sig := { parameters := [], returnType := some (.object "java/lang/String") }, accessFlags := 0, code := some k6c1 }
/-- com/example/svazek/svazek/FileKind -/
def k6 : Class := { plain "com/example/svazek/svazek/FileKind" (some 5) with
  accessFlags := 16432
  interfaces := #[]
  cf := some (fileOf pool6 1 #[] #[{ accessFlags := 0, nameIndex := 177, descriptorIndex := 178, attributes := #[] }, { accessFlags := 0, nameIndex := 359, descriptorIndex := 355, attributes := #[] }] 16432 38 #[] #[{ accessFlags := 16409, nameIndex := 5, descriptorIndex := 6, attributes := #[] }, { accessFlags := 16409, nameIndex := 9, descriptorIndex := 6, attributes := #[] }, { accessFlags := 16409, nameIndex := 12, descriptorIndex := 6, attributes := #[] }, { accessFlags := 16409, nameIndex := 15, descriptorIndex := 6, attributes := #[] }, { accessFlags := 16409, nameIndex := 18, descriptorIndex := 6, attributes := #[] }, { accessFlags := 16409, nameIndex := 21, descriptorIndex := 6, attributes := #[] }, { accessFlags := 16409, nameIndex := 24, descriptorIndex := 6, attributes := #[] }, { accessFlags := 16409, nameIndex := 27, descriptorIndex := 6, attributes := #[] }, { accessFlags := 26, nameIndex := 91, descriptorIndex := 92, attributes := #[] }, { accessFlags := 18, nameIndex := 49, descriptorIndex := 50, attributes := #[] }, { accessFlags := 18, nameIndex := 53, descriptorIndex := 50, attributes := #[] }, { accessFlags := 18, nameIndex := 56, descriptorIndex := 50, attributes := #[] }, { accessFlags := 18, nameIndex := 59, descriptorIndex := 50, attributes := #[] }, { accessFlags := 18, nameIndex := 62, descriptorIndex := 50, attributes := #[] }, { accessFlags := 18, nameIndex := 65, descriptorIndex := 66, attributes := #[] }, { accessFlags := 18, nameIndex := 87, descriptorIndex := 88, attributes := #[] }, { accessFlags := 4122, nameIndex := 30, descriptorIndex := 31, attributes := #[] }])
  fields := #[{ name := "MANIFEST", type := (.object "com/example/svazek/svazek/FileKind"), accessFlags := 16409, slot := 0, constantValue := 0 }, { name := "MAIN_METS", type := (.object "com/example/svazek/svazek/FileKind"), accessFlags := 16409, slot := 1, constantValue := 0 }, { name := "CHECKSUM_LIST", type := (.object "com/example/svazek/svazek/FileKind"), accessFlags := 16409, slot := 2, constantValue := 0 }, { name := "MASTER_COPY", type := (.object "com/example/svazek/svazek/FileKind"), accessFlags := 16409, slot := 3, constantValue := 0 }, { name := "USER_COPY", type := (.object "com/example/svazek/svazek/FileKind"), accessFlags := 16409, slot := 4, constantValue := 0 }, { name := "ALTO", type := (.object "com/example/svazek/svazek/FileKind"), accessFlags := 16409, slot := 5, constantValue := 0 }, { name := "TEXT", type := (.object "com/example/svazek/svazek/FileKind"), accessFlags := 16409, slot := 6, constantValue := 0 }, { name := "TECHNICAL_METADATA", type := (.object "com/example/svazek/svazek/FileKind"), accessFlags := 16409, slot := 7, constantValue := 0 }, { name := "PER_PAGE", type := (.object "java/util/List"), accessFlags := 26, slot := 8, constantValue := 0 }, { name := "noun", type := (.object "java/lang/String"), accessFlags := 18, slot := 3, constantValue := 0 }, { name := "folder", type := (.object "java/lang/String"), accessFlags := 18, slot := 4, constantValue := 0 }, { name := "prefix", type := (.object "java/lang/String"), accessFlags := 18, slot := 5, constantValue := 0 }, { name := "suffix", type := (.object "java/lang/String"), accessFlags := 18, slot := 6, constantValue := 0 }, { name := "mimeType", type := (.object "java/lang/String"), accessFlags := 18, slot := 7, constantValue := 0 }, { name := "sequenced", type := .boolean, accessFlags := 18, slot := 8, constantValue := 0 }, { name := "namePattern", type := (.object "java/util/regex/Pattern"), accessFlags := 18, slot := 9, constantValue := 0 }, { name := "$VALUES", type := (.array (.object "com/example/svazek/svazek/FileKind")), accessFlags := 4122, slot := 9, constantValue := 0 }]
  methods := #[k6m0, k6m1]
  instanceTypes := #[(.object "java/lang/String"), .int, .int, (.object "java/lang/String"), (.object "java/lang/String"), (.object "java/lang/String"), (.object "java/lang/String"), (.object "java/lang/String"), .boolean, (.object "java/util/regex/Pattern")]
  staticTypes := #[(.object "com/example/svazek/svazek/FileKind"), (.object "com/example/svazek/svazek/FileKind"), (.object "com/example/svazek/svazek/FileKind"), (.object "com/example/svazek/svazek/FileKind"), (.object "com/example/svazek/svazek/FileKind"), (.object "com/example/svazek/svazek/FileKind"), (.object "com/example/svazek/svazek/FileKind"), (.object "com/example/svazek/svazek/FileKind"), (.object "java/util/List"), (.array (.object "com/example/svazek/svazek/FileKind"))]
  resolved := Array.replicate 421 none
  statics := some 0 }

def pool7 : Array CpInfo := pool [(2, .class_ 4), (1, u "java/lang/CharSequence"), (42, .class_ 48), (0, u "java/lang/CharSequence$1CodePointIterator"), (10, .class_ 60), (0, u "java/lang/CharSequence$1CharIterator"), (5, .class_ 67), (0, u "java/lang/Object")] 63

/-- java/lang/CharSequence -/
def k7 : Class := { plain "java/lang/CharSequence" (some 0) with
  accessFlags := 1537
  interfaces := #[]
  cf := some (fileOf pool7 2 #[.nestMembers #[47, 59]] #[] 1537 66 #[] #[])
  fields := #[]
  methods := #[]
  instanceTypes := #[]
  staticTypes := #[]
  resolved := Array.replicate 131 none
  statics := none }

def pool8 : Array CpInfo := pool [(1, .class_ 2), (0, u "java/lang/constant/ConstantDesc"), (0, .class_ 4), (0, u "java/lang/Object")] 32

/-- java/lang/constant/ConstantDesc -/
def k8 : Class := { plain "java/lang/constant/ConstantDesc" (some 0) with
  accessFlags := 1537
  interfaces := #[]
  cf := some (fileOf pool8 1 #[] #[] 1537 3 #[] #[])
  fields := #[]
  methods := #[]
  instanceTypes := #[]
  staticTypes := #[]
  resolved := Array.replicate 37 none
  statics := none }

def pool9 : Array CpInfo := pool [(2, .class_ 4), (1, u "java/lang/Object"), (0, u "<init>"), (0, u "()V"), (3, .class_ 12), (1, u "java/lang/String"), (0, u "value"), (0, u "[B"), (2, u "coder"), (0, u "B"), (2, u "hash"), (0, u "I"), (2, u "hashIsZero"), (0, u "Z"), (13, u "COMPACT_STRINGS"), (534, .class_ 576), (0, u "java/lang/CharSequence"), (22, u "CASE_INSENSITIVE_ORDER"), (0, u "Ljava/util/Comparator;"), (500, u "serialPersistentFields"), (0, u "[Ljava/io/ObjectStreamField;"), (0, .class_ 1104), (0, u "java/lang/String$CaseInsensitiveComparator"), (1, .class_ 1107), (0, u "java/io/Serializable"), (0, .class_ 1109), (0, u "java/lang/Comparable"), (0, .class_ 1111), (0, u "java/lang/constant/Constable"), (0, .class_ 1113), (0, u "java/lang/constant/ConstantDesc"), (2, u "serialVersionUID"), (0, u "J"), (3, u "REPL"), (0, u "C"), (2, u "LATIN1"), (1, u "UTF16")] 323

def k9m0 : Method := { name := "<init>", desc := "()V", sig := { parameters := [], returnType := none }, accessFlags := 1, code := none }
/-- java/lang/String -/
def k9 : Class := { plain "java/lang/String" (some 0) with
  accessFlags := 49
  interfaces := #[4, 3, 7, 2, 8]
  cf := some (fileOf pool9 10 #[.nestMembers #[1103]] #[{ accessFlags := 1, nameIndex := 5, descriptorIndex := 6, attributes := #[] }] 49 2 #[1106, 1108, 575, 1110, 1112] #[{ accessFlags := 18, nameIndex := 13, descriptorIndex := 14, attributes := #[] }, { accessFlags := 18, nameIndex := 17, descriptorIndex := 18, attributes := #[] }, { accessFlags := 2, nameIndex := 21, descriptorIndex := 22, attributes := #[] }, { accessFlags := 2, nameIndex := 25, descriptorIndex := 26, attributes := #[] }, { accessFlags := 26, nameIndex := 1116, descriptorIndex := 1117, attributes := #[] }, { accessFlags := 24, nameIndex := 40, descriptorIndex := 26, attributes := #[] }, { accessFlags := 26, nameIndex := 1101, descriptorIndex := 1102, attributes := #[] }, { accessFlags := 26, nameIndex := 1121, descriptorIndex := 1122, attributes := #[] }, { accessFlags := 25, nameIndex := 599, descriptorIndex := 600, attributes := #[] }, { accessFlags := 24, nameIndex := 1125, descriptorIndex := 18, attributes := #[] }, { accessFlags := 24, nameIndex := 1127, descriptorIndex := 18, attributes := #[] }])
  fields := #[{ name := "value", type := (.array .byte), accessFlags := 18, slot := 0, constantValue := 0 }, { name := "coder", type := .byte, accessFlags := 18, slot := 1, constantValue := 0 }, { name := "hash", type := .int, accessFlags := 2, slot := 2, constantValue := 0 }, { name := "hashIsZero", type := .boolean, accessFlags := 2, slot := 3, constantValue := 0 }, { name := "serialVersionUID", type := .long, accessFlags := 26, slot := 0, constantValue := 0 }, { name := "COMPACT_STRINGS", type := .boolean, accessFlags := 24, slot := 1, constantValue := 0 }, { name := "serialPersistentFields", type := (.array (.object "java/io/ObjectStreamField")), accessFlags := 26, slot := 2, constantValue := 0 }, { name := "REPL", type := .char, accessFlags := 26, slot := 3, constantValue := 0 }, { name := "CASE_INSENSITIVE_ORDER", type := (.object "java/util/Comparator"), accessFlags := 25, slot := 4, constantValue := 0 }, { name := "LATIN1", type := .byte, accessFlags := 24, slot := 5, constantValue := 0 }, { name := "UTF16", type := .byte, accessFlags := 24, slot := 6, constantValue := 0 }]
  methods := #[k9m0]
  instanceTypes := #[(.array .byte), .byte, .int, .boolean]
  staticTypes := #[.long, .boolean, (.array (.object "java/io/ObjectStreamField")), .char, (.object "java/util/Comparator"), .byte, .byte]
  resolved := Array.replicate 1451 none
  statics := none }

def pool10 : Array CpInfo := pool [(1, u "java/lang/Cloneable"), (0, .class_ 1), (0, u "java/lang/Object"), (0, .class_ 3)] 3

/-- java/lang/Cloneable -/
def k10 : Class := { plain "java/lang/Cloneable" (some 0) with
  accessFlags := 1537
  interfaces := #[]
  cf := some (fileOf pool10 2 #[] #[] 1537 4 #[] #[])
  fields := #[]
  methods := #[]
  instanceTypes := #[]
  staticTypes := #[]
  resolved := Array.replicate 8 none
  statics := none }

/-- the primitive byte -/
def k11 : Class := { plain "byte" none with kind := .primitive 'B', accessFlags := 0x411 }
/-- [B -/
def k12 : Class := { plain "[B" (some 0) with kind := .array 11 .byte, interfaces := #[10, 4], accessFlags := 1041 }

/-- the primitive int -/
def k13 : Class := { plain "int" none with kind := .primitive 'I', accessFlags := 0x411 }
/-- [I -/
def k14 : Class := { plain "[I" (some 0) with kind := .array 13 .int, interfaces := #[10, 4], accessFlags := 1041 }

def heap : Heap := #[{ cls := 6, slots := #[.ref 1, .ref 12, .ref 11, .ref 2, .ref 13, .ref 15, .ref 5, .ref 8, .null, .null], vm := .statics 6 },
  { cls := 6, slots := #[.null, .int 0, .int 0, .null, .null, .null, .null, .null, .int 0, .null], vm := .none },
  { cls := 6, slots := #[.null, .int 0, .int 0, .null, .ref 3, .null, .null, .ref 4, .int 0, .null], vm := .none },
  { cls := 9, slots := #[.null, .int 0, .int 0, .int 0], vm := .none },
  { cls := 9, slots := #[.null, .int 0, .int 0, .int 0], vm := .none },
  { cls := 6, slots := #[.null, .int 0, .int 0, .null, .ref 6, .null, .null, .ref 7, .int 0, .null], vm := .none },
  { cls := 9, slots := #[.null, .int 0, .int 0, .int 0], vm := .none },
  { cls := 9, slots := #[.null, .int 0, .int 0, .int 0], vm := .none },
  { cls := 6, slots := #[.null, .int 0, .int 0, .null, .ref 9, .null, .null, .ref 10, .int 0, .null], vm := .none },
  { cls := 9, slots := #[.null, .int 0, .int 0, .int 0], vm := .none },
  { cls := 9, slots := #[.null, .int 0, .int 0, .int 0], vm := .none },
  { cls := 6, slots := #[.null, .int 0, .int 0, .null, .null, .null, .null, .null, .int 0, .null], vm := .none },
  { cls := 6, slots := #[.null, .int 0, .int 0, .null, .null, .null, .null, .null, .int 0, .null], vm := .none },
  { cls := 6, slots := #[.null, .int 0, .int 0, .null, .ref 14, .null, .null, .ref 4, .int 0, .null], vm := .none },
  { cls := 9, slots := #[.null, .int 0, .int 0, .int 0], vm := .none },
  { cls := 6, slots := #[.null, .int 0, .int 0, .null, .ref 16, .null, .null, .ref 10, .int 0, .null], vm := .none },
  { cls := 9, slots := #[.null, .int 0, .int 0, .int 0], vm := .none }]
def classes : Array Class := #[k0, k1, k2, k3, k4, k5, k6, k7, k8, k9, k10, k11, k12, k13, k14]
def interned : List (Array UInt16 × Addr) := []
def slotsUsed : Nat := 122
def theMethod : MethodId := ⟨1, 1⟩
def args0 : Array Value := #[.int 5]
def aboutOver (below : List Frame) : State where
  vm := { classes := classes, interned := interned.toArray }
  heap := heap
  slotsUsed := slotsUsed
  threads := #[{ frames := .invoking theMethod args0 :: below }]
def below0 : List Frame := [.native { method := ⟨0, 0⟩, args := #[] }]
def about1 : State := aboutOver below0
def p0 : Program := .bare "" "" ""
def e0 : Env := launch0.env 0 0 0
theorem w_frames : about1.frames = Frame.invoking theMethod args0 :: below0 := rfl
set_option maxRecDepth 65536 in
theorem w_args : argsFit about1.vm theMethod args0 = true := by decide +kernel
set_option maxRecDepth 65536 in
theorem w_heap : heapFits about1 = true := by decide +kernel
set_option maxRecDepth 65536 in
theorem w_runnable : about1.curStatus? = some .runnable := by decide +kernel
set_option maxRecDepth 65536 in
theorem w_alone : about1.alone = true := by decide +kernel
set_option maxRecDepth 65536 in
theorem w_named : about1.methodNamed? x = some theMethod := by decide +kernel
set_option maxRecDepth 65536 in
theorem w_hears : about1.hears theMethod below0 = true := by decide +kernel
set_option maxRecDepth 65536 in
theorem w_ripe : about1.ripe theMethod args0 below0 = true := by decide +kernel
theorem w_running : about1.status = .running := rfl
set_option maxRecDepth 65536 in
theorem w_room : about1.hasRoom e0.platform room_1 = true :=
  launch0.hasRoom_least _ room_1 (by decide +kernel) (by decide +kernel) (by decide +kernel) (by decide +kernel) (by decide +kernel) (by decide +kernel)
theorem allAtoms_all (ts : List Jvm.Cond) (a : Array Jvm.Value) (st : Jvm.State) : (allAtoms ts).before a st = ts.all (fun c => c.before a st) := by
  induction ts with
  | nil => rfl
  | cons c t ih =>
    show (Jvm.Cond.and c (allAtoms t)).before a st = _
    rw [Jvm.Cond.before_and, ih, List.all_cons]
def words1 : List Jvm.Cond := Jvm.Cond.code x code maxLocals ret :: tables_1
/-- a 'code' word, met by the world's own term for the bytes: nothing is compared byte by byte -/
theorem code_word {y : MethodName} {bytes : ByteArray} {mx : Nat} {rt : Option FieldType} {a : Array Value} {s : State} {m : MethodId} {meth : Method} {c : Code} (h1 : s.methodNamed? y = some m) (h2 : s.vm.method? m = some meth) (h3 : meth.code = some c) (h4 : c.code = bytes)
    (h5 : (c.maxLocals == mx && c.exceptionTable.isEmpty && decide (c.maxStack ≤ mostOperands) && decide (meth.sig.returnType = rt) && !meth.locks && decide (parseMethodDescriptor y.desc = some meth.sig)) = true) : (Jvm.Cond.code y bytes mx rt).before a s = true := by
  simp only [Bool.and_eq_true, beq_iff_eq, Bool.not_eq_true', decide_eq_true_eq] at h5
  obtain ⟨⟨⟨⟨⟨g1, g2⟩, g3⟩, g4⟩, g5⟩, g6⟩ := h5
  simp [Cond.before, Cond.holds, Cond.value, h1, h2, h3, h4, g1, g2, g3, g4, g5, g6]
def isCode : Jvm.Cond → Bool
  | .code _ _ _ _ => true
  | _ => false
theorem all_split {L : List Jvm.Cond} {P : Jvm.Cond → Bool} (h1 : L.all (fun c => isCode c || P c) = true) (h2 : ∀ c ∈ L.filter isCode, P c = true) : L.all P = true := by
  refine List.all_eq_true.mpr fun c hc => ?_
  have h := List.all_eq_true.mp h1 c hc
  rcases Bool.eq_false_or_eq_true (isCode c) with hi | hi
  · exact h2 c (List.mem_filter.mpr ⟨hc, hi⟩)
  · simpa [hi] using h
set_option maxRecDepth 65536 in
theorem w_c0 : (Jvm.Cond.code x code maxLocals ret).before args0 about1 = true := code_word (m := ⟨1, 1⟩) (meth := k1m1) (c := k1c1) (by decide +kernel) rfl rfl rfl (by decide +kernel)
set_option maxRecDepth 65536 in
theorem w_c1 : (Jvm.Cond.code ({ cls := "com/example/svazek/svazek/FileKindIsPerPagePinLaw", name := "pick", desc := "(I)Lcom/example/svazek/svazek/FileKind;" } : Jvm.MethodName) method_3_code (1 : Nat) (Option.some (Jvm.ClassFile.FieldType.object "com/example/svazek/svazek/FileKind"))).before args0 about1 = true := code_word (m := ⟨1, 2⟩) (meth := k1m2) (c := k1c2) (by decide +kernel) rfl rfl rfl (by decide +kernel)
set_option maxRecDepth 65536 in
theorem w_c2 : (Jvm.Cond.code ({ cls := "com/example/svazek/svazek/FileKind", name := "isPerPage", desc := "()Z" } : Jvm.MethodName) prog_11_method_8_code (1 : Nat) (Option.some Jvm.ClassFile.FieldType.boolean)).before args0 about1 = true := code_word (m := ⟨6, 0⟩) (meth := k6m0) (c := k6c0) (by decide +kernel) rfl rfl rfl (by decide +kernel)
set_option maxRecDepth 65536 in
theorem w_c3 : (Jvm.Cond.code ({ cls := "com/example/svazek/svazek/FileKind", name := "getMimeType", desc := "()Ljava/lang/String;" } : Jvm.MethodName) prog_11_method_13_code (1 : Nat) (Option.some (Jvm.ClassFile.FieldType.object "java/lang/String"))).before args0 about1 = true := code_word (m := ⟨6, 1⟩) (meth := k6m1) (c := k6c1) (by decide +kernel) rfl rfl rfl (by decide +kernel)
def codes1 : List Jvm.Cond := [Jvm.Cond.code x code maxLocals ret, Jvm.Cond.code ({ cls := "com/example/svazek/svazek/FileKindIsPerPagePinLaw", name := "pick", desc := "(I)Lcom/example/svazek/svazek/FileKind;" } : Jvm.MethodName) method_3_code (1 : Nat) (Option.some (Jvm.ClassFile.FieldType.object "com/example/svazek/svazek/FileKind")), Jvm.Cond.code ({ cls := "com/example/svazek/svazek/FileKind", name := "isPerPage", desc := "()Z" } : Jvm.MethodName) prog_11_method_8_code (1 : Nat) (Option.some Jvm.ClassFile.FieldType.boolean), Jvm.Cond.code ({ cls := "com/example/svazek/svazek/FileKind", name := "getMimeType", desc := "()Ljava/lang/String;" } : Jvm.MethodName) prog_11_method_13_code (1 : Nat) (Option.some (Jvm.ClassFile.FieldType.object "java/lang/String"))]
set_option maxRecDepth 65536 in
theorem codes_eq : words1.filter isCode = codes1 := rfl
theorem w_codes : ∀ c ∈ words1.filter isCode, c.before args0 about1 = true := by
  rw [codes_eq]
  intro c hc
  simp only [codes1, List.mem_cons, List.not_mem_nil, or_false] at hc
  rcases hc with rfl | rfl | rfl | rfl
  · exact w_c0
  · exact w_c1
  · exact w_c2
  · exact w_c3
set_option maxRecDepth 65536 in
theorem w_t1 : (words1.take 24).all (fun c => isCode c || c.before args0 about1) = true := by decide +kernel
set_option maxRecDepth 65536 in
theorem w_t2 : (words1.drop 24).all (fun c => isCode c || c.before args0 about1) = true := by decide +kernel
theorem w_tables : (allAtoms (Jvm.Cond.code x code maxLocals ret :: tables_1)).before args0 about1 = true := by
  rw [allAtoms_all]
  show words1.all (fun c => c.before args0 about1) = true
  refine all_split ?_ w_codes
  rw [← List.take_append_drop 24 words1, List.all_append, w_t1, w_t2]
  rfl
set_option maxRecDepth 65536 in
theorem w_case : (Jvm.Cond.and given_1 narrow_1).before args0 about1 = true := by decide +kernel
theorem w_applies : (headSpec (Jvm.Cond.code x code maxLocals ret :: tables_1) room_1).applies x e0.platform about1 = true :=
  (Spec.applies_iff w_frames).mpr ⟨w_running, w_runnable, w_alone, w_named, w_hears, w_ripe, w_room, w_tables⟩
theorem atStart : AtStart classFile x code maxLocals ret World_1 tables_1 room_1 Calls_1 rest_1 Pre_1 launch0 p0 e0 about1 theMethod args0 below0 :=
  ⟨lists_1, trivial, launch0.admits_env _ _ _, launch0.least_env, fairChoices_fair.cas, fairChoices_fair.clock, w_frames, w_args, w_heap, w_applies, trivial, trivial, w_case⟩
end start1
theorem witness_1 : WitnessClaimed_1 := ⟨start1.p0, start1.e0, start1.about1, start1.theMethod, start1.args0, start1.below0, start1.atStart⟩
end Jvm.Pilot.@@N@@
