import JvmDerived
import JvmDerived.Pilot.@@N@@Statement
import JvmDerived.Pilot.@@N@@Code
set_option linter.unusedVariables false
set_option linter.unusedSimpArgs false
@@BLOCK:NumsL.lean.txt@@
namespace Jvm.Pilot.@@N@@
set_option maxRecDepth 65536
set_option maxHeartbeats 40000000
open Jvm Jvm.ClassFile Sem Op Lib Jvm.Free Jvm.Stand Jvm.LawKit Jvm.RoadKit Bundle Jvm.Pilot.@@N@@.Jvm.D
abbrev own_W (a0 : Array Value) (Z : State) : Prop := ∀ d ∈ tables_1, d.before a0 Z = true
section Own
variable {p : Program} {l : Launch} {e : Env} {R : Room} {s : State} {m : MethodId} {args : Array Value} {below : List Frame} {meth : Method} {c : Code} {T T' : State} {locs : List Loc} {cells slots : Nat} {Z : State} {a0 : Array Value} {h : Heap} {P : Outcome → State → Prop}
theorem own_hw {L : List Jvm.Cond} (hw : ∀ d ∈ L, d.before a0 Z = true) (i : Nat) {d : Jvm.Cond} (q : L[i]? = some d) : d.before a0 Z = true := hw d (List.mem_of_getElem? q)
/-- from here the run comes to an end that P allows -/
def own_Go (p : Program) (e : Env) (below : List Frame) (P : Outcome → State → Prop) (T : State) (g : JFrame) : Prop :=
  ∃ s₂ o, Steps p.tables e below (T.setTop g) s₂ ∧ s₂.status = .running ∧ Ended s₂ below o ∧ P o s₂
theorem own_go {g g' : JFrame} (h : ∀ t, Steps p.tables e below (T'.setTop g') t → Steps p.tables e below (T.setTop g) t) (k : own_Go p e below P T' g') : own_Go p e below P T g := by
  obtain ⟨s₂, o, h1, h2⟩ := k
  exact ⟨s₂, o, h _ h1, h2⟩
theorem own_cut {α : Type} {g : JFrame} {F : α → JFrame} (tl : ∀ v, own_Go p e below P T (F v)) (k : (∀ v, own_Go p e below P T (F v)) → own_Go p e below P T g) : own_Go p e below P T g := k tl
theorem own_cast {g g' : JFrame} (q : g = g') (k : own_Go p e below P T g') : own_Go p e below P T g := q ▸ k
/-- what a body leaves: Q of its answer, of the heap and of the places written; no more cells and slots than k and n -/
def own_End (s : State) (Q : Option Value → Heap → List Loc → Prop) (k n : Nat) (o : Outcome) (t : State) : Prop := ∃ v L, o = .returned v ∧ Q v t.heap L ∧ FrameEnd s o t L k n
/-- a body's contract, at one heap and one list of arguments -/
def own_Met (l : Launch) (Z : State) (y : MethodName) (bytes : ByteArray) (maxL : Nat) (ret : Option FieldType) (rm : Room) (as' : Array Value) (h0 : Heap) (Q : Option Value → Heap → List Loc → Prop) : Prop :=
  ∀ ws : List Jvm.Cond, MetFree l y (head1 (Jvm.Cond.code y bytes maxL ret :: ws) rm) (fun a U => a = as' ∧ Z.Warmed39 U.vm ∧ U.heap = h0) (fun _ _ _ _ _ => True) (fun _ U o U' => ∃ v L, o = .returned v ∧ Q v U'.heap L ∧ FrameEnd U o U' L rm.cells rm.slots)
theorem own_body {y : MethodName} {bytes : ByteArray} {maxL : Nat} {ret : Option FieldType} {rm : Room} {as' : Array Value} {h0 : Heap} {Q : Option Value → Heap → List Loc → Prop} (hp : plainFor y = true)
    (k : ∀ (p : Program) (e : Env) (s : State) (m : MethodId) (below : List Frame) (meth : Method) (c : Code) (T : State), Stand p l e rm s m as' below meth c T [] 0 0 → p.tables.exec = Jvm.exec → Z.Warmed39 s.vm → c.code = bytes → c.maxLocals = maxL → s.vm.findClass y.cls = some m.cls → meth.name = y.name →
      meth.sig.returnType = ret → meth.locks = false → T.heap = h0 → own_Go p e below (own_End s Q rm.cells rm.slots) T (entryFrame m as' maxL)) : own_Met l Z y bytes maxL ret rm as' h0 Q := by
  intro ws
  refine MetFree.of_bodySF hp hisR ?_
  intro p e s m args below meth c s₁ Bd hml0 hP hK
  obtain ⟨rfl, hZ, hh⟩ := hP
  exact k p e s m below meth c s₁ (Stand.of_body Bd) Bd.exec hZ Bd.bytes hml0 (findClass_of_methodNamed Bd.named) (name_of_methodNamed Bd.named Bd.method).1 Bd.returns Bd.notSynchronized (by rw [← hh, Bd.state]; rfl)
/-- a return with a value -/
theorem own_ret (X : Stand p l e R s m args below meth c T locs cells slots) (hx : p.tables.exec = Jvm.exec) {pc : Nat} {Ls : Array Slot} {w : Value} {t : FieldType} {i : Instr} {rest : List Value} (hret : meth.sig.returnType = some t) (hlk : meth.locks = false) (hd : decode c.code pc = .ok (i, 1)) (hn : narrow t w = w)
    (hi : (i = .ireturn ∧ (t = .int ∨ t = .boolean ∨ t = .byte ∨ t = .char ∨ t = .short) ∧ ∃ z, w = .int z) ∨ (i = .lreturn ∧ t = .long ∧ ∃ z, w = .long z) ∨ (i = .dreturn ∧ t = .double ∧ ∃ z, w = .double z) ∨ (i = .freturn ∧ t = .float ∧ ∃ z, w = .float z) ∨ (i = .areturn ∧ t.isReference = true ∧ w.isRef = true))
    {Q : Option Value → Heap → List Loc → Prop} {kc kn : Nat} (hc : cells ≤ kc) (hs : slots ≤ kn) (hQ : Q (some w) T.heap locs) : own_Go p e below (own_End s Q kc kn) T (mkF m pc Ls (w :: rest)) := by
  obtain ⟨fs, hr, hrun, hended, hW, hsame⟩ := X.leave (v := some w) (fun h => by rw [hret] at h; cases h) hlk
  exact ⟨_, _, retOut X hx hret hn hi hd hr, hrun, hended, _, _, rfl, hQ, ⟨_, rfl⟩, hW, hsame.mono hc hs⟩
theorem own_retI (X : Stand p l e R s m args below meth c T locs cells slots) (hx : p.tables.exec = Jvm.exec) {pc : Nat} {Ls : Array Slot} {z : Int32} {t : FieldType} {rest : List Value} (hret : meth.sig.returnType = some t) (hlk : meth.locks = false) (hd : decode c.code pc = .ok (.ireturn, 1)) (hn : narrow t (.int z) = .int z)
    (ht : t = .int ∨ t = .boolean ∨ t = .byte ∨ t = .char ∨ t = .short) {Q : Option Value → Heap → List Loc → Prop} {kc kn : Nat} (hc : cells ≤ kc) (hs : slots ≤ kn) (hQ : Q (some (.int z)) T.heap locs) : own_Go p e below (own_End s Q kc kn) T (mkF m pc Ls (.int z :: rest)) :=
  own_ret X hx hret hlk hd hn (Or.inl ⟨rfl, ht, z, rfl⟩) hc hs hQ
theorem own_retA (X : Stand p l e R s m args below meth c T locs cells slots) (hx : p.tables.exec = Jvm.exec) {pc : Nat} {Ls : Array Slot} {w : Value} {t : FieldType} {rest : List Value} (hret : meth.sig.returnType = some t) (hlk : meth.locks = false) (hd : decode c.code pc = .ok (.areturn, 1)) (ht : t.isReference = true) (hw : w.isRef = true)
    {Q : Option Value → Heap → List Loc → Prop} {kc kn : Nat} (hc : cells ≤ kc) (hs : slots ≤ kn) (hQ : Q (some w) T.heap locs) : own_Go p e below (own_End s Q kc kn) T (mkF m pc Ls (w :: rest)) :=
  own_ret X hx hret hlk hd (by cases t <;> first | rfl | (cases w <;> rfl) | (simp [FieldType.isReference] at ht)) (Or.inr (Or.inr (Or.inr (Or.inr ⟨rfl, ht, hw⟩)))) hc hs hQ
theorem own_retV (X : Stand p l e R s m args below meth c T locs cells slots) (hx : p.tables.exec = Jvm.exec) {pc : Nat} {Ls : Array Slot} (hret : meth.sig.returnType = none) (hlk : meth.locks = false) (hd : decode c.code pc = .ok (.return_, 1))
    {Q : Option Value → Heap → List Loc → Prop} {kc kn : Nat} (hc : cells ≤ kc) (hs : slots ≤ kn) (hQ : Q none T.heap locs) : own_Go p e below (own_End s Q kc kn) T (mkF m pc Ls []) := by
  obtain ⟨fs, hr, hrun, hended, hW, hsame⟩ := X.leave (v := none) (fun _ => rfl) hlk
  exact ⟨_, _, X.returnOut hx hret hd hr, hrun, hended, _, _, rfl, hQ, ⟨_, rfl⟩, hW, hsame.mono hc hs⟩
section Og
variable {pc : Nat} {Ls : Array Slot} {st : List Value}
theorem og_iload (X : Stand p l e R s m args below meth c T locs cells slots) (hx : p.tables.exec = Jvm.exec) {k : Nat} {v : Int32} (hd : decode c.code pc = .ok (.iload k, 2)) (hl : Ls[k]? = some (.val (.int v))) (kk : own_Go p e below P T (mkF m (pc + 2) Ls (.int v :: st))) : own_Go p e below P T (mkF m pc Ls st) :=
  own_go (fun _ q => XS.iload X.here hx rfl hd hl q) kk
theorem og_iloadN (X : Stand p l e R s m args below meth c T locs cells slots) (hx : p.tables.exec = Jvm.exec) {k : Fin 4} {v : Int32} (hd : decode c.code pc = .ok (.iload_n k, 1)) (hl : Ls[k.val]? = some (.val (.int v))) (kk : own_Go p e below P T (mkF m (pc + 1) Ls (.int v :: st))) : own_Go p e below P T (mkF m pc Ls st) :=
  own_go (fun _ q => XS.iloadN X.here hx rfl hd hl q) kk
theorem og_aload (X : Stand p l e R s m args below meth c T locs cells slots) (hx : p.tables.exec = Jvm.exec) {k : Nat} {v : Value} (hd : decode c.code pc = .ok (.aload k, 2)) (hl : Ls[k]? = some (.val v)) (hv : v.isRef = true) (kk : own_Go p e below P T (mkF m (pc + 2) Ls (v :: st))) : own_Go p e below P T (mkF m pc Ls st) :=
  own_go (fun _ q => XS.aload X.here hx rfl hd hl hv q) kk
theorem og_aloadN (X : Stand p l e R s m args below meth c T locs cells slots) (hx : p.tables.exec = Jvm.exec) {k : Fin 4} {v : Value} (hd : decode c.code pc = .ok (.aload_n k, 1)) (hl : Ls[k.val]? = some (.val v)) (hv : v.isRef = true) (kk : own_Go p e below P T (mkF m (pc + 1) Ls (v :: st))) : own_Go p e below P T (mkF m pc Ls st) :=
  own_go (fun _ q => XS.aloadN X.here hx rfl hd hl hv q) kk
theorem og_lload (X : Stand p l e R s m args below meth c T locs cells slots) (hx : p.tables.exec = Jvm.exec) {k : Nat} {v : Int64} (hd : decode c.code pc = .ok (.lload k, 2)) (hl : Ls[k]? = some (.val (.long v))) (kk : own_Go p e below P T (mkF m (pc + 2) Ls (.long v :: st))) : own_Go p e below P T (mkF m pc Ls st) :=
  own_go (fun _ q => XS.lload X.here hx rfl hd hl q) kk
theorem og_lloadN (X : Stand p l e R s m args below meth c T locs cells slots) (hx : p.tables.exec = Jvm.exec) {k : Fin 4} {v : Int64} (hd : decode c.code pc = .ok (.lload_n k, 1)) (hl : Ls[k.val]? = some (.val (.long v))) (kk : own_Go p e below P T (mkF m (pc + 1) Ls (.long v :: st))) : own_Go p e below P T (mkF m pc Ls st) :=
  own_go (fun _ q => XS.lloadN X.here hx rfl hd hl q) kk
theorem og_istore (X : Stand p l e R s m args below meth c T locs cells slots) (hx : p.tables.exec = Jvm.exec) {k : Nat} {x : Int32} (l' : Array Slot) (hd : decode c.code pc = .ok (.istore k, 2)) (hl : storeLocals Ls k (.int x) = some l') (kk : own_Go p e below P T (mkF m (pc + 2) l' st)) : own_Go p e below P T (mkF m pc Ls (.int x :: st)) :=
  own_go (fun _ q => XS.istore X.here hx rfl hd rfl hl q) kk
theorem og_istoreN (X : Stand p l e R s m args below meth c T locs cells slots) (hx : p.tables.exec = Jvm.exec) {k : Fin 4} {x : Int32} (l' : Array Slot) (hd : decode c.code pc = .ok (.istore_n k, 1)) (hl : storeLocals Ls k.val (.int x) = some l') (kk : own_Go p e below P T (mkF m (pc + 1) l' st)) : own_Go p e below P T (mkF m pc Ls (.int x :: st)) :=
  own_go (fun _ q => XS.istoreN X.here hx rfl hd rfl hl q) kk
theorem og_lstore (X : Stand p l e R s m args below meth c T locs cells slots) (hx : p.tables.exec = Jvm.exec) {k : Nat} {x : Int64} (l' : Array Slot) (hd : decode c.code pc = .ok (.lstore k, 2)) (hl : storeLocals Ls k (.long x) = some l') (kk : own_Go p e below P T (mkF m (pc + 2) l' st)) : own_Go p e below P T (mkF m pc Ls (.long x :: st)) :=
  own_go (fun _ q => XS.lstore X.here hx rfl hd rfl hl q) kk
theorem og_lstoreN (X : Stand p l e R s m args below meth c T locs cells slots) (hx : p.tables.exec = Jvm.exec) {k : Fin 4} {x : Int64} (l' : Array Slot) (hd : decode c.code pc = .ok (.lstore_n k, 1)) (hl : storeLocals Ls k.val (.long x) = some l') (kk : own_Go p e below P T (mkF m (pc + 1) l' st)) : own_Go p e below P T (mkF m pc Ls (.long x :: st)) :=
  own_go (fun _ q => XS.lstoreN X.here hx rfl hd rfl hl q) kk
theorem og_astore (X : Stand p l e R s m args below meth c T locs cells slots) (hx : p.tables.exec = Jvm.exec) {k : Nat} {x : Value} (l' : Array Slot) (hd : decode c.code pc = .ok (.astore k, 2)) (hv : x.isRef = true) (hl : storeLocals Ls k x = some l') (kk : own_Go p e below P T (mkF m (pc + 2) l' st)) : own_Go p e below P T (mkF m pc Ls (x :: st)) :=
  own_go (fun _ q => XS.astore X.here hx rfl hd rfl hv hl q) kk
theorem og_astoreN (X : Stand p l e R s m args below meth c T locs cells slots) (hx : p.tables.exec = Jvm.exec) {k : Fin 4} {x : Value} (l' : Array Slot) (hd : decode c.code pc = .ok (.astore_n k, 1)) (hv : x.isRef = true) (hl : storeLocals Ls k.val x = some l') (kk : own_Go p e below P T (mkF m (pc + 1) l' st)) : own_Go p e below P T (mkF m pc Ls (x :: st)) :=
  own_go (fun _ q => XS.astoreN X.here hx rfl hd rfl hv hl q) kk
theorem og_iconst (X : Stand p l e R s m args below meth c T locs cells slots) (hx : p.tables.exec = Jvm.exec) {i : Int} (hd : decode c.code pc = .ok (.iconst i, 1)) (kk : own_Go p e below P T (mkF m (pc + 1) Ls (.int (Int32.ofInt i) :: st))) : own_Go p e below P T (mkF m pc Ls st) :=
  own_go (fun _ q => XS.iconst X.here hx rfl hd q) kk
theorem og_bipush (X : Stand p l e R s m args below meth c T locs cells slots) (hx : p.tables.exec = Jvm.exec) {i : Int} (hd : decode c.code pc = .ok (.bipush i, 2)) (kk : own_Go p e below P T (mkF m (pc + 2) Ls (.int (Int8.ofInt i).toInt32 :: st))) : own_Go p e below P T (mkF m pc Ls st) :=
  own_go (fun _ q => XS.bipush X.here hx rfl hd q) kk
theorem og_sipush (X : Stand p l e R s m args below meth c T locs cells slots) (hx : p.tables.exec = Jvm.exec) {i : Int} (hd : decode c.code pc = .ok (.sipush i, 3)) (kk : own_Go p e below P T (mkF m (pc + 3) Ls (.int (Int16.ofInt i).toInt32 :: st))) : own_Go p e below P T (mkF m pc Ls st) :=
  own_go (fun _ q => XS.sipush X.here hx rfl hd q) kk
theorem og_lconst (X : Stand p l e R s m args below meth c T locs cells slots) (hx : p.tables.exec = Jvm.exec) {k : Fin 2} (hd : decode c.code pc = .ok (.lconst k, 1)) (kk : own_Go p e below P T (mkF m (pc + 1) Ls (.long (Int64.ofNat k) :: st))) : own_Go p e below P T (mkF m pc Ls st) :=
  own_go (fun _ q => XS.lconst X.here hx rfl hd q) kk
theorem og_null (X : Stand p l e R s m args below meth c T locs cells slots) (hx : p.tables.exec = Jvm.exec) (hd : decode c.code pc = .ok (.aconst_null, 1)) (kk : own_Go p e below P T (mkF m (pc + 1) Ls (.null :: st))) : own_Go p e below P T (mkF m pc Ls st) :=
  own_go (fun _ q => XS.aconstNull X.here hx rfl hd q) kk
theorem og_iadd (X : Stand p l e R s m args below meth c T locs cells slots) (hx : p.tables.exec = Jvm.exec) {x y : Int32} (hd : decode c.code pc = .ok (.iadd, 1)) (kk : own_Go p e below P T (mkF m (pc + 1) Ls (.int (x + y) :: st))) : own_Go p e below P T (mkF m pc Ls (.int y :: .int x :: st)) :=
  own_go (fun _ q => XS.iadd X.here hx rfl hd rfl q) kk
theorem og_isub (X : Stand p l e R s m args below meth c T locs cells slots) (hx : p.tables.exec = Jvm.exec) {x y : Int32} (hd : decode c.code pc = .ok (.isub, 1)) (kk : own_Go p e below P T (mkF m (pc + 1) Ls (.int (x - y) :: st))) : own_Go p e below P T (mkF m pc Ls (.int y :: .int x :: st)) :=
  own_go (fun _ q => XS.isub X.here hx rfl hd rfl q) kk
theorem og_iand (X : Stand p l e R s m args below meth c T locs cells slots) (hx : p.tables.exec = Jvm.exec) {x y : Int32} (hd : decode c.code pc = .ok (.iand, 1)) (kk : own_Go p e below P T (mkF m (pc + 1) Ls (.int (x &&& y) :: st))) : own_Go p e below P T (mkF m pc Ls (.int y :: .int x :: st)) :=
  own_go (fun _ q => XS.iand X.here hx rfl hd rfl q) kk
theorem og_imul (X : Stand p l e R s m args below meth c T locs cells slots) (hx : p.tables.exec = Jvm.exec) {x y : Int32} (hd : decode c.code pc = .ok (.imul, 1)) (kk : own_Go p e below P T (mkF m (pc + 1) Ls (.int (x * y) :: st))) : own_Go p e below P T (mkF m pc Ls (.int y :: .int x :: st)) :=
  own_go (fun _ q => XS.imul X.here hx rfl hd rfl q) kk
theorem og_ior (X : Stand p l e R s m args below meth c T locs cells slots) (hx : p.tables.exec = Jvm.exec) {x y : Int32} (hd : decode c.code pc = .ok (.ior, 1)) (kk : own_Go p e below P T (mkF m (pc + 1) Ls (.int (x ||| y) :: st))) : own_Go p e below P T (mkF m pc Ls (.int y :: .int x :: st)) :=
  own_go (fun _ q => XS.ior X.here hx rfl hd rfl q) kk
theorem og_ixor (X : Stand p l e R s m args below meth c T locs cells slots) (hx : p.tables.exec = Jvm.exec) {x y : Int32} (hd : decode c.code pc = .ok (.ixor, 1)) (kk : own_Go p e below P T (mkF m (pc + 1) Ls (.int (x ^^^ y) :: st))) : own_Go p e below P T (mkF m pc Ls (.int y :: .int x :: st)) :=
  own_go (fun _ q => XS.ixor X.here hx rfl hd rfl q) kk
theorem og_dup (X : Stand p l e R s m args below meth c T locs cells slots) (hx : p.tables.exec = Jvm.exec) {x : Value} (hd : decode c.code pc = .ok (.dup, 1)) (hc : x.category = 1) (kk : own_Go p e below P T (mkF m (pc + 1) Ls (x :: x :: st))) : own_Go p e below P T (mkF m pc Ls (x :: st)) :=
  own_go (fun _ q => XS.dup X.here hx rfl hd rfl hc q) kk
theorem og_pop (X : Stand p l e R s m args below meth c T locs cells slots) (hx : p.tables.exec = Jvm.exec) {x : Value} (hd : decode c.code pc = .ok (.pop, 1)) (hc : x.category = 1) (kk : own_Go p e below P T (mkF m (pc + 1) Ls st)) : own_Go p e below P T (mkF m pc Ls (x :: st)) :=
  own_go (fun _ q => XS.pop X.here hx rfl hd rfl hc q) kk
theorem og_goto (X : Stand p l e R s m args below meth c T locs cells slots) (hx : p.tables.exec = Jvm.exec) {o : Int} (pc' : Nat) (hd : decode c.code pc = .ok (.goto o, 3)) (ho : 0 ≤ (pc : Int) + o) (hp : ((pc : Int) + o).toNat = pc') (kk : own_Go p e below P T (mkF m pc' Ls st)) : own_Go p e below P T (mkF m pc Ls st) :=
  own_go (fun _ q => XS.goto X.here hx rfl rfl hd ho hp q) kk
theorem og_ifN (X : Stand p l e R s m args below meth c T locs cells slots) (hx : p.tables.exec = Jvm.exec) {cd : ClassFile.Cond} {o : Int} {x : Int32} (hd : decode c.code pc = .ok (.ifCond cd o, 3)) (hc : if_icmp.holds cd x 0 = false) (kk : own_Go p e below P T (mkF m (pc + 3) Ls st)) : own_Go p e below P T (mkF m pc Ls (.int x :: st)) :=
  own_go (fun _ q => XS.ifNo X.here hx rfl hd rfl ((if0 _ _).trans hc) q) kk
theorem og_ifY (X : Stand p l e R s m args below meth c T locs cells slots) (hx : p.tables.exec = Jvm.exec) {cd : ClassFile.Cond} {o : Int} {x : Int32} (pc' : Nat) (hd : decode c.code pc = .ok (.ifCond cd o, 3)) (hc : if_icmp.holds cd x 0 = true) (ho : 0 ≤ (pc : Int) + o) (hp : ((pc : Int) + o).toNat = pc') (kk : own_Go p e below P T (mkF m pc' Ls st)) : own_Go p e below P T (mkF m pc Ls (.int x :: st)) :=
  own_go (fun _ q => XS.ifYes X.here hx rfl rfl hd rfl ((if0 _ _).trans hc) ho hp q) kk
theorem og_icN (X : Stand p l e R s m args below meth c T locs cells slots) (hx : p.tables.exec = Jvm.exec) {cd : ClassFile.Cond} {o : Int} {x y : Int32} (hd : decode c.code pc = .ok (.if_icmp cd o, 3)) (hc : if_icmp.holds cd x y = false) (kk : own_Go p e below P T (mkF m (pc + 3) Ls st)) : own_Go p e below P T (mkF m pc Ls (.int y :: .int x :: st)) :=
  own_go (fun _ q => XS.icmpNo X.here hx rfl hd rfl hc q) kk
theorem og_icY (X : Stand p l e R s m args below meth c T locs cells slots) (hx : p.tables.exec = Jvm.exec) {cd : ClassFile.Cond} {o : Int} {x y : Int32} (pc' : Nat) (hd : decode c.code pc = .ok (.if_icmp cd o, 3)) (hc : if_icmp.holds cd x y = true) (ho : 0 ≤ (pc : Int) + o) (hp : ((pc : Int) + o).toNat = pc') (kk : own_Go p e below P T (mkF m pc' Ls st)) : own_Go p e below P T (mkF m pc Ls (.int y :: .int x :: st)) :=
  own_go (fun _ q => XS.icmpYes X.here hx rfl rfl hd rfl hc ho hp q) kk
theorem og_ifnullY (X : Stand p l e R s m args below meth c T locs cells slots) (hx : p.tables.exec = Jvm.exec) {o : Int} (pc' : Nat) (hd : decode c.code pc = .ok (.ifnull o, 3)) (ho : 0 ≤ (pc : Int) + o) (hp : ((pc : Int) + o).toNat = pc') (kk : own_Go p e below P T (mkF m pc' Ls st)) : own_Go p e below P T (mkF m pc Ls (.null :: st)) :=
  own_go (fun _ q => XS.ifnullYes X.here hx rfl rfl hd rfl ho hp q) kk
theorem og_ifnullN (X : Stand p l e R s m args below meth c T locs cells slots) (hx : p.tables.exec = Jvm.exec) {b : Addr} {o : Int} (hd : decode c.code pc = .ok (.ifnull o, 3)) (kk : own_Go p e below P T (mkF m (pc + 3) Ls st)) : own_Go p e below P T (mkF m pc Ls (.ref b :: st)) :=
  own_go (fun _ q => XS.ifnullNo X.here hx rfl hd rfl q) kk
theorem og_ifnonnullY (X : Stand p l e R s m args below meth c T locs cells slots) (hx : p.tables.exec = Jvm.exec) {b : Addr} {o : Int} (pc' : Nat) (hd : decode c.code pc = .ok (.ifnonnull o, 3)) (ho : 0 ≤ (pc : Int) + o) (hp : ((pc : Int) + o).toNat = pc') (kk : own_Go p e below P T (mkF m pc' Ls st)) : own_Go p e below P T (mkF m pc Ls (.ref b :: st)) :=
  own_go (fun _ q => XS.ifnonnullYes X.here hx rfl rfl hd rfl ho hp q) kk
theorem og_ifnonnullN (X : Stand p l e R s m args below meth c T locs cells slots) (hx : p.tables.exec = Jvm.exec) {o : Int} (hd : decode c.code pc = .ok (.ifnonnull o, 3)) (kk : own_Go p e below P T (mkF m (pc + 3) Ls st)) : own_Go p e below P T (mkF m pc Ls (.null :: st)) :=
  own_go (fun _ q => XS.ifnonnullNo X.here hx rfl hd rfl q) kk
theorem og_getF (X : Stand p l e R s m args below meth c T locs cells slots) (hx : p.tables.exec = Jvm.exec) (hZ : Z.Warmed39 s.vm) {own R0 O n d : String} {index : Nat} (hown : s.vm.findClass own = some m.cls) (w : (Jvm.Cond.fieldLink own index R0 n d).before a0 Z = true) (via : Via Z R0 O n d) (eT : T.heap = h) {a : Addr} {v : Value} (F : Fld Z h a O n d v) (hd : decode c.code pc = .ok (.getfield index, 3))
    (kk : ∀ T', Stand p l e R s m args below meth c T' locs cells slots → T'.heap = h → own_Go p e below P T' (mkF m (pc + 3) Ls (v :: st))) : own_Go p e below P T (mkF m pc Ls (.ref a :: st)) := by
  obtain ⟨T', X', e', stp⟩ := getF X hx hZ hown (host := "") (Or.inl w) via eT F (g := mkF m pc Ls (.ref a :: st)) rfl rfl hd
  exact own_go stp (kk T' X' e')
theorem og_getS (X : Stand p l e R s m args below meth c T locs cells slots) (hx : p.tables.exec = Jvm.exec) (hZ : Z.Warmed39 s.vm) {own R0 O n d : String} {index : Nat} (hown : s.vm.findClass own = some m.cls) (w : (Jvm.Cond.fieldLink own index R0 n d).before a0 Z = true) (via : Via Z R0 O n d) (eT : T.heap = h) {v : Value} (F : Sta Z h O n d v) (hd : decode c.code pc = .ok (.getstatic index, 3))
    (kk : ∀ T', Stand p l e R s m args below meth c T' locs cells slots → T'.heap = h → own_Go p e below P T' (mkF m (pc + 3) Ls (v :: st))) : own_Go p e below P T (mkF m pc Ls st) := by
  obtain ⟨T', X', e', stp⟩ := getS2 X hx hZ hown (host := "") (Or.inl w) via eT F (g := mkF m pc Ls st) rfl hd
  exact own_go stp (kk T' X' e')
theorem og_ldcI (X : Stand p l e R s m args below meth c T locs cells slots) (hx : p.tables.exec = Jvm.exec) (hZ : Z.Warmed39 s.vm) {own : String} {index : Nat} {v : Int32} (hown : s.vm.findClass own = some m.cls) (w : (Jvm.Cond.constant own index v).before a0 Z = true) (hd : decode c.code pc = .ok (.ldc index, 2)) (kk : own_Go p e below P T (mkF m (pc + 2) Ls (.int v :: st))) : own_Go p e below P T (mkF m pc Ls st) :=
  own_go (fun _ q => X.ldcI hx hown (mvT hZ w) rfl hd q) kk
theorem og_iremM (X : Stand p l e R s m args below meth c T locs cells slots) (hx : p.tables.exec = Jvm.exec) {x y : Int32} (hd : decode c.code pc = .ok (.irem, 1)) (hy : y ≠ 0) (kk : own_Go p e below P T (mkF m (pc + 1) Ls (.int (x % y) :: st))) : own_Go p e below P T (mkF m pc Ls (.int y :: .int x :: st)) :=
  own_go (fun _ q => iremM X hx rfl hd rfl hy q) kk
theorem og_acmp (X : Stand p l e R s m args below meth c T locs cells slots) (hx : p.tables.exec = Jvm.exec) {cd : ACond} {x y : Value} {o : Int} {pc' : Nat} {same : Bool} (h1 : x.isRef = true) (h2 : y.isRef = true) (hd : decode c.code pc = .ok (.if_acmp cd o, 3)) (hq : decide (x = y) = same) (ho : 0 ≤ (pc : Int) + o) (hp : pc' = if acV cd same = true then ((pc : Int) + o).toNat else pc + 3)
    (kk : own_Go p e below P T (mkF m pc' Ls st)) : own_Go p e below P T (mkF m pc Ls (y :: x :: st)) :=
  own_go (fun _ q => Jvm.RoadKit.acmp (g := mkF m pc Ls (y :: x :: st)) X hx rfl h1 h2 rfl hd rfl hq ho hp q) kk
end Og
/-! the calls: by a Back (..B), or by a body's own contract -/
theorem own_callSB (X : Stand p l e R s m args below meth c T locs cells slots) (hx : p.tables.exec = Jvm.exec) (hZ : Z.Warmed39 s.vm) {own : String} {index : Nat} {y : MethodName} {bytes : ByteArray} {maxL : Nat} {ret : Option FieldType} (hown : s.vm.findClass own = some m.cls)
    (w1 : (Jvm.Cond.methodLink own index y).before a0 Z = true) (w2 : (Jvm.Cond.static y).before a0 Z = true) (w3 : (Jvm.Cond.initialized y.cls).before a0 Z = true) (w4 : (Jvm.Cond.code y bytes maxL ret).before a0 Z = true) (hy : y.cls ≠ "java/lang/invoke/MethodHandle" ∧ y.cls ≠ "java/lang/invoke/VarHandle")
    {argsL rest : List Value} {Q : Option Value → Heap → List Loc → Prop} {kc kn W : Nat} (hK : Back l R p e below s args y 3 W (fun A a => a = (argsL).toArray ∧ A.U.heap = h ∧ A.cells + kc ≤ R.cells ∧ A.slots + kn ≤ R.slots) (fun A _ v B => ∃ L, Q v B.U.heap L ∧ B.locs = A.locs ++ L ∧ B.cells = A.cells + kc ∧ B.slots = A.slots + kn)) (eT : T.heap = h) {pc : Nat} {Ls : Array Slot} {st : List Value} (hsize : Ls.size = c.maxLocals)
    (hlen : ∀ sig, parseMethodDescriptor y.desc = some sig → argsL.length = sig.parameters.length) (hstack : st = argsL.reverse ++ rest) (hd : decode c.code pc = .ok (.invokestatic index, 3)) (hW : (rest.map fun v => v.category).sum ≤ W) (hc : cells + kc ≤ R.cells) (hs : slots + kn ≤ R.slots)
    (k : ∀ (v : Option Value) (T' : State) (L : List Loc), Stand p l e R s m args below meth c T' (locs ++ L) (cells + kc) (slots + kn) → Q v T'.heap L → own_Go p e below P T' (mkF m (pc + 3) Ls (v.toList ++ rest))) : own_Go p e below P T (mkF m pc Ls st) := by
  obtain ⟨v, _, ⟨T', L', k', n'⟩, -, X', ⟨Lc, hQ, l1, y1, z1⟩, stp⟩ := Jvm.LawKit.callS X hx (y := y) hown (mvT hZ w1) (mvT hZ w2) (mvT hZ w3) (mvT hZ w4) hy hK (g := mkF m pc Ls st) rfl hsize (argsL := argsL) (rest := rest) hlen hstack (by show 2 * 0 + _ ≤ _; omega) hd (fun _ _ => ⟨rfl, eT, hc, hs⟩)
  dsimp only [Pt.U, Pt.locs, Pt.cells, Pt.slots] at X' l1 y1 z1 stp hQ
  subst l1 y1 z1
  exact own_go stp (k v T' Lc X' hQ)
theorem own_callS (X : Stand p l e R s m args below meth c T locs cells slots) (hx : p.tables.exec = Jvm.exec) (hZ : Z.Warmed39 s.vm) {own : String} {index : Nat} {y : MethodName} {bytes : ByteArray} {maxL : Nat} {ret : Option FieldType} (hown : s.vm.findClass own = some m.cls)
    (w1 : (Jvm.Cond.methodLink own index y).before a0 Z = true) (w2 : (Jvm.Cond.static y).before a0 Z = true) (w3 : (Jvm.Cond.initialized y.cls).before a0 Z = true) (w4 : (Jvm.Cond.code y bytes maxL ret).before a0 Z = true) (hy : y.cls ≠ "java/lang/invoke/MethodHandle" ∧ y.cls ≠ "java/lang/invoke/VarHandle")
    {argsL rest : List Value} {rm : Room} {Q : Option Value → Heap → List Loc → Prop} (hM : own_Met l Z y bytes maxL ret rm (argsL).toArray h Q) (eT : T.heap = h) {pc : Nat} {Ls : Array Slot} {st : List Value} (hsize : Ls.size = c.maxLocals)
    (hlen : ∀ sig, parseMethodDescriptor y.desc = some sig → argsL.length = sig.parameters.length) (hstack : st = argsL.reverse ++ rest) (hd : decode c.code pc = .ok (.invokestatic index, 3)) {W : Nat} (hW : (rest.map fun v => v.category).sum ≤ W) (h4 : rm.frames + 1 ≤ R.frames ∧ W + (maxL + 11) + rm.locals ≤ R.locals ∧ cells + rm.cells ≤ R.cells ∧ slots + rm.slots ≤ R.slots)
    (k : ∀ (v : Option Value) (T' : State) (L : List Loc), Stand p l e R s m args below meth c T' (locs ++ L) (cells + rm.cells) (slots + rm.slots) → Q v T'.heap L → own_Go p e below P T' (mkF m (pc + 3) Ls (v.toList ++ rest))) : own_Go p e below P T (mkF m pc Ls st) :=
  own_callSB X hx hZ hown w1 w2 w3 w4 hy (backOf (W := W) (hM []) hZ w4 w3 h4.1 h4.2.1) eT hsize hlen hstack hd hW h4.2.2.1 h4.2.2.2 k
theorem own_callVB (X : Stand p l e R s m args below meth c T locs cells slots) (hx : p.tables.exec = Jvm.exec) (hZ : Z.Warmed39 s.vm) {own C : String} {index : Nat} {y z : MethodName} {bytes : ByteArray} {maxL : Nat} {ret : Option FieldType} (hown : s.vm.findClass own = some m.cls)
    (w1 : (Jvm.Cond.methodLink own index y).before a0 Z = true) (w2 : (Jvm.Cond.declares y).before a0 Z = true) (nf : NotFace s y) (w3 : (Jvm.Cond.selects C y z).before a0 Z = true) (w4 : (Jvm.Cond.instanceMethod z).before a0 Z = true) (w5 : (Jvm.Cond.code z bytes maxL ret).before a0 Z = true) (w6 : (Jvm.Cond.initialized z.cls).before a0 Z = true) (hy : y.cls ≠ "java/lang/invoke/MethodHandle" ∧ y.cls ≠ "java/lang/invoke/VarHandle")
    {b : Addr} {argsL rest : List Value} {Q : Option Value → Heap → List Loc → Prop} {kc kn W : Nat} (hK : Back l R p e below s args z 3 W (fun A a => a = (.ref b :: argsL).toArray ∧ A.U.heap = h ∧ A.cells + kc ≤ R.cells ∧ A.slots + kn ≤ R.slots) (fun A _ v B => ∃ L, Q v B.U.heap L ∧ B.locs = A.locs ++ L ∧ B.cells = A.cells + kc ∧ B.slots = A.slots + kn)) (eT : T.heap = h) (E : Exa Z h b C) {pc : Nat} {Ls : Array Slot} {st : List Value} (hsize : Ls.size = c.maxLocals)
    (hlen : ∀ sig, parseMethodDescriptor y.desc = some sig → argsL.length = sig.parameters.length) (hstack : st = argsL.reverse ++ .ref b :: rest) (hd : decode c.code pc = .ok (.invokevirtual index, 3)) (hW : (rest.map fun v => v.category).sum ≤ W) (hc : cells + kc ≤ R.cells) (hs : slots + kn ≤ R.slots)
    (k : ∀ (v : Option Value) (T' : State) (L : List Loc), Stand p l e R s m args below meth c T' (locs ++ L) (cells + kc) (slots + kn) → Q v T'.heap L → own_Go p e below P T' (mkF m (pc + 3) Ls (v.toList ++ rest))) : own_Go p e below P T (mkF m pc Ls st) := by
  obtain ⟨cq, kq, qa, qb, qc⟩ := isOf hZ eT E
  obtain ⟨v, _, ⟨T', L', k', n'⟩, -, X', ⟨Lc, hQ, l1, y1, z1⟩, stp⟩ := X.virtualBack hx (y := y) (z := z) hown (mvT hZ w1) (mvT hZ w2) nf (mvT hZ w3) (mvT hZ w4) hy hK qa qc (g := mkF m pc Ls st) rfl hsize (Steps.refl _) (argsL := argsL) (rest := rest) hlen hstack (by show 2 * 0 + _ ≤ _; omega) hd (fun _ _ => ⟨rfl, eT, hc, hs⟩)
  dsimp only [Pt.U, Pt.locs, Pt.cells, Pt.slots] at X' l1 y1 z1 stp hQ
  subst l1 y1 z1
  exact own_go (fun _ q => stp.trans q) (k v T' Lc X' hQ)
theorem own_callV (X : Stand p l e R s m args below meth c T locs cells slots) (hx : p.tables.exec = Jvm.exec) (hZ : Z.Warmed39 s.vm) {own C : String} {index : Nat} {y z : MethodName} {bytes : ByteArray} {maxL : Nat} {ret : Option FieldType} (hown : s.vm.findClass own = some m.cls)
    (w1 : (Jvm.Cond.methodLink own index y).before a0 Z = true) (w2 : (Jvm.Cond.declares y).before a0 Z = true) (nf : NotFace s y) (w3 : (Jvm.Cond.selects C y z).before a0 Z = true) (w4 : (Jvm.Cond.instanceMethod z).before a0 Z = true) (w5 : (Jvm.Cond.code z bytes maxL ret).before a0 Z = true) (w6 : (Jvm.Cond.initialized z.cls).before a0 Z = true) (hy : y.cls ≠ "java/lang/invoke/MethodHandle" ∧ y.cls ≠ "java/lang/invoke/VarHandle")
    {b : Addr} {argsL rest : List Value} {rm : Room} {Q : Option Value → Heap → List Loc → Prop} (hM : own_Met l Z z bytes maxL ret rm (.ref b :: argsL).toArray h Q) (eT : T.heap = h) (E : Exa Z h b C) {pc : Nat} {Ls : Array Slot} {st : List Value} (hsize : Ls.size = c.maxLocals)
    (hlen : ∀ sig, parseMethodDescriptor y.desc = some sig → argsL.length = sig.parameters.length) (hstack : st = argsL.reverse ++ .ref b :: rest) (hd : decode c.code pc = .ok (.invokevirtual index, 3)) {W : Nat} (hW : (rest.map fun v => v.category).sum ≤ W) (h4 : rm.frames + 1 ≤ R.frames ∧ W + (maxL + 11) + rm.locals ≤ R.locals ∧ cells + rm.cells ≤ R.cells ∧ slots + rm.slots ≤ R.slots)
    (k : ∀ (v : Option Value) (T' : State) (L : List Loc), Stand p l e R s m args below meth c T' (locs ++ L) (cells + rm.cells) (slots + rm.slots) → Q v T'.heap L → own_Go p e below P T' (mkF m (pc + 3) Ls (v.toList ++ rest))) : own_Go p e below P T (mkF m pc Ls st) :=
  own_callVB X hx hZ hown w1 w2 nf w3 w4 w5 w6 hy (backOf (W := W) (hM []) hZ w5 w6 h4.1 h4.2.1) eT E hsize hlen hstack hd hW h4.2.2.1 h4.2.2.2 k
theorem own_callUB (X : Stand p l e R s m args below meth c T locs cells slots) (hx : p.tables.exec = Jvm.exec) (hZ : Z.Warmed39 s.vm) {own C owner : String} {index : Nat} {y z : MethodName} {bytes : ByteArray} {maxL : Nat} {ret : Option FieldType} (hown : s.vm.findClass own = some m.cls)
    (w1 : (Jvm.Cond.methodLink own index y).before a0 Z = true) (ws : (Jvm.Cond.sameMethod y.cls owner y.name y.desc).before a0 Z = true) (w2 : (Jvm.Cond.declares ⟨owner, y.name, y.desc⟩).before a0 Z = true) (ho : owner ≠ "java/lang/invoke/MethodHandle" ∧ owner ≠ "java/lang/invoke/VarHandle")
    (w3 : (Jvm.Cond.selects C y z).before a0 Z = true) (w4 : (Jvm.Cond.instanceMethod z).before a0 Z = true) (w5 : (Jvm.Cond.code z bytes maxL ret).before a0 Z = true) (w6 : (Jvm.Cond.initialized z.cls).before a0 Z = true)
    {b : Addr} {argsL rest : List Value} {Q : Option Value → Heap → List Loc → Prop} {kc kn W : Nat} (hK : Back l R p e below s args z 3 W (fun A a => a = (.ref b :: argsL).toArray ∧ A.U.heap = h ∧ A.cells + kc ≤ R.cells ∧ A.slots + kn ≤ R.slots) (fun A _ v B => ∃ L, Q v B.U.heap L ∧ B.locs = A.locs ++ L ∧ B.cells = A.cells + kc ∧ B.slots = A.slots + kn)) (eT : T.heap = h) (E : Exa Z h b C) {pc : Nat} {Ls : Array Slot} {st : List Value} (hsize : Ls.size = c.maxLocals)
    (hlen : ∀ sig, parseMethodDescriptor y.desc = some sig → argsL.length = sig.parameters.length) (hstack : st = argsL.reverse ++ .ref b :: rest) (hd : decode c.code pc = .ok (.invokevirtual index, 3)) (hW : (rest.map fun v => v.category).sum ≤ W) (hc : cells + kc ≤ R.cells) (hs : slots + kn ≤ R.slots)
    (k : ∀ (v : Option Value) (T' : State) (L : List Loc), Stand p l e R s m args below meth c T' (locs ++ L) (cells + kc) (slots + kn) → Q v T'.heap L → own_Go p e below P T' (mkF m (pc + 3) Ls (v.toList ++ rest))) : own_Go p e below P T (mkF m pc Ls st) := by
  obtain ⟨cq, kq, qa, qb, qc⟩ := isOf hZ eT E
  obtain ⟨v, _, ⟨T', L', k', n'⟩, -, X', ⟨Lc, hQ, l1, y1, z1⟩, stp⟩ := X.virtualBackUp hx (x := y) (y := z) (owner := owner) hown (mvT hZ w1) (mvT hZ ws) (mvT hZ w2) ho (mvT hZ w3) (mvT hZ w4) hK qa qc (g := mkF m pc Ls st) rfl hsize (Steps.refl _) (argsL := argsL) (rest := rest) hlen hstack (by show 2 * 0 + _ ≤ _; omega) hd (fun _ _ => ⟨rfl, eT, hc, hs⟩)
  dsimp only [Pt.U, Pt.locs, Pt.cells, Pt.slots] at X' l1 y1 z1 stp hQ
  subst l1 y1 z1
  exact own_go (fun _ q => stp.trans q) (k v T' Lc X' hQ)
theorem own_callU (X : Stand p l e R s m args below meth c T locs cells slots) (hx : p.tables.exec = Jvm.exec) (hZ : Z.Warmed39 s.vm) {own C owner : String} {index : Nat} {y z : MethodName} {bytes : ByteArray} {maxL : Nat} {ret : Option FieldType} (hown : s.vm.findClass own = some m.cls)
    (w1 : (Jvm.Cond.methodLink own index y).before a0 Z = true) (ws : (Jvm.Cond.sameMethod y.cls owner y.name y.desc).before a0 Z = true) (w2 : (Jvm.Cond.declares ⟨owner, y.name, y.desc⟩).before a0 Z = true) (ho : owner ≠ "java/lang/invoke/MethodHandle" ∧ owner ≠ "java/lang/invoke/VarHandle")
    (w3 : (Jvm.Cond.selects C y z).before a0 Z = true) (w4 : (Jvm.Cond.instanceMethod z).before a0 Z = true) (w5 : (Jvm.Cond.code z bytes maxL ret).before a0 Z = true) (w6 : (Jvm.Cond.initialized z.cls).before a0 Z = true)
    {b : Addr} {argsL rest : List Value} {rm : Room} {Q : Option Value → Heap → List Loc → Prop} (hM : own_Met l Z z bytes maxL ret rm (.ref b :: argsL).toArray h Q) (eT : T.heap = h) (E : Exa Z h b C) {pc : Nat} {Ls : Array Slot} {st : List Value} (hsize : Ls.size = c.maxLocals)
    (hlen : ∀ sig, parseMethodDescriptor y.desc = some sig → argsL.length = sig.parameters.length) (hstack : st = argsL.reverse ++ .ref b :: rest) (hd : decode c.code pc = .ok (.invokevirtual index, 3)) {W : Nat} (hW : (rest.map fun v => v.category).sum ≤ W) (h4 : rm.frames + 1 ≤ R.frames ∧ W + (maxL + 11) + rm.locals ≤ R.locals ∧ cells + rm.cells ≤ R.cells ∧ slots + rm.slots ≤ R.slots)
    (k : ∀ (v : Option Value) (T' : State) (L : List Loc), Stand p l e R s m args below meth c T' (locs ++ L) (cells + rm.cells) (slots + rm.slots) → Q v T'.heap L → own_Go p e below P T' (mkF m (pc + 3) Ls (v.toList ++ rest))) : own_Go p e below P T (mkF m pc Ls st) :=
  own_callUB X hx hZ hown w1 ws w2 ho w3 w4 w5 w6 (backOf (W := W) (hM []) hZ w5 w6 h4.1 h4.2.1) eT E hsize hlen hstack hd hW h4.2.2.1 h4.2.2.2 k
theorem own_callNB (X : Stand p l e R s m args below meth c T locs cells slots) (hx : p.tables.exec = Jvm.exec) (hZ : Z.Warmed39 s.vm) {own : String} {index : Nat} {y : MethodName} {bytes : ByteArray} {maxL : Nat} (hown : s.vm.findClass own = some m.cls)
    (w1 : (Jvm.Cond.methodLink own index y).before a0 Z = true) (w2 : (Jvm.Cond.instanceMethod y).before a0 Z = true) (w4 : (Jvm.Cond.code y bytes maxL none).before a0 Z = true) (w3 : (Jvm.Cond.initialized y.cls).before a0 Z = true) (hy : y.cls ≠ "java/lang/invoke/MethodHandle" ∧ y.cls ≠ "java/lang/invoke/VarHandle") (hn : y.name = "<init>")
    {b : Addr} {argsL rest : List Value} {Q : Option Value → Heap → List Loc → Prop} {kc kn W : Nat} (hK : Back l R p e below s args y 3 W (fun A a => a = (.ref b :: argsL).toArray ∧ A.U.heap = h ∧ A.cells + kc ≤ R.cells ∧ A.slots + kn ≤ R.slots) (fun A _ v B => ∃ L, Q v B.U.heap L ∧ B.locs = A.locs ++ L ∧ B.cells = A.cells + kc ∧ B.slots = A.slots + kn)) (eT : T.heap = h) {pc : Nat} {Ls : Array Slot} {st : List Value} (hsize : Ls.size = c.maxLocals)
    (hlen : ∀ sig, parseMethodDescriptor y.desc = some sig → argsL.length = sig.parameters.length) (hstack : st = argsL.reverse ++ .ref b :: rest) (hd : decode c.code pc = .ok (.invokespecial index, 3)) (hW : (rest.map fun v => v.category).sum ≤ W) (hc : cells + kc ≤ R.cells) (hs : slots + kn ≤ R.slots)
    (k : ∀ (v : Option Value) (T' : State) (L : List Loc), Stand p l e R s m args below meth c T' (locs ++ L) (cells + kc) (slots + kn) → Q v T'.heap L → own_Go p e below P T' (mkF m (pc + 3) Ls (v.toList ++ rest))) : own_Go p e below P T (mkF m pc Ls st) := by
  obtain ⟨v, _, ⟨T', L', k', n'⟩, -, X', ⟨Lc, hQ, l1, y1, z1⟩, stp⟩ := X.specialBack hx (y := y) hn hown (mvT hZ w1) (mvT hZ w2) (mvT hZ w4) hy hK (g := mkF m pc Ls st) rfl hsize (Steps.refl _) (a := b) (argsL := argsL) (rest := rest) hlen hstack (by show 2 * 0 + _ ≤ _; omega) hd (fun _ _ => ⟨rfl, eT, hc, hs⟩)
  dsimp only [Pt.U, Pt.locs, Pt.cells, Pt.slots] at X' l1 y1 z1 stp hQ
  subst l1 y1 z1
  exact own_go (fun _ q => stp.trans q) (k v T' Lc X' hQ)
theorem own_callN (X : Stand p l e R s m args below meth c T locs cells slots) (hx : p.tables.exec = Jvm.exec) (hZ : Z.Warmed39 s.vm) {own : String} {index : Nat} {y : MethodName} {bytes : ByteArray} {maxL : Nat} (hown : s.vm.findClass own = some m.cls)
    (w1 : (Jvm.Cond.methodLink own index y).before a0 Z = true) (w2 : (Jvm.Cond.instanceMethod y).before a0 Z = true) (w4 : (Jvm.Cond.code y bytes maxL none).before a0 Z = true) (w3 : (Jvm.Cond.initialized y.cls).before a0 Z = true) (hy : y.cls ≠ "java/lang/invoke/MethodHandle" ∧ y.cls ≠ "java/lang/invoke/VarHandle") (hn : y.name = "<init>")
    {b : Addr} {argsL rest : List Value} {rm : Room} {Q : Option Value → Heap → List Loc → Prop} (hM : own_Met l Z y bytes maxL none rm (.ref b :: argsL).toArray h Q) (eT : T.heap = h) {pc : Nat} {Ls : Array Slot} {st : List Value} (hsize : Ls.size = c.maxLocals)
    (hlen : ∀ sig, parseMethodDescriptor y.desc = some sig → argsL.length = sig.parameters.length) (hstack : st = argsL.reverse ++ .ref b :: rest) (hd : decode c.code pc = .ok (.invokespecial index, 3)) {W : Nat} (hW : (rest.map fun v => v.category).sum ≤ W) (h4 : rm.frames + 1 ≤ R.frames ∧ W + (maxL + 11) + rm.locals ≤ R.locals ∧ cells + rm.cells ≤ R.cells ∧ slots + rm.slots ≤ R.slots)
    (k : ∀ (v : Option Value) (T' : State) (L : List Loc), Stand p l e R s m args below meth c T' (locs ++ L) (cells + rm.cells) (slots + rm.slots) → Q v T'.heap L → own_Go p e below P T' (mkF m (pc + 3) Ls (v.toList ++ rest))) : own_Go p e below P T (mkF m pc Ls st) :=
  own_callNB X hx hZ hown w1 w2 w4 w3 hy hn (backOf (W := W) (hM []) hZ w4 w3 h4.1 h4.2.1) eT hsize hlen hstack hd hW h4.2.2.1 h4.2.2.2 k
/-- answers w, writes nothing old, leaves the heap as it was -/
def own_Qv (w : Option Value) (h0 : Heap) (n0 : Nat) (v : Option Value) (h : Heap) (L : List Loc) : Prop := v = w ∧ Fr n0 L ∧ h = h0
/-- the law's own: it answers 1 and writes nothing old -/
def own_Q1 (n0 : Nat) (v : Option Value) (h : Heap) (L : List Loc) : Prop := v = some (.int 1) ∧ Fr n0 L
theorem own_fldI {t : Term} {C n d : String} {a : Addr} {k : Int32} (ev : t.eval args Z none [] Z = some (.ref a)) (hx : (Jvm.Cond.eq (.field t C n d) (.int k)).value args Z none Z [] = some true) : Fld Z Z.heap a C n d (.int k) := by
  obtain ⟨x, y, h1, h2, k1, k2⟩ := cmp_v (Or.inl hx)
  have h2' : y = .int k := (Option.some.inj (h2.symm.trans (Term.int_eval k)))
  subst h2'
  obtain ⟨z, rfl⟩ : ∃ z, x = .int z := k2
  have hz : z = k := by simpa [Jvm.Cond.value, h1, h2] using hx
  subst hz
  exact Fld.start ((fld_at ev).symm.trans h1)
theorem own_fldN {t : Term} {C n d : String} {a : Addr} (ev : t.eval args Z none [] Z = some (.ref a)) (hx : (Jvm.Cond.eq (.field t C n d) .null).value args Z none Z [] = some true) : Fld Z Z.heap a C n d .null :=
  Fld.start ((fld_at ev).symm.trans (null_v hx))
theorem own_fldR {t : Term} {C n d : String} {a : Addr} (ev : t.eval args Z none [] Z = some (.ref a)) (hx : (Jvm.Cond.not (.eq (.field t C n d) .null)).value args Z none Z [] = some true) : ∃ b, Fld Z Z.heap a C n d (.ref b) := by
  obtain ⟨b, hb⟩ := nn_v (not_v hx)
  exact ⟨b, Fld.start ((fld_at ev).symm.trans hb)⟩
theorem own_fldX {t : Term} {C n d K : String} {a : Addr} (ev : t.eval args Z none [] Z = some (.ref a)) (hx : (Jvm.Cond.exactly (.field t C n d) K).value args Z none Z [] = some true) : ∃ b, (Term.field t C n d).eval args Z none [] Z = some (.ref b) ∧ Fld Z Z.heap a C n d (.ref b) ∧ Exa Z Z.heap b K := by
  obtain ⟨b, hb⟩ := exa_v hx
  exact ⟨b, hb, Fld.start ((fld_at ev).symm.trans hb), Exa.start hb hx⟩
theorem own_fldE {t t' : Term} {C n d : String} {a b : Addr} (ev : t.eval args Z none [] Z = some (.ref a)) (h2 : t'.eval args Z none [] Z = some (.ref b)) (hx : (Jvm.Cond.eq (.field t C n d) t').value args Z none Z [] = some true) : Fld Z Z.heap a C n d (.ref b) := by
  obtain ⟨x, y, h1, h2', k1, k2⟩ := cmp_v (Or.inl hx)
  cases h2.symm.trans h2'
  have k3 : x.isRef = true := k2.2
  have hz : x = .ref b := gotT (eq_R h1 h2 k3 rfl) hx
  subst hz
  exact Fld.start ((fld_at ev).symm.trans h1)
end Own
theorem own_rem19 (x : Int32) : 0 ≤ ((x &&& 2147483647) % 19).toInt ∧ ((x &&& 2147483647) % 19).toInt ≤ 18 := by
  have h : (x &&& 2147483647).toInt = x.toInt % 2 ^ 31 := Jvm.Kit.i32_mask x 2147483647 (k := 31) (by decide) (by decide)
  have q : ((x &&& 2147483647) % 19).toInt = (x &&& 2147483647).toInt % (19 : Int32).toInt := Jvm.Kit.i32_rem_nonneg (by omega)
  have e : (19 : Int32).toInt = 19 := rfl
  rw [q, e]; omega
def own_Nu (Z : State) (h : Heap) (b : Addr) : Prop := Exa Z h b "com/example/keyturn/keyturn/Option" ∧ Fld Z h b "com/example/keyturn/keyturn/Option" "value" "Ljava/lang/String;" .null
def own_Re (Z : State) (h : Heap) (b : Addr) : Prop := Exa Z h b "com/example/keyturn/keyturn/Option" ∧ ∃ x, Fld Z h b "com/example/keyturn/keyturn/Option" "value" "Ljava/lang/String;" (.ref x)
def own_Qa (Z : State) (h0 : Heap) (n0 : Nat) (i : Int32) (v : Option Value) (h : Heap) (L : List Loc) : Prop := ∃ b, v = some (.ref b) ∧ Fr n0 L ∧ h = h0 ∧ (((i = 14 ∨ i = 16 ∨ i = 17 ∨ i = 18) ∧ own_Nu Z h0 b) ∨ (¬ (i = 14 ∨ i = 16 ∨ i = 17 ∨ i = 18) ∧ own_Re Z h0 b))
theorem d2_0 : decode prog_6_method_5_code 0 = .ok (.aload_n 0, 1) := by decide +kernel
theorem d2_1 : decode prog_6_method_5_code 1 = .ok (.getfield 84, 3) := by decide +kernel
theorem d2_4 : decode prog_6_method_5_code 4 = .ok (.ifnonnull 7, 3) := by decide +kernel
theorem d2_7 : decode prog_6_method_5_code 7 = .ok (.iconst 1, 1) := by decide +kernel
theorem d2_8 : decode prog_6_method_5_code 8 = .ok (.goto 4, 3) := by decide +kernel
theorem d2_12 : decode prog_6_method_5_code 12 = .ok (.ireturn, 1) := by decide +kernel
def own_r_own_rm2n : Room := { frames := 0, cells := 0, slots := 0, locals := 0 }
theorem own_rm2n (l : Launch) (Z : State) (a0 : Array Value) (hw : own_W a0 Z) (a1 : Addr) (h0 : Heap) (n0 : Nat) (F : Fld Z h0 a1 "com/example/keyturn/keyturn/Option" "value" "Ljava/lang/String;" .null) :
    own_Met l Z (⟨"com/example/keyturn/keyturn/Option", "flag", "()Z"⟩ : MethodName) prog_6_method_5_code 1 (some .boolean) own_r_own_rm2n #[(.ref a1)] h0 (own_Qv (some (.int 1)) h0 n0) := by
  refine own_body (by decide +kernel) ?_
  intro p e s m below meth c T0 X0 hx hZ hby hml hown hnm hret hlk e0
  have N0 := Fr.nil n0
  refine own_cast (g' := (mkF m 0 #[rv a1] [])) rfl ?_
  refine og_aloadN X0 hx (hb hby d2_0) rfl rfl ?_
  refine og_getF X0 hx hZ hown (own_hw hw 13 rfl) Via.refl e0 F (hb hby d2_1) ?_
  intro T1 X1 e1
  show own_Go p e below _ T1 (mkF m 4 #[rv a1] [.null])
  refine og_ifnonnullN X1 hx (hb hby d2_4) ?_
  show own_Go p e below _ T1 (mkF m 7 #[rv a1] [])
  refine og_iconst X1 hx (hb hby d2_7) ?_
  refine og_goto X1 hx 12 (hb hby d2_8) (by decide) (by decide) ?_
  exact own_retI X1 hx hret hlk (hb hby d2_12) rfl (by simp) (by decide) (by decide) (⟨rfl, N0, e1⟩)
theorem d2_11 : decode prog_6_method_5_code 11 = .ok (.iconst 0, 1) := by decide +kernel
def own_r_own_rm2r : Room := { frames := 0, cells := 0, slots := 0, locals := 0 }
theorem own_rm2r (l : Launch) (Z : State) (a0 : Array Value) (hw : own_W a0 Z) (a1 : Addr) (u1 : Addr) (h0 : Heap) (n0 : Nat) (F : Fld Z h0 a1 "com/example/keyturn/keyturn/Option" "value" "Ljava/lang/String;" (.ref u1)) :
    own_Met l Z (⟨"com/example/keyturn/keyturn/Option", "flag", "()Z"⟩ : MethodName) prog_6_method_5_code 1 (some .boolean) own_r_own_rm2r #[(.ref a1)] h0 (own_Qv (some (.int 0)) h0 n0) := by
  refine own_body (by decide +kernel) ?_
  intro p e s m below meth c T0 X0 hx hZ hby hml hown hnm hret hlk e0
  have N0 := Fr.nil n0
  refine own_cast (g' := (mkF m 0 #[rv a1] [])) rfl ?_
  refine og_aloadN X0 hx (hb hby d2_0) rfl rfl ?_
  refine og_getF X0 hx hZ hown (own_hw hw 13 rfl) Via.refl e0 F (hb hby d2_1) ?_
  intro T1 X1 e1
  show own_Go p e below _ T1 (mkF m 4 #[rv a1] [(.ref u1)])
  refine og_ifnonnullY X1 hx 11 (hb hby d2_4) (by decide) (by decide) ?_
  show own_Go p e below _ T1 (mkF m 11 #[rv a1] [])
  refine og_iconst X1 hx (hb hby d2_11) ?_
  exact own_retI X1 hx hret hlk (hb hby d2_12) rfl (by simp) (by decide) (by decide) (⟨rfl, N0, e1⟩)
def own_St (Z : State) (h : Heap) (f : String) (t : Bool) : Prop := ∃ b, Sta Z h "com/example/keyturn/keyturn/Option" f "Lcom/example/keyturn/keyturn/Option;" (.ref b) ∧ (match t with | false => own_Nu Z h b | true => own_Re Z h b)
theorem d1_0 : decode method_2_code 0 = .ok (.iload_n 0, 1) := by decide +kernel
theorem d1_1 : decode method_2_code 1 = .ok (.ifCond .ne 7, 3) := by decide +kernel
theorem d1_4 : decode method_2_code 4 = .ok (.getstatic 7, 3) := by decide +kernel
theorem d1_7 : decode method_2_code 7 = .ok (.areturn, 1) := by decide +kernel
theorem d1_8 : decode method_2_code 8 = .ok (.iload_n 0, 1) := by decide +kernel
theorem d1_9 : decode method_2_code 9 = .ok (.iconst 1, 1) := by decide +kernel
theorem d1_10 : decode method_2_code 10 = .ok (.if_icmp .ne 7, 3) := by decide +kernel
theorem d1_13 : decode method_2_code 13 = .ok (.getstatic 13, 3) := by decide +kernel
theorem d1_16 : decode method_2_code 16 = .ok (.areturn, 1) := by decide +kernel
theorem d1_17 : decode method_2_code 17 = .ok (.iload_n 0, 1) := by decide +kernel
theorem d1_18 : decode method_2_code 18 = .ok (.iconst 2, 1) := by decide +kernel
theorem d1_19 : decode method_2_code 19 = .ok (.if_icmp .ne 7, 3) := by decide +kernel
theorem d1_22 : decode method_2_code 22 = .ok (.getstatic 16, 3) := by decide +kernel
theorem d1_25 : decode method_2_code 25 = .ok (.areturn, 1) := by decide +kernel
theorem d1_26 : decode method_2_code 26 = .ok (.iload_n 0, 1) := by decide +kernel
theorem d1_27 : decode method_2_code 27 = .ok (.iconst 3, 1) := by decide +kernel
theorem d1_28 : decode method_2_code 28 = .ok (.if_icmp .ne 7, 3) := by decide +kernel
theorem d1_31 : decode method_2_code 31 = .ok (.getstatic 19, 3) := by decide +kernel
theorem d1_34 : decode method_2_code 34 = .ok (.areturn, 1) := by decide +kernel
theorem d1_35 : decode method_2_code 35 = .ok (.iload_n 0, 1) := by decide +kernel
theorem d1_36 : decode method_2_code 36 = .ok (.iconst 4, 1) := by decide +kernel
theorem d1_37 : decode method_2_code 37 = .ok (.if_icmp .ne 7, 3) := by decide +kernel
theorem d1_40 : decode method_2_code 40 = .ok (.getstatic 22, 3) := by decide +kernel
theorem d1_43 : decode method_2_code 43 = .ok (.areturn, 1) := by decide +kernel
theorem d1_44 : decode method_2_code 44 = .ok (.iload_n 0, 1) := by decide +kernel
theorem d1_45 : decode method_2_code 45 = .ok (.iconst 5, 1) := by decide +kernel
theorem d1_46 : decode method_2_code 46 = .ok (.if_icmp .ne 7, 3) := by decide +kernel
theorem d1_49 : decode method_2_code 49 = .ok (.getstatic 25, 3) := by decide +kernel
theorem d1_52 : decode method_2_code 52 = .ok (.areturn, 1) := by decide +kernel
theorem d1_53 : decode method_2_code 53 = .ok (.iload_n 0, 1) := by decide +kernel
theorem d1_54 : decode method_2_code 54 = .ok (.bipush 6, 2) := by decide +kernel
theorem d1_56 : decode method_2_code 56 = .ok (.if_icmp .ne 7, 3) := by decide +kernel
theorem d1_59 : decode method_2_code 59 = .ok (.getstatic 28, 3) := by decide +kernel
theorem d1_62 : decode method_2_code 62 = .ok (.areturn, 1) := by decide +kernel
theorem d1_63 : decode method_2_code 63 = .ok (.iload_n 0, 1) := by decide +kernel
theorem d1_64 : decode method_2_code 64 = .ok (.bipush 7, 2) := by decide +kernel
theorem d1_66 : decode method_2_code 66 = .ok (.if_icmp .ne 7, 3) := by decide +kernel
theorem d1_69 : decode method_2_code 69 = .ok (.getstatic 31, 3) := by decide +kernel
theorem d1_72 : decode method_2_code 72 = .ok (.areturn, 1) := by decide +kernel
theorem d1_73 : decode method_2_code 73 = .ok (.iload_n 0, 1) := by decide +kernel
theorem d1_74 : decode method_2_code 74 = .ok (.bipush 8, 2) := by decide +kernel
theorem d1_76 : decode method_2_code 76 = .ok (.if_icmp .ne 7, 3) := by decide +kernel
theorem d1_79 : decode method_2_code 79 = .ok (.getstatic 34, 3) := by decide +kernel
theorem d1_82 : decode method_2_code 82 = .ok (.areturn, 1) := by decide +kernel
theorem d1_83 : decode method_2_code 83 = .ok (.iload_n 0, 1) := by decide +kernel
theorem d1_84 : decode method_2_code 84 = .ok (.bipush 9, 2) := by decide +kernel
theorem d1_86 : decode method_2_code 86 = .ok (.if_icmp .ne 7, 3) := by decide +kernel
theorem d1_89 : decode method_2_code 89 = .ok (.getstatic 37, 3) := by decide +kernel
theorem d1_92 : decode method_2_code 92 = .ok (.areturn, 1) := by decide +kernel
theorem d1_93 : decode method_2_code 93 = .ok (.iload_n 0, 1) := by decide +kernel
theorem d1_94 : decode method_2_code 94 = .ok (.bipush 10, 2) := by decide +kernel
theorem d1_96 : decode method_2_code 96 = .ok (.if_icmp .ne 7, 3) := by decide +kernel
theorem d1_99 : decode method_2_code 99 = .ok (.getstatic 40, 3) := by decide +kernel
theorem d1_102 : decode method_2_code 102 = .ok (.areturn, 1) := by decide +kernel
theorem d1_103 : decode method_2_code 103 = .ok (.iload_n 0, 1) := by decide +kernel
theorem d1_104 : decode method_2_code 104 = .ok (.bipush 11, 2) := by decide +kernel
theorem d1_106 : decode method_2_code 106 = .ok (.if_icmp .ne 7, 3) := by decide +kernel
theorem d1_109 : decode method_2_code 109 = .ok (.getstatic 43, 3) := by decide +kernel
theorem d1_112 : decode method_2_code 112 = .ok (.areturn, 1) := by decide +kernel
theorem d1_113 : decode method_2_code 113 = .ok (.iload_n 0, 1) := by decide +kernel
theorem d1_114 : decode method_2_code 114 = .ok (.bipush 12, 2) := by decide +kernel
theorem d1_116 : decode method_2_code 116 = .ok (.if_icmp .ne 7, 3) := by decide +kernel
theorem d1_119 : decode method_2_code 119 = .ok (.getstatic 46, 3) := by decide +kernel
theorem d1_122 : decode method_2_code 122 = .ok (.areturn, 1) := by decide +kernel
theorem d1_123 : decode method_2_code 123 = .ok (.iload_n 0, 1) := by decide +kernel
theorem d1_124 : decode method_2_code 124 = .ok (.bipush 13, 2) := by decide +kernel
theorem d1_126 : decode method_2_code 126 = .ok (.if_icmp .ne 7, 3) := by decide +kernel
theorem d1_129 : decode method_2_code 129 = .ok (.getstatic 49, 3) := by decide +kernel
theorem d1_132 : decode method_2_code 132 = .ok (.areturn, 1) := by decide +kernel
theorem d1_133 : decode method_2_code 133 = .ok (.iload_n 0, 1) := by decide +kernel
theorem d1_134 : decode method_2_code 134 = .ok (.bipush 14, 2) := by decide +kernel
theorem d1_136 : decode method_2_code 136 = .ok (.if_icmp .ne 7, 3) := by decide +kernel
theorem d1_139 : decode method_2_code 139 = .ok (.getstatic 52, 3) := by decide +kernel
theorem d1_142 : decode method_2_code 142 = .ok (.areturn, 1) := by decide +kernel
theorem d1_143 : decode method_2_code 143 = .ok (.iload_n 0, 1) := by decide +kernel
theorem d1_144 : decode method_2_code 144 = .ok (.bipush 15, 2) := by decide +kernel
theorem d1_146 : decode method_2_code 146 = .ok (.if_icmp .ne 7, 3) := by decide +kernel
theorem d1_149 : decode method_2_code 149 = .ok (.getstatic 55, 3) := by decide +kernel
theorem d1_152 : decode method_2_code 152 = .ok (.areturn, 1) := by decide +kernel
theorem d1_153 : decode method_2_code 153 = .ok (.iload_n 0, 1) := by decide +kernel
theorem d1_154 : decode method_2_code 154 = .ok (.bipush 16, 2) := by decide +kernel
theorem d1_156 : decode method_2_code 156 = .ok (.if_icmp .ne 7, 3) := by decide +kernel
theorem d1_159 : decode method_2_code 159 = .ok (.getstatic 58, 3) := by decide +kernel
theorem d1_162 : decode method_2_code 162 = .ok (.areturn, 1) := by decide +kernel
theorem d1_163 : decode method_2_code 163 = .ok (.iload_n 0, 1) := by decide +kernel
theorem d1_164 : decode method_2_code 164 = .ok (.bipush 17, 2) := by decide +kernel
theorem d1_166 : decode method_2_code 166 = .ok (.if_icmp .ne 7, 3) := by decide +kernel
theorem d1_169 : decode method_2_code 169 = .ok (.getstatic 61, 3) := by decide +kernel
theorem d1_172 : decode method_2_code 172 = .ok (.areturn, 1) := by decide +kernel
theorem d1_173 : decode method_2_code 173 = .ok (.getstatic 64, 3) := by decide +kernel
theorem d1_176 : decode method_2_code 176 = .ok (.areturn, 1) := by decide +kernel
def own_r_own_rm1 : Room := { frames := 0, cells := 0, slots := 0, locals := 0 }
theorem own_rm1 (l : Launch) (Z : State) (a0 : Array Value) (hw : own_W a0 Z) (p1 : Int32) (h0 : Heap) (n0 : Nat) (hi : 0 ≤ p1.toInt ∧ p1.toInt ≤ 18) (G0 : own_St Z h0 "DATA" true) (G1 : own_St Z h0 "ISSUER" true) (G2 : own_St Z h0 "AUDIENCE" true) (G3 : own_St Z h0 "USER" true) (G4 : own_St Z h0 "SESSION" true) (G5 : own_St Z h0 "EMAIL" true) (G6 : own_St Z h0 "CLIENT" true) (G7 : own_St Z h0 "USER_AGENT" true) (G8 : own_St Z h0 "IP" true) (G9 : own_St Z h0 "DEVICE_ID" true) (G10 : own_St Z h0 "AT" true) (G11 : own_St Z h0 "TOKEN" true) (G12 : own_St Z h0 "REFRESH_TOKEN" true) (G13 : own_St Z h0 "LISTEN" true) (G14 : own_St Z h0 "NOW" false) (G15 : own_St Z h0 "LANG" true) (G16 : own_St Z h0 "HELP" false) (G17 : own_St Z h0 "SHORT_HELP" false) (G18 : own_St Z h0 "VERSION" false) :
    own_Met l Z (⟨"com/example/keyturn/keyturn/OptionFlagPinLaw", "pick", "(I)Lcom/example/keyturn/keyturn/Option;"⟩ : MethodName) method_2_code 1 (some (.object "com/example/keyturn/keyturn/Option")) own_r_own_rm1 #[(.int p1)] h0 (own_Qa Z h0 n0 p1) := by
  refine own_body (by decide +kernel) ?_
  intro p e s m below meth c T0 X0 hx hZ hby hml hown hnm hret hlk e0
  have N0 := Fr.nil n0
  refine own_cast (g' := (mkF m 0 #[iv p1] [])) rfl ?_
  obtain ⟨b0, S0, U0⟩ := G0
  obtain ⟨b1, S1, U1⟩ := G1
  obtain ⟨b2, S2, U2⟩ := G2
  obtain ⟨b3, S3, U3⟩ := G3
  obtain ⟨b4, S4, U4⟩ := G4
  obtain ⟨b5, S5, U5⟩ := G5
  obtain ⟨b6, S6, U6⟩ := G6
  obtain ⟨b7, S7, U7⟩ := G7
  obtain ⟨b8, S8, U8⟩ := G8
  obtain ⟨b9, S9, U9⟩ := G9
  obtain ⟨b10, S10, U10⟩ := G10
  obtain ⟨b11, S11, U11⟩ := G11
  obtain ⟨b12, S12, U12⟩ := G12
  obtain ⟨b13, S13, U13⟩ := G13
  obtain ⟨b14, S14, U14⟩ := G14
  obtain ⟨b15, S15, U15⟩ := G15
  obtain ⟨b16, S16, U16⟩ := G16
  obtain ⟨b17, S17, U17⟩ := G17
  obtain ⟨b18, S18, U18⟩ := G18
  refine og_iloadN X0 hx (hb hby d1_0) rfl ?_
  by_cases hc1 : p1 = 0
  · refine og_ifN X0 hx (hb hby d1_1) (teq hc1).2 ?_
    refine og_getS X0 hx hZ hown (own_hw hw 5 rfl) Via.refl e0 S0 (hb hby d1_4) ?_
    intro T1 X1 e1
    show own_Go p e below _ T1 (mkF m 7 #[iv p1] [(.ref b0)])
    subst hc1
    exact own_retA X1 hx hret hlk (hb hby d1_7) rfl rfl (by decide) (by decide) (⟨_, rfl, N0, e1, Or.inr ⟨by decide, U0⟩⟩)
  · refine og_ifY X0 hx 8 (hb hby d1_1) (feq hc1).2 (by decide) (by decide) ?_
    refine og_iloadN X0 hx (hb hby d1_8) rfl ?_
    refine og_iconst X0 hx (hb hby d1_9) ?_
    by_cases hc10 : p1 = 1
    · refine og_icN X0 hx (hb hby d1_10) (teq hc10).2 ?_
      refine og_getS X0 hx hZ hown (own_hw hw 33 rfl) Via.refl e0 S1 (hb hby d1_13) ?_
      intro T2 X2 e2
      show own_Go p e below _ T2 (mkF m 16 #[iv p1] [(.ref b1)])
      subst hc10
      exact own_retA X2 hx hret hlk (hb hby d1_16) rfl rfl (by decide) (by decide) (⟨_, rfl, N0, e2, Or.inr ⟨by decide, U1⟩⟩)
    · refine og_icY X0 hx 17 (hb hby d1_10) (feq hc10).2 (by decide) (by decide) ?_
      refine og_iloadN X0 hx (hb hby d1_17) rfl ?_
      refine og_iconst X0 hx (hb hby d1_18) ?_
      by_cases hc19 : p1 = 2
      · refine og_icN X0 hx (hb hby d1_19) (teq hc19).2 ?_
        refine og_getS X0 hx hZ hown (own_hw hw 25 rfl) Via.refl e0 S2 (hb hby d1_22) ?_
        intro T3 X3 e3
        show own_Go p e below _ T3 (mkF m 25 #[iv p1] [(.ref b2)])
        subst hc19
        exact own_retA X3 hx hret hlk (hb hby d1_25) rfl rfl (by decide) (by decide) (⟨_, rfl, N0, e3, Or.inr ⟨by decide, U2⟩⟩)
      · refine og_icY X0 hx 26 (hb hby d1_19) (feq hc19).2 (by decide) (by decide) ?_
        refine og_iloadN X0 hx (hb hby d1_26) rfl ?_
        refine og_iconst X0 hx (hb hby d1_27) ?_
        by_cases hc28 : p1 = 3
        · refine og_icN X0 hx (hb hby d1_28) (teq hc28).2 ?_
          refine og_getS X0 hx hZ hown (own_hw hw 15 rfl) Via.refl e0 S3 (hb hby d1_31) ?_
          intro T4 X4 e4
          show own_Go p e below _ T4 (mkF m 34 #[iv p1] [(.ref b3)])
          subst hc28
          exact own_retA X4 hx hret hlk (hb hby d1_34) rfl rfl (by decide) (by decide) (⟨_, rfl, N0, e4, Or.inr ⟨by decide, U3⟩⟩)
        · refine og_icY X0 hx 35 (hb hby d1_28) (feq hc28).2 (by decide) (by decide) ?_
          refine og_iloadN X0 hx (hb hby d1_35) rfl ?_
          refine og_iconst X0 hx (hb hby d1_36) ?_
          by_cases hc37 : p1 = 4
          · refine og_icN X0 hx (hb hby d1_37) (teq hc37).2 ?_
            refine og_getS X0 hx hZ hown (own_hw hw 43 rfl) Via.refl e0 S4 (hb hby d1_40) ?_
            intro T5 X5 e5
            show own_Go p e below _ T5 (mkF m 43 #[iv p1] [(.ref b4)])
            subst hc37
            exact own_retA X5 hx hret hlk (hb hby d1_43) rfl rfl (by decide) (by decide) (⟨_, rfl, N0, e5, Or.inr ⟨by decide, U4⟩⟩)
          · refine og_icY X0 hx 44 (hb hby d1_37) (feq hc37).2 (by decide) (by decide) ?_
            refine og_iloadN X0 hx (hb hby d1_44) rfl ?_
            refine og_iconst X0 hx (hb hby d1_45) ?_
            by_cases hc46 : p1 = 5
            · refine og_icN X0 hx (hb hby d1_46) (teq hc46).2 ?_
              refine og_getS X0 hx hZ hown (own_hw hw 19 rfl) Via.refl e0 S5 (hb hby d1_49) ?_
              intro T6 X6 e6
              show own_Go p e below _ T6 (mkF m 52 #[iv p1] [(.ref b5)])
              subst hc46
              exact own_retA X6 hx hret hlk (hb hby d1_52) rfl rfl (by decide) (by decide) (⟨_, rfl, N0, e6, Or.inr ⟨by decide, U5⟩⟩)
            · refine og_icY X0 hx 53 (hb hby d1_46) (feq hc46).2 (by decide) (by decide) ?_
              refine og_iloadN X0 hx (hb hby d1_53) rfl ?_
              refine og_bipush X0 hx (hb hby d1_54) ?_
              by_cases hc56 : p1 = 6
              · refine og_icN X0 hx (hb hby d1_56) (teq hc56).2 ?_
                refine og_getS X0 hx hZ hown (own_hw hw 39 rfl) Via.refl e0 S6 (hb hby d1_59) ?_
                intro T7 X7 e7
                show own_Go p e below _ T7 (mkF m 62 #[iv p1] [(.ref b6)])
                subst hc56
                exact own_retA X7 hx hret hlk (hb hby d1_62) rfl rfl (by decide) (by decide) (⟨_, rfl, N0, e7, Or.inr ⟨by decide, U6⟩⟩)
              · refine og_icY X0 hx 63 (hb hby d1_56) (feq hc56).2 (by decide) (by decide) ?_
                refine og_iloadN X0 hx (hb hby d1_63) rfl ?_
                refine og_bipush X0 hx (hb hby d1_64) ?_
                by_cases hc66 : p1 = 7
                · refine og_icN X0 hx (hb hby d1_66) (teq hc66).2 ?_
                  refine og_getS X0 hx hZ hown (own_hw hw 23 rfl) Via.refl e0 S7 (hb hby d1_69) ?_
                  intro T8 X8 e8
                  show own_Go p e below _ T8 (mkF m 72 #[iv p1] [(.ref b7)])
                  subst hc66
                  exact own_retA X8 hx hret hlk (hb hby d1_72) rfl rfl (by decide) (by decide) (⟨_, rfl, N0, e8, Or.inr ⟨by decide, U7⟩⟩)
                · refine og_icY X0 hx 73 (hb hby d1_66) (feq hc66).2 (by decide) (by decide) ?_
                  refine og_iloadN X0 hx (hb hby d1_73) rfl ?_
                  refine og_bipush X0 hx (hb hby d1_74) ?_
                  by_cases hc76 : p1 = 8
                  · refine og_icN X0 hx (hb hby d1_76) (teq hc76).2 ?_
                    refine og_getS X0 hx hZ hown (own_hw hw 31 rfl) Via.refl e0 S8 (hb hby d1_79) ?_
                    intro T9 X9 e9
                    show own_Go p e below _ T9 (mkF m 82 #[iv p1] [(.ref b8)])
                    subst hc76
                    exact own_retA X9 hx hret hlk (hb hby d1_82) rfl rfl (by decide) (by decide) (⟨_, rfl, N0, e9, Or.inr ⟨by decide, U8⟩⟩)
                  · refine og_icY X0 hx 83 (hb hby d1_76) (feq hc76).2 (by decide) (by decide) ?_
                    refine og_iloadN X0 hx (hb hby d1_83) rfl ?_
                    refine og_bipush X0 hx (hb hby d1_84) ?_
                    by_cases hc86 : p1 = 9
                    · refine og_icN X0 hx (hb hby d1_86) (teq hc86).2 ?_
                      refine og_getS X0 hx hZ hown (own_hw hw 45 rfl) Via.refl e0 S9 (hb hby d1_89) ?_
                      intro T10 X10 e10
                      show own_Go p e below _ T10 (mkF m 92 #[iv p1] [(.ref b9)])
                      subst hc86
                      exact own_retA X10 hx hret hlk (hb hby d1_92) rfl rfl (by decide) (by decide) (⟨_, rfl, N0, e10, Or.inr ⟨by decide, U9⟩⟩)
                    · refine og_icY X0 hx 93 (hb hby d1_86) (feq hc86).2 (by decide) (by decide) ?_
                      refine og_iloadN X0 hx (hb hby d1_93) rfl ?_
                      refine og_bipush X0 hx (hb hby d1_94) ?_
                      by_cases hc96 : p1 = 10
                      · refine og_icN X0 hx (hb hby d1_96) (teq hc96).2 ?_
                        refine og_getS X0 hx hZ hown (own_hw hw 29 rfl) Via.refl e0 S10 (hb hby d1_99) ?_
                        intro T11 X11 e11
                        show own_Go p e below _ T11 (mkF m 102 #[iv p1] [(.ref b10)])
                        subst hc96
                        exact own_retA X11 hx hret hlk (hb hby d1_102) rfl rfl (by decide) (by decide) (⟨_, rfl, N0, e11, Or.inr ⟨by decide, U10⟩⟩)
                      · refine og_icY X0 hx 103 (hb hby d1_96) (feq hc96).2 (by decide) (by decide) ?_
                        refine og_iloadN X0 hx (hb hby d1_103) rfl ?_
                        refine og_bipush X0 hx (hb hby d1_104) ?_
                        by_cases hc106 : p1 = 11
                        · refine og_icN X0 hx (hb hby d1_106) (teq hc106).2 ?_
                          refine og_getS X0 hx hZ hown (own_hw hw 27 rfl) Via.refl e0 S11 (hb hby d1_109) ?_
                          intro T12 X12 e12
                          show own_Go p e below _ T12 (mkF m 112 #[iv p1] [(.ref b11)])
                          subst hc106
                          exact own_retA X12 hx hret hlk (hb hby d1_112) rfl rfl (by decide) (by decide) (⟨_, rfl, N0, e12, Or.inr ⟨by decide, U11⟩⟩)
                        · refine og_icY X0 hx 113 (hb hby d1_106) (feq hc106).2 (by decide) (by decide) ?_
                          refine og_iloadN X0 hx (hb hby d1_113) rfl ?_
                          refine og_bipush X0 hx (hb hby d1_114) ?_
                          by_cases hc116 : p1 = 12
                          · refine og_icN X0 hx (hb hby d1_116) (teq hc116).2 ?_
                            refine og_getS X0 hx hZ hown (own_hw hw 47 rfl) Via.refl e0 S12 (hb hby d1_119) ?_
                            intro T13 X13 e13
                            show own_Go p e below _ T13 (mkF m 122 #[iv p1] [(.ref b12)])
                            subst hc116
                            exact own_retA X13 hx hret hlk (hb hby d1_122) rfl rfl (by decide) (by decide) (⟨_, rfl, N0, e13, Or.inr ⟨by decide, U12⟩⟩)
                          · refine og_icY X0 hx 123 (hb hby d1_116) (feq hc116).2 (by decide) (by decide) ?_
                            refine og_iloadN X0 hx (hb hby d1_123) rfl ?_
                            refine og_bipush X0 hx (hb hby d1_124) ?_
                            by_cases hc126 : p1 = 13
                            · refine og_icN X0 hx (hb hby d1_126) (teq hc126).2 ?_
                              refine og_getS X0 hx hZ hown (own_hw hw 49 rfl) Via.refl e0 S13 (hb hby d1_129) ?_
                              intro T14 X14 e14
                              show own_Go p e below _ T14 (mkF m 132 #[iv p1] [(.ref b13)])
                              subst hc126
                              exact own_retA X14 hx hret hlk (hb hby d1_132) rfl rfl (by decide) (by decide) (⟨_, rfl, N0, e14, Or.inr ⟨by decide, U13⟩⟩)
                            · refine og_icY X0 hx 133 (hb hby d1_126) (feq hc126).2 (by decide) (by decide) ?_
                              refine og_iloadN X0 hx (hb hby d1_133) rfl ?_
                              refine og_bipush X0 hx (hb hby d1_134) ?_
                              by_cases hc136 : p1 = 14
                              · refine og_icN X0 hx (hb hby d1_136) (teq hc136).2 ?_
                                refine og_getS X0 hx hZ hown (own_hw hw 35 rfl) Via.refl e0 S14 (hb hby d1_139) ?_
                                intro T15 X15 e15
                                show own_Go p e below _ T15 (mkF m 142 #[iv p1] [(.ref b14)])
                                subst hc136
                                exact own_retA X15 hx hret hlk (hb hby d1_142) rfl rfl (by decide) (by decide) (⟨_, rfl, N0, e15, Or.inl ⟨by decide, U14⟩⟩)
                              · refine og_icY X0 hx 143 (hb hby d1_136) (feq hc136).2 (by decide) (by decide) ?_
                                refine og_iloadN X0 hx (hb hby d1_143) rfl ?_
                                refine og_bipush X0 hx (hb hby d1_144) ?_
                                by_cases hc146 : p1 = 15
                                · refine og_icN X0 hx (hb hby d1_146) (teq hc146).2 ?_
                                  refine og_getS X0 hx hZ hown (own_hw hw 17 rfl) Via.refl e0 S15 (hb hby d1_149) ?_
                                  intro T16 X16 e16
                                  show own_Go p e below _ T16 (mkF m 152 #[iv p1] [(.ref b15)])
                                  subst hc146
                                  exact own_retA X16 hx hret hlk (hb hby d1_152) rfl rfl (by decide) (by decide) (⟨_, rfl, N0, e16, Or.inr ⟨by decide, U15⟩⟩)
                                · refine og_icY X0 hx 153 (hb hby d1_146) (feq hc146).2 (by decide) (by decide) ?_
                                  refine og_iloadN X0 hx (hb hby d1_153) rfl ?_
                                  refine og_bipush X0 hx (hb hby d1_154) ?_
                                  by_cases hc156 : p1 = 16
                                  · refine og_icN X0 hx (hb hby d1_156) (teq hc156).2 ?_
                                    refine og_getS X0 hx hZ hown (own_hw hw 41 rfl) Via.refl e0 S16 (hb hby d1_159) ?_
                                    intro T17 X17 e17
                                    show own_Go p e below _ T17 (mkF m 162 #[iv p1] [(.ref b16)])
                                    subst hc156
                                    exact own_retA X17 hx hret hlk (hb hby d1_162) rfl rfl (by decide) (by decide) (⟨_, rfl, N0, e17, Or.inl ⟨by decide, U16⟩⟩)
                                  · refine og_icY X0 hx 163 (hb hby d1_156) (feq hc156).2 (by decide) (by decide) ?_
                                    refine og_iloadN X0 hx (hb hby d1_163) rfl ?_
                                    refine og_bipush X0 hx (hb hby d1_164) ?_
                                    by_cases hc166 : p1 = 17
                                    · refine og_icN X0 hx (hb hby d1_166) (teq hc166).2 ?_
                                      refine og_getS X0 hx hZ hown (own_hw hw 21 rfl) Via.refl e0 S17 (hb hby d1_169) ?_
                                      intro T18 X18 e18
                                      show own_Go p e below _ T18 (mkF m 172 #[iv p1] [(.ref b17)])
                                      subst hc166
                                      exact own_retA X18 hx hret hlk (hb hby d1_172) rfl rfl (by decide) (by decide) (⟨_, rfl, N0, e18, Or.inl ⟨by decide, U17⟩⟩)
                                    · refine og_icY X0 hx 173 (hb hby d1_166) (feq hc166).2 (by decide) (by decide) ?_
                                      refine og_getS X0 hx hZ hown (own_hw hw 37 rfl) Via.refl e0 S18 (hb hby d1_173) ?_
                                      intro T19 X19 e19
                                      show own_Go p e below _ T19 (mkF m 176 #[iv p1] [(.ref b18)])
                                      have hc : p1 = 18 := Int32.toInt_inj.mp (by
                                        have k0 : p1.toInt ≠ 0 := fun q => hc1 (Int32.toInt_inj.mp q)
                                        have k1 : p1.toInt ≠ 1 := fun q => hc10 (Int32.toInt_inj.mp q)
                                        have k2 : p1.toInt ≠ 2 := fun q => hc19 (Int32.toInt_inj.mp q)
                                        have k3 : p1.toInt ≠ 3 := fun q => hc28 (Int32.toInt_inj.mp q)
                                        have k4 : p1.toInt ≠ 4 := fun q => hc37 (Int32.toInt_inj.mp q)
                                        have k5 : p1.toInt ≠ 5 := fun q => hc46 (Int32.toInt_inj.mp q)
                                        have k6 : p1.toInt ≠ 6 := fun q => hc56 (Int32.toInt_inj.mp q)
                                        have k7 : p1.toInt ≠ 7 := fun q => hc66 (Int32.toInt_inj.mp q)
                                        have k8 : p1.toInt ≠ 8 := fun q => hc76 (Int32.toInt_inj.mp q)
                                        have k9 : p1.toInt ≠ 9 := fun q => hc86 (Int32.toInt_inj.mp q)
                                        have k10 : p1.toInt ≠ 10 := fun q => hc96 (Int32.toInt_inj.mp q)
                                        have k11 : p1.toInt ≠ 11 := fun q => hc106 (Int32.toInt_inj.mp q)
                                        have k12 : p1.toInt ≠ 12 := fun q => hc116 (Int32.toInt_inj.mp q)
                                        have k13 : p1.toInt ≠ 13 := fun q => hc126 (Int32.toInt_inj.mp q)
                                        have k14 : p1.toInt ≠ 14 := fun q => hc136 (Int32.toInt_inj.mp q)
                                        have k15 : p1.toInt ≠ 15 := fun q => hc146 (Int32.toInt_inj.mp q)
                                        have k16 : p1.toInt ≠ 16 := fun q => hc156 (Int32.toInt_inj.mp q)
                                        have k17 : p1.toInt ≠ 17 := fun q => hc166 (Int32.toInt_inj.mp q)
                                        show p1.toInt = 18
                                        omega)
                                      subst hc
                                      exact own_retA X19 hx hret hlk (hb hby d1_176) rfl rfl (by decide) (by decide) (⟨_, rfl, N0, e19, Or.inl ⟨by decide, U18⟩⟩)
theorem own_pd34383 : parseMethodDescriptor "(I)Lcom/example/keyturn/keyturn/Option;" = some ⟨[.int], some (.object "com/example/keyturn/keyturn/Option")⟩ := by decide +kernel
theorem own_pd61835 : parseMethodDescriptor "()Z" = some ⟨[], some .boolean⟩ := by decide +kernel
theorem own_rm0 (l : Launch) (Z : State) (a0 : Array Value) (hw : own_W a0 Z) (p1 : Int32) (h0 : Heap) (n0 : Nat) (G0 : own_St Z h0 "DATA" true) (G1 : own_St Z h0 "ISSUER" true) (G2 : own_St Z h0 "AUDIENCE" true) (G3 : own_St Z h0 "USER" true) (G4 : own_St Z h0 "SESSION" true) (G5 : own_St Z h0 "EMAIL" true) (G6 : own_St Z h0 "CLIENT" true) (G7 : own_St Z h0 "USER_AGENT" true) (G8 : own_St Z h0 "IP" true) (G9 : own_St Z h0 "DEVICE_ID" true) (G10 : own_St Z h0 "AT" true) (G11 : own_St Z h0 "TOKEN" true) (G12 : own_St Z h0 "REFRESH_TOKEN" true) (G13 : own_St Z h0 "LISTEN" true) (G14 : own_St Z h0 "NOW" false) (G15 : own_St Z h0 "LANG" true) (G16 : own_St Z h0 "HELP" false) (G17 : own_St Z h0 "SHORT_HELP" false) (G18 : own_St Z h0 "VERSION" false) :
    own_Met l Z x code maxLocals ret room_1 #[(.int p1)] h0 (own_Q1 n0) := by
  refine own_body (by decide +kernel) ?_
  intro p e s m below meth c T0 X0 hx hZ hby hml hown hnm hret hlk e0
  have N0 := Fr.nil n0
  refine own_cast (g' := (mkF m 0 #[iv p1, .unset, .unset, .unset] [])) rfl ?_
  refine og_iloadN X0 hx (hb hby at_0) rfl ?_
  refine og_ldcI X0 hx hZ hown (own_hw hw 0 rfl) (hb hby at_1) ?_
  show own_Go p e below _ T0 (mkF m 3 #[iv p1, .unset, .unset, .unset] [(.int 2147483647), (.int p1)])
  refine og_iand X0 hx (hb hby at_3) ?_
  refine og_bipush X0 hx (hb hby at_4) ?_
  refine og_iremM X0 hx (hb hby at_6) (by decide) ?_
  show own_Go p e below _ T0 (mkF m 7 #[iv p1, .unset, .unset, .unset] [(.int ((p1 &&& 2147483647) % 19))])
  refine og_istoreN X0 hx #[iv p1, iv ((p1 &&& 2147483647) % 19), .unset, .unset] (hb hby at_7) rfl ?_
  refine og_iloadN X0 hx (hb hby at_8) rfl ?_
  refine own_callS X0 hx hZ hown (own_hw hw 1 rfl) (own_hw hw 2 rfl) (own_hw hw 3 rfl) (own_hw hw 4 rfl) (by decide) (argsL := [(.int ((p1 &&& 2147483647) % 19))]) (rest := []) (own_rm1 l Z a0 hw ((p1 &&& 2147483647) % 19) h0 n0 (own_rem19 _) G0 G1 G2 G3 G4 G5 G6 G7 G8 G9 G10 G11 G12 G13 G14 G15 G16 G17 G18) e0 (by rw [hml]; rfl) (lenOf own_pd34383 rfl) rfl (hb hby at_9) (W := 0) (Nat.le_of_eq rfl) (by decide) ?_
  intro v1 T1 L1 X1 q1
  obtain ⟨b, rfl, N1q, e1, hd⟩ := q1
  have N1 := Fr.app N0 N1q
  show own_Go p e below _ T1 (mkF m 12 #[iv p1, iv ((p1 &&& 2147483647) % 19), .unset, .unset] [(.ref b)])
  refine og_astoreN X1 hx #[iv p1, iv ((p1 &&& 2147483647) % 19), rv b, .unset] (hb hby at_12) rfl rfl ?_
  refine og_iloadN X1 hx (hb hby at_13) rfl ?_
  refine og_bipush X1 hx (hb hby at_14) ?_
  by_cases hc16 : ((p1 &&& 2147483647) % 19) = 14
  · refine og_icY X1 hx 37 (hb hby at_16) (teq hc16).1 (by decide) (by decide) ?_
    refine og_iconst X1 hx (hb hby at_37) ?_
    refine og_goto X1 hx 42 (hb hby at_38) (by decide) (by decide) ?_
    refine og_istoreN X1 hx #[iv p1, iv ((p1 &&& 2147483647) % 19), rv b, iv 1] (hb hby at_42) rfl ?_
    refine og_aloadN X1 hx (hb hby at_43) rfl rfl ?_
    obtain ⟨-, Eb, Fu⟩ := hd.resolve_right (fun h => h.1 (Or.inl hc16))
    refine own_callV X1 hx hZ hown (own_hw hw 8 rfl) (own_hw hw 9 rfl) (notFace_of_selects (args := #[]) (mvT hZ (own_hw hw 11 rfl))) (own_hw hw 11 rfl) (own_hw hw 10 rfl) (own_hw hw 12 rfl) (own_hw hw 6 rfl) (by decide) (b := b) (argsL := []) (rest := []) (own_rm2n l Z a0 hw b h0 n0 Fu) e1 Eb (by rw [hml]; rfl) (lenOf own_pd61835 rfl) rfl (hb hby at_44) (W := 0) (Nat.le_of_eq rfl) (by decide) ?_
    intro v2 T2 L2 X2 q2
    obtain ⟨rfl, N2q, e2⟩ := q2
    have N2 := Fr.app N1 N2q
    show own_Go p e below _ T2 (mkF m 47 #[iv p1, iv ((p1 &&& 2147483647) % 19), rv b, iv 1] [(.int (1 : Int32))])
    refine og_iloadN X2 hx (hb hby at_47) rfl ?_
    refine og_icN X2 hx (hb hby at_48) (teq (by decide)).2 ?_
    refine og_iconst X2 hx (hb hby at_51) ?_
    refine og_goto X2 hx 56 (hb hby at_52) (by decide) (by decide) ?_
    exact own_retI X2 hx hret hlk (hb hby at_56) rfl (by simp) (by decide) (by decide) (⟨rfl, N2⟩)
  · refine og_icN X1 hx (hb hby at_16) (feq hc16).1 ?_
    refine og_iloadN X1 hx (hb hby at_19) rfl ?_
    refine og_bipush X1 hx (hb hby at_20) ?_
    by_cases hc22 : ((p1 &&& 2147483647) % 19) = 16
    · refine og_icY X1 hx 37 (hb hby at_22) (teq hc22).1 (by decide) (by decide) ?_
      refine og_iconst X1 hx (hb hby at_37) ?_
      refine og_goto X1 hx 42 (hb hby at_38) (by decide) (by decide) ?_
      refine og_istoreN X1 hx #[iv p1, iv ((p1 &&& 2147483647) % 19), rv b, iv 1] (hb hby at_42) rfl ?_
      refine og_aloadN X1 hx (hb hby at_43) rfl rfl ?_
      obtain ⟨-, Eb, Fu⟩ := hd.resolve_right (fun h => h.1 (Or.inr (Or.inl hc22)))
      refine own_callV X1 hx hZ hown (own_hw hw 8 rfl) (own_hw hw 9 rfl) (notFace_of_selects (args := #[]) (mvT hZ (own_hw hw 11 rfl))) (own_hw hw 11 rfl) (own_hw hw 10 rfl) (own_hw hw 12 rfl) (own_hw hw 6 rfl) (by decide) (b := b) (argsL := []) (rest := []) (own_rm2n l Z a0 hw b h0 n0 Fu) e1 Eb (by rw [hml]; rfl) (lenOf own_pd61835 rfl) rfl (hb hby at_44) (W := 0) (Nat.le_of_eq rfl) (by decide) ?_
      intro v3 T3 L3 X3 q3
      obtain ⟨rfl, N3q, e3⟩ := q3
      have N3 := Fr.app N1 N3q
      show own_Go p e below _ T3 (mkF m 47 #[iv p1, iv ((p1 &&& 2147483647) % 19), rv b, iv 1] [(.int (1 : Int32))])
      refine og_iloadN X3 hx (hb hby at_47) rfl ?_
      refine og_icN X3 hx (hb hby at_48) (teq (by decide)).2 ?_
      refine og_iconst X3 hx (hb hby at_51) ?_
      refine og_goto X3 hx 56 (hb hby at_52) (by decide) (by decide) ?_
      exact own_retI X3 hx hret hlk (hb hby at_56) rfl (by simp) (by decide) (by decide) (⟨rfl, N3⟩)
    · refine og_icN X1 hx (hb hby at_22) (feq hc22).1 ?_
      refine og_iloadN X1 hx (hb hby at_25) rfl ?_
      refine og_bipush X1 hx (hb hby at_26) ?_
      by_cases hc28 : ((p1 &&& 2147483647) % 19) = 17
      · refine og_icY X1 hx 37 (hb hby at_28) (teq hc28).1 (by decide) (by decide) ?_
        refine og_iconst X1 hx (hb hby at_37) ?_
        refine og_goto X1 hx 42 (hb hby at_38) (by decide) (by decide) ?_
        refine og_istoreN X1 hx #[iv p1, iv ((p1 &&& 2147483647) % 19), rv b, iv 1] (hb hby at_42) rfl ?_
        refine og_aloadN X1 hx (hb hby at_43) rfl rfl ?_
        obtain ⟨-, Eb, Fu⟩ := hd.resolve_right (fun h => h.1 (Or.inr (Or.inr (Or.inl hc28))))
        refine own_callV X1 hx hZ hown (own_hw hw 8 rfl) (own_hw hw 9 rfl) (notFace_of_selects (args := #[]) (mvT hZ (own_hw hw 11 rfl))) (own_hw hw 11 rfl) (own_hw hw 10 rfl) (own_hw hw 12 rfl) (own_hw hw 6 rfl) (by decide) (b := b) (argsL := []) (rest := []) (own_rm2n l Z a0 hw b h0 n0 Fu) e1 Eb (by rw [hml]; rfl) (lenOf own_pd61835 rfl) rfl (hb hby at_44) (W := 0) (Nat.le_of_eq rfl) (by decide) ?_
        intro v4 T4 L4 X4 q4
        obtain ⟨rfl, N4q, e4⟩ := q4
        have N4 := Fr.app N1 N4q
        show own_Go p e below _ T4 (mkF m 47 #[iv p1, iv ((p1 &&& 2147483647) % 19), rv b, iv 1] [(.int (1 : Int32))])
        refine og_iloadN X4 hx (hb hby at_47) rfl ?_
        refine og_icN X4 hx (hb hby at_48) (teq (by decide)).2 ?_
        refine og_iconst X4 hx (hb hby at_51) ?_
        refine og_goto X4 hx 56 (hb hby at_52) (by decide) (by decide) ?_
        exact own_retI X4 hx hret hlk (hb hby at_56) rfl (by simp) (by decide) (by decide) (⟨rfl, N4⟩)
      · refine og_icN X1 hx (hb hby at_28) (feq hc28).1 ?_
        refine og_iloadN X1 hx (hb hby at_31) rfl ?_
        refine og_bipush X1 hx (hb hby at_32) ?_
        by_cases hc34 : ((p1 &&& 2147483647) % 19) = 18
        · refine og_icN X1 hx (hb hby at_34) (teq hc34).2 ?_
          refine og_iconst X1 hx (hb hby at_37) ?_
          refine og_goto X1 hx 42 (hb hby at_38) (by decide) (by decide) ?_
          refine og_istoreN X1 hx #[iv p1, iv ((p1 &&& 2147483647) % 19), rv b, iv 1] (hb hby at_42) rfl ?_
          refine og_aloadN X1 hx (hb hby at_43) rfl rfl ?_
          obtain ⟨-, Eb, Fu⟩ := hd.resolve_right (fun h => h.1 (Or.inr (Or.inr (Or.inr (hc34)))))
          refine own_callV X1 hx hZ hown (own_hw hw 8 rfl) (own_hw hw 9 rfl) (notFace_of_selects (args := #[]) (mvT hZ (own_hw hw 11 rfl))) (own_hw hw 11 rfl) (own_hw hw 10 rfl) (own_hw hw 12 rfl) (own_hw hw 6 rfl) (by decide) (b := b) (argsL := []) (rest := []) (own_rm2n l Z a0 hw b h0 n0 Fu) e1 Eb (by rw [hml]; rfl) (lenOf own_pd61835 rfl) rfl (hb hby at_44) (W := 0) (Nat.le_of_eq rfl) (by decide) ?_
          intro v5 T5 L5 X5 q5
          obtain ⟨rfl, N5q, e5⟩ := q5
          have N5 := Fr.app N1 N5q
          show own_Go p e below _ T5 (mkF m 47 #[iv p1, iv ((p1 &&& 2147483647) % 19), rv b, iv 1] [(.int (1 : Int32))])
          refine og_iloadN X5 hx (hb hby at_47) rfl ?_
          refine og_icN X5 hx (hb hby at_48) (teq (by decide)).2 ?_
          refine og_iconst X5 hx (hb hby at_51) ?_
          refine og_goto X5 hx 56 (hb hby at_52) (by decide) (by decide) ?_
          exact own_retI X5 hx hret hlk (hb hby at_56) rfl (by simp) (by decide) (by decide) (⟨rfl, N5⟩)
        · refine og_icY X1 hx 41 (hb hby at_34) (feq hc34).2 (by decide) (by decide) ?_
          refine og_iconst X1 hx (hb hby at_41) ?_
          refine og_istoreN X1 hx #[iv p1, iv ((p1 &&& 2147483647) % 19), rv b, iv 0] (hb hby at_42) rfl ?_
          refine og_aloadN X1 hx (hb hby at_43) rfl rfl ?_
          obtain ⟨-, Eb, u, Fu⟩ := hd.resolve_left (fun h => h.1.elim hc16 (fun h => h.elim hc22 (fun h => h.elim hc28 hc34)))
          refine own_callV X1 hx hZ hown (own_hw hw 8 rfl) (own_hw hw 9 rfl) (notFace_of_selects (args := #[]) (mvT hZ (own_hw hw 11 rfl))) (own_hw hw 11 rfl) (own_hw hw 10 rfl) (own_hw hw 12 rfl) (own_hw hw 6 rfl) (by decide) (b := b) (argsL := []) (rest := []) (own_rm2r l Z a0 hw b u h0 n0 Fu) e1 Eb (by rw [hml]; rfl) (lenOf own_pd61835 rfl) rfl (hb hby at_44) (W := 0) (Nat.le_of_eq rfl) (by decide) ?_
          intro v6 T6 L6 X6 q6
          obtain ⟨rfl, N6q, e6⟩ := q6
          have N6 := Fr.app N1 N6q
          show own_Go p e below _ T6 (mkF m 47 #[iv p1, iv ((p1 &&& 2147483647) % 19), rv b, iv 0] [(.int (0 : Int32))])
          refine og_iloadN X6 hx (hb hby at_47) rfl ?_
          refine og_icN X6 hx (hb hby at_48) (teq (by decide)).2 ?_
          refine og_iconst X6 hx (hb hby at_51) ?_
          refine og_goto X6 hx 56 (hb hby at_52) (by decide) (by decide) ?_
          exact own_retI X6 hx hret hlk (hb hby at_56) rfl (by simp) (by decide) (by decide) (⟨rfl, N6⟩)
set_option maxRecDepth 65536 in
set_option maxHeartbeats 40000000 in
theorem comes_1 {Post : Tables → Env → Array Value → State → Outcome → State → Prop} (hpost : ∀ tb e args s v u, (limb_1_1.after args s (.returned v) u = true ∧ limb_1_2.after args s (.returned v) u = true ∧ True) → FrameEnd s (.returned v) u (Jvm.fieldLocs frame_1_writes args s ++ Jvm.arrayLocs frame_1_arrays args s ++ Jvm.staticLocs frame_1_statics s) 0 0 → Post tb e args s (.returned v) u) :
    ArmFor flags0 classFile x code maxLocals ret World_1 tables_1 room_1 Calls_1 rest_1 Pre_1 Post := by
  intro l hfl _ _ p e ha hc hk s m args below hf hA hF happ hP
  obtain ⟨hcalls, hrest, hpre⟩ := hP
  obtain ⟨-, -, -, hnamed, -, -, -, hat⟩ := (Spec.applies_iff hf).mp happ
  obtain ⟨hg, hn⟩ := and_e (Cond.before_iff.mp (show (Jvm.Cond.and given_1 narrow_1).before args s = true from hpre))
  obtain ⟨hcount, hk0⟩ := and_e hg
  obtain ⟨w0, rfl⟩ : ∃ w0 : Value, args = #[w0] := by
    have hs : args.size = 1 := by simpa [Cond.value, given_1] using hcount
    obtain ⟨L⟩ := args
    match L, hs with
    | [w0], _ => exact ⟨w0, rfl⟩
  have hw := fun d (hd : d ∈ tables_1) => atoms_spec (ws := Jvm.Cond.code x code maxLocals ret :: tables_1) hat d (List.mem_cons_of_mem _ hd)
  have hfit : Fit s := fun {y c} hc i hi => by
    obtain ⟨ha, rfl⟩ := Array.getElem?_eq_some_iff.mp hc
    have q := List.all_eq_true.mp ((Array.all_eq_true_iff_forall_mem.mp hF) _ (Array.getElem_mem ha)) i (List.mem_range.mpr hi)
    simpa [Array.getElem?_eq_getElem hi] using q
  obtain ⟨i0, ei0⟩ := is_v hk0
  obtain rfl : w0 = (.int i0) := Option.some.inj ei0
  obtain ⟨n0, hn0⟩ := and_e hn
  obtain ⟨n1, hn1⟩ := and_e hn0
  obtain ⟨n2, hn2⟩ := and_e hn1
  obtain ⟨n3, hn3⟩ := and_e hn2
  obtain ⟨n4, hn4⟩ := and_e hn3
  obtain ⟨n5, hn5⟩ := and_e hn4
  obtain ⟨n6, hn6⟩ := and_e hn5
  obtain ⟨n7, hn7⟩ := and_e hn6
  obtain ⟨n8, hn8⟩ := and_e hn7
  obtain ⟨n9, hn9⟩ := and_e hn8
  obtain ⟨n10, hn10⟩ := and_e hn9
  obtain ⟨n11, hn11⟩ := and_e hn10
  obtain ⟨n12, hn12⟩ := and_e hn11
  obtain ⟨n13, hn13⟩ := and_e hn12
  obtain ⟨n14, hn14⟩ := and_e hn13
  obtain ⟨n15, hn15⟩ := and_e hn14
  obtain ⟨n16, hn16⟩ := and_e hn15
  obtain ⟨n17, hn17⟩ := and_e hn16
  obtain ⟨n18, hn18⟩ := and_e hn17
  obtain ⟨n19, hn19⟩ := and_e hn18
  obtain ⟨n20, hn20⟩ := and_e hn19
  obtain ⟨n21, hn21⟩ := and_e hn20
  obtain ⟨n22, hn22⟩ := and_e hn21
  obtain ⟨n23, hn23⟩ := and_e hn22
  obtain ⟨n24, hn24⟩ := and_e hn23
  obtain ⟨n25, hn25⟩ := and_e hn24
  obtain ⟨n26, hn26⟩ := and_e hn25
  obtain ⟨n27, hn27⟩ := and_e hn26
  obtain ⟨n28, hn28⟩ := and_e hn27
  obtain ⟨n29, hn29⟩ := and_e hn28
  obtain ⟨n30, hn30⟩ := and_e hn29
  obtain ⟨n31, hn31⟩ := and_e hn30
  obtain ⟨n32, hn32⟩ := and_e hn31
  obtain ⟨n33, hn33⟩ := and_e hn32
  obtain ⟨n34, hn34⟩ := and_e hn33
  obtain ⟨n35, hn35⟩ := and_e hn34
  obtain ⟨n36, hn36⟩ := and_e hn35
  have n37 := hn36
  obtain ⟨b0, ev0⟩ := exa_v n0
  obtain ⟨b1, ev1⟩ := exa_v n20
  obtain ⟨b2, ev2⟩ := exa_v n12
  obtain ⟨b3, ev3⟩ := exa_v n2
  obtain ⟨b4, ev4⟩ := exa_v n30
  obtain ⟨b5, ev5⟩ := exa_v n6
  obtain ⟨b6, ev6⟩ := exa_v n26
  obtain ⟨b7, ev7⟩ := exa_v n10
  obtain ⟨b8, ev8⟩ := exa_v n18
  obtain ⟨b9, ev9⟩ := exa_v n32
  obtain ⟨b10, ev10⟩ := exa_v n16
  obtain ⟨b11, ev11⟩ := exa_v n14
  obtain ⟨b12, ev12⟩ := exa_v n34
  obtain ⟨b13, ev13⟩ := exa_v n36
  obtain ⟨b14, ev14⟩ := exa_v n22
  obtain ⟨b15, ev15⟩ := exa_v n4
  obtain ⟨b16, ev16⟩ := exa_v n28
  obtain ⟨b17, ev17⟩ := exa_v n8
  obtain ⟨b18, ev18⟩ := exa_v n24
  obtain ⟨x_DATA, v_DATA, F_DATA, -⟩ := own_fldX ev0 n1
  obtain ⟨x_ISSUER, v_ISSUER, F_ISSUER, -⟩ := own_fldX ev1 n21
  obtain ⟨x_AUDIENCE, v_AUDIENCE, F_AUDIENCE, -⟩ := own_fldX ev2 n13
  obtain ⟨x_USER, v_USER, F_USER, -⟩ := own_fldX ev3 n3
  obtain ⟨x_EMAIL, v_EMAIL, F_EMAIL, -⟩ := own_fldX ev5 n7
  obtain ⟨x_CLIENT, v_CLIENT, F_CLIENT, -⟩ := own_fldX ev6 n27
  obtain ⟨x_USER_AGENT, v_USER_AGENT, F_USER_AGENT, -⟩ := own_fldX ev7 n11
  obtain ⟨x_AT, v_AT, F_AT, -⟩ := own_fldX ev10 n17
  obtain ⟨x_TOKEN, v_TOKEN, F_TOKEN, -⟩ := own_fldX ev11 n15
  obtain ⟨x_REFRESH_TOKEN, v_REFRESH_TOKEN, F_REFRESH_TOKEN, -⟩ := own_fldX ev12 n35
  obtain ⟨x_LISTEN, v_LISTEN, F_LISTEN, -⟩ := own_fldX ev13 n37
  have F_NOW := own_fldN ev14 n23
  obtain ⟨x_LANG, v_LANG, F_LANG, -⟩ := own_fldX ev15 n5
  have F_HELP := own_fldN ev16 n29
  have F_SHORT_HELP := own_fldN ev17 n9
  have F_VERSION := own_fldN ev18 n25
  have F_SESSION := own_fldE ev4 v_USER n31
  have F_IP := own_fldE ev8 v_EMAIL n19
  have F_DEVICE_ID := own_fldE ev9 v_USER n33
  have G0 : own_St s s.heap "DATA" true := ⟨b0, Sta.start ev0 (Or.inr ⟨(own_hw hw 6 rfl), (own_hw hw 7 rfl)⟩), Exa.start ev0 n0, ⟨_, F_DATA⟩⟩
  have G1 : own_St s s.heap "ISSUER" true := ⟨b1, Sta.start ev1 (Or.inr ⟨(own_hw hw 6 rfl), (own_hw hw 34 rfl)⟩), Exa.start ev1 n20, ⟨_, F_ISSUER⟩⟩
  have G2 : own_St s s.heap "AUDIENCE" true := ⟨b2, Sta.start ev2 (Or.inr ⟨(own_hw hw 6 rfl), (own_hw hw 26 rfl)⟩), Exa.start ev2 n12, ⟨_, F_AUDIENCE⟩⟩
  have G3 : own_St s s.heap "USER" true := ⟨b3, Sta.start ev3 (Or.inr ⟨(own_hw hw 6 rfl), (own_hw hw 16 rfl)⟩), Exa.start ev3 n2, ⟨_, F_USER⟩⟩
  have G4 : own_St s s.heap "SESSION" true := ⟨b4, Sta.start ev4 (Or.inr ⟨(own_hw hw 6 rfl), (own_hw hw 44 rfl)⟩), Exa.start ev4 n30, ⟨_, F_SESSION⟩⟩
  have G5 : own_St s s.heap "EMAIL" true := ⟨b5, Sta.start ev5 (Or.inr ⟨(own_hw hw 6 rfl), (own_hw hw 20 rfl)⟩), Exa.start ev5 n6, ⟨_, F_EMAIL⟩⟩
  have G6 : own_St s s.heap "CLIENT" true := ⟨b6, Sta.start ev6 (Or.inr ⟨(own_hw hw 6 rfl), (own_hw hw 40 rfl)⟩), Exa.start ev6 n26, ⟨_, F_CLIENT⟩⟩
  have G7 : own_St s s.heap "USER_AGENT" true := ⟨b7, Sta.start ev7 (Or.inr ⟨(own_hw hw 6 rfl), (own_hw hw 24 rfl)⟩), Exa.start ev7 n10, ⟨_, F_USER_AGENT⟩⟩
  have G8 : own_St s s.heap "IP" true := ⟨b8, Sta.start ev8 (Or.inr ⟨(own_hw hw 6 rfl), (own_hw hw 32 rfl)⟩), Exa.start ev8 n18, ⟨_, F_IP⟩⟩
  have G9 : own_St s s.heap "DEVICE_ID" true := ⟨b9, Sta.start ev9 (Or.inr ⟨(own_hw hw 6 rfl), (own_hw hw 46 rfl)⟩), Exa.start ev9 n32, ⟨_, F_DEVICE_ID⟩⟩
  have G10 : own_St s s.heap "AT" true := ⟨b10, Sta.start ev10 (Or.inr ⟨(own_hw hw 6 rfl), (own_hw hw 30 rfl)⟩), Exa.start ev10 n16, ⟨_, F_AT⟩⟩
  have G11 : own_St s s.heap "TOKEN" true := ⟨b11, Sta.start ev11 (Or.inr ⟨(own_hw hw 6 rfl), (own_hw hw 28 rfl)⟩), Exa.start ev11 n14, ⟨_, F_TOKEN⟩⟩
  have G12 : own_St s s.heap "REFRESH_TOKEN" true := ⟨b12, Sta.start ev12 (Or.inr ⟨(own_hw hw 6 rfl), (own_hw hw 48 rfl)⟩), Exa.start ev12 n34, ⟨_, F_REFRESH_TOKEN⟩⟩
  have G13 : own_St s s.heap "LISTEN" true := ⟨b13, Sta.start ev13 (Or.inr ⟨(own_hw hw 6 rfl), (own_hw hw 50 rfl)⟩), Exa.start ev13 n36, ⟨_, F_LISTEN⟩⟩
  have G14 : own_St s s.heap "NOW" false := ⟨b14, Sta.start ev14 (Or.inr ⟨(own_hw hw 6 rfl), (own_hw hw 36 rfl)⟩), Exa.start ev14 n22, F_NOW⟩
  have G15 : own_St s s.heap "LANG" true := ⟨b15, Sta.start ev15 (Or.inr ⟨(own_hw hw 6 rfl), (own_hw hw 18 rfl)⟩), Exa.start ev15 n4, ⟨_, F_LANG⟩⟩
  have G16 : own_St s s.heap "HELP" false := ⟨b16, Sta.start ev16 (Or.inr ⟨(own_hw hw 6 rfl), (own_hw hw 42 rfl)⟩), Exa.start ev16 n28, F_HELP⟩
  have G17 : own_St s s.heap "SHORT_HELP" false := ⟨b17, Sta.start ev17 (Or.inr ⟨(own_hw hw 6 rfl), (own_hw hw 22 rfl)⟩), Exa.start ev17 n8, F_SHORT_HELP⟩
  have G18 : own_St s s.heap "VERSION" false := ⟨b18, Sta.start ev18 (Or.inr ⟨(own_hw hw 6 rfl), (own_hw hw 38 rfl)⟩), Exa.start ev18 n24, F_VERSION⟩
  obtain ⟨n, o, h1, h2, h3, _, L, rfl, ⟨rfl, N⟩, hq⟩ := (own_rm0 l s _ hw i0 s.heap s.heap.size G0 G1 G2 G3 G4 G5 G6 G7 G8 G9 G10 G11 G12 G13 G14 G15 G16 G17 G18) tables_1 p e ha hc hk s m _ below hf ((Spec.applies_iff_loose hf).mp happ).1 ⟨rfl, State.Warmed39.refl s, rfl⟩ trivial
  refine ⟨n, _, h1, h2, h3, hpost _ _ _ _ _ _ ⟨Cond.after_iff.mpr rfl, Cond.after_iff.mpr (eq_i res_at (Term.int_eval (1)) rfl), trivial⟩ ⟨hq.1, hq.2.1, (hq.2.2.sift fun y hy => Or.inr (N y hy)).mono (by decide) (by decide)⟩⟩
theorem main_1_1 : Claimed_1_1 := comes_1 fun _ _ _ _ _ _ h hF => ⟨h.1, hF⟩
theorem main_1_2 : Claimed_1_2 := comes_1 fun _ _ _ _ _ _ h hF => ⟨h.2.1, hF⟩
end Jvm.Pilot.@@N@@
namespace Jvm.Pilot.@@N@@
open Jvm Jvm.ClassFile Sem Op Lib Jvm.Free Jvm.Stand Jvm.Pilot.@@N@@.Jvm.D
/-! MADE BY PROGRAM (witnessworld.py) out of the Statement's table words and the real class files: 15 classes; the members and pool entries that the words name. The judged class is class 1, her method 2. -/
namespace start1
open Jvm.ClassFile
def u (s : String) : CpInfo := .utf8 (stringToUtf16 s)
/-- a pool by its gaps: so many unusable entries, then the entry; so many at the end -/
def gap : Nat → List CpInfo → List CpInfo
  | 0, r => r
  | n + 1, r => .unusable :: gap n r
def poolList (es : List (Nat × CpInfo)) (last : Nat) : List CpInfo := es.foldr (fun e r => gap e.1 (e.2 :: r)) (gap last [])
def pool (es : List (Nat × CpInfo)) (last : Nat) : Array CpInfo := ⟨poolList es last⟩
def fileOf (pool : Array CpInfo) (this : Nat) (attrs : Array Attribute := #[]) (ms : Array MethodInfo := #[]) (fl : Nat := 33) (sup : Nat := 0) (ifs : Array Nat := #[]) (fds : Array FieldInfo := #[]) : ClassFile where
  minorVersion := 0
  majorVersion := 65
  constantPool := pool
  accessFlags := fl
  thisClass := this
  superClass := sup
  interfaces := ifs
  fields := fds
  methods := ms
  attributes := attrs
def plain (name : String) (sup : Option ClassId) : Class where
  name := name
  kind := .ordinary
  loader := none
  accessFlags := 33
  super := sup
  interfaces := #[]
  cf := none
  fields := #[]
  methods := #[]
  instanceTypes := #[]
  staticTypes := #[]
  resolved := #[]
  callSites := []
  init := .initialized
  statics := none
  mirror := none

def pool0 : Array CpInfo := pool [(5, u "<init>"), (0, u "()V"), (1, .class_ 10), (1, u "java/lang/Object")] 113

def k0m0 : Method := { name := "<init>", desc := "()V", sig := { parameters := [], returnType := none }, accessFlags := 1, code := none }
/-- java/lang/Object -/
def k0 : Class := { plain "java/lang/Object" none with
  accessFlags := 33
  interfaces := #[]
  cf := some (fileOf pool0 8 #[] #[{ accessFlags := 1, nameIndex := 5, descriptorIndex := 6, attributes := #[] }] 33 0 #[] #[])
  fields := #[]
  methods := #[k0m0]
  instanceTypes := #[]
  staticTypes := #[]
  resolved := Array.replicate 124 none
  statics := none }

def pool1 : Array CpInfo := pool [(2, .class_ 4), (1, u "java/lang/Object"), (0, u "<init>"), (0, u "()V"), (0, .fieldref 8 9), (0, .class_ 10), (0, .nameAndType 11 12), (0, u "com/example/keyturn/keyturn/Option"), (0, u "DATA"), (0, u "Lcom/example/keyturn/keyturn/Option;"), (0, .fieldref 8 14), (0, .nameAndType 15 12), (0, u "ISSUER"), (0, .fieldref 8 17), (0, .nameAndType 18 12), (0, u "AUDIENCE"), (0, .fieldref 8 20), (0, .nameAndType 21 12), (0, u "USER"), (0, .fieldref 8 23), (0, .nameAndType 24 12), (0, u "SESSION"), (0, .fieldref 8 26), (0, .nameAndType 27 12), (0, u "EMAIL"), (0, .fieldref 8 29), (0, .nameAndType 30 12), (0, u "CLIENT"), (0, .fieldref 8 32), (0, .nameAndType 33 12), (0, u "USER_AGENT"), (0, .fieldref 8 35), (0, .nameAndType 36 12), (0, u "IP"), (0, .fieldref 8 38), (0, .nameAndType 39 12), (0, u "DEVICE_ID"), (0, .fieldref 8 41), (0, .nameAndType 42 12), (0, u "AT"), (0, .fieldref 8 44), (0, .nameAndType 45 12), (0, u "TOKEN"), (0, .fieldref 8 47), (0, .nameAndType 48 12), (0, u "REFRESH_TOKEN"), (0, .fieldref 8 50), (0, .nameAndType 51 12), (0, u "LISTEN"), (0, .fieldref 8 53), (0, .nameAndType 54 12), (0, u "NOW"), (0, .fieldref 8 56), (0, .nameAndType 57 12), (0, u "LANG"), (0, .fieldref 8 59), (0, .nameAndType 60 12), (0, u "HELP"), (0, .fieldref 8 62), (0, .nameAndType 63 12), (0, u "SHORT_HELP"), (0, .fieldref 8 65), (0, .nameAndType 66 12), (0, u "VERSION"), (0, .integer 2147483647), (0, .methodref 69 70), (0, .class_ 71), (0, .nameAndType 72 73), (0, u "com/example/keyturn/keyturn/OptionFlagPinLaw"), (0, u "pick"), (0, u "(I)Lcom/example/keyturn/keyturn/Option;"), (0, .methodref 8 75), (0, .nameAndType 76 77), (0, u "flag"), (0, u "()Z"), (3, u "law"), (0, u "(I)Z")] 2

def k1m0 : Method := { name := "<init>", desc := "()V", sig := { parameters := [], returnType := none }, accessFlags := 2, code := none }
def k1c1 : Code := { maxStack := 2, maxLocals := 1, code := method_2_code, exceptionTable := #[], attributes := #[] }
def k1m1 : Method := { name := "pick", desc := "(I)Lcom/example/keyturn/keyturn/Option;", sig := { parameters := [.int], returnType := some (.object "com/example/keyturn/keyturn/Option") }, accessFlags := 10, code := some k1c1 }
def k1c2 : Code := { maxStack := 2, maxLocals := 4, code := code, exceptionTable := #[], attributes := #[] }
def k1m2 : Method := { name := "law", desc := "(I)Z", sig := { parameters := [.int], returnType := some .boolean }, accessFlags := 9, code := some k1c2 }
/-- com/example/keyturn/keyturn/OptionFlagPinLaw -/
def k1 : Class := { plain "com/example/keyturn/keyturn/OptionFlagPinLaw" (some 0) with
  accessFlags := 49
  interfaces := #[]
  cf := some (fileOf pool1 69 #[] #[{ accessFlags := 2, nameIndex := 5, descriptorIndex := 6, attributes := #[] }, { accessFlags := 10, nameIndex := 72, descriptorIndex := 73, attributes := #[] }, { accessFlags := 9, nameIndex := 81, descriptorIndex := 82, attributes := #[] }] 49 2 #[] #[])
  fields := #[]
  methods := #[k1m0, k1m1, k1m2]
  instanceTypes := #[]
  staticTypes := #[]
  resolved := Array.replicate 85 none
  statics := none }

def pool2 : Array CpInfo := pool [(1, .class_ 2), (0, u "java/lang/constant/Constable"), (0, .class_ 4), (0, u "java/lang/Object")] 6

/-- java/lang/constant/Constable -/
def k2 : Class := { plain "java/lang/constant/Constable" (some 0) with
  accessFlags := 1537
  interfaces := #[]
  cf := some (fileOf pool2 1 #[] #[] 1537 3 #[] #[])
  fields := #[]
  methods := #[]
  instanceTypes := #[]
  staticTypes := #[]
  resolved := Array.replicate 11 none
  statics := none }

def pool3 : Array CpInfo := pool [(1, .class_ 2), (0, u "java/lang/Comparable"), (0, .class_ 4), (0, u "java/lang/Object")] 7

/-- java/lang/Comparable -/
def k3 : Class := { plain "java/lang/Comparable" (some 0) with
  accessFlags := 1537
  interfaces := #[]
  cf := some (fileOf pool3 1 #[] #[] 1537 3 #[] #[])
  fields := #[]
  methods := #[]
  instanceTypes := #[]
  staticTypes := #[]
  resolved := Array.replicate 12 none
  statics := none }

def pool4 : Array CpInfo := pool [(1, .class_ 2), (0, u "java/io/Serializable"), (0, .class_ 4), (0, u "java/lang/Object")] 2

/-- java/io/Serializable -/
def k4 : Class := { plain "java/io/Serializable" (some 0) with
  accessFlags := 1537
  interfaces := #[]
  cf := some (fileOf pool4 1 #[] #[] 1537 3 #[] #[])
  fields := #[]
  methods := #[]
  instanceTypes := #[]
  staticTypes := #[]
  resolved := Array.replicate 7 none
  statics := none }

def pool5 : Array CpInfo := pool [(2, .class_ 4), (1, u "java/lang/Enum"), (0, u "name"), (0, u "Ljava/lang/String;"), (2, u "ordinal"), (0, u "I"), (1, .class_ 14), (1, u "java/lang/Object"), (4, u "hash"), (86, .class_ 108), (1, u "java/lang/Enum$EnumDesc"), (2, .class_ 112), (0, u "java/lang/constant/Constable"), (0, .class_ 114), (0, u "java/lang/Comparable"), (0, .class_ 116), (0, u "java/io/Serializable")] 87

/-- java/lang/Enum -/
def k5 : Class := { plain "java/lang/Enum" (some 0) with
  accessFlags := 1057
  interfaces := #[2, 3, 4]
  cf := some (fileOf pool5 2 #[.nestMembers #[106]] #[] 1057 12 #[111, 113, 115] #[{ accessFlags := 18, nameIndex := 5, descriptorIndex := 6, attributes := #[] }, { accessFlags := 18, nameIndex := 9, descriptorIndex := 10, attributes := #[] }, { accessFlags := 2, nameIndex := 19, descriptorIndex := 10, attributes := #[] }])
  fields := #[{ name := "name", type := (.object "java/lang/String"), accessFlags := 18, slot := 0, constantValue := 0 }, { name := "ordinal", type := .int, accessFlags := 18, slot := 1, constantValue := 0 }, { name := "hash", type := .int, accessFlags := 2, slot := 2, constantValue := 0 }]
  methods := #[]
  instanceTypes := #[(.object "java/lang/String"), .int, .int]
  staticTypes := #[]
  resolved := Array.replicate 204 none
  statics := none }

def pool6 : Array CpInfo := pool [(1, .class_ 2), (0, u "com/example/keyturn/keyturn/Option"), (2, u "DATA"), (0, u "Lcom/example/keyturn/keyturn/Option;"), (2, u "ISSUER"), (2, u "AUDIENCE"), (2, u "USER"), (2, u "SESSION"), (2, u "EMAIL"), (2, u "CLIENT"), (2, u "USER_AGENT"), (2, u "IP"), (2, u "DEVICE_ID"), (2, u "AT"), (2, u "TOKEN"), (2, u "REFRESH_TOKEN"), (2, u "LISTEN"), (2, u "NOW"), (2, u "LANG"), (2, u "HELP"), (2, u "SHORT_HELP"), (2, u "VERSION"), (2, u "$VALUES"), (0, u "[Lcom/example/keyturn/keyturn/Option;"), (6, .class_ 73), (1, u "java/lang/Enum"), (8, u "text"), (0, u "Ljava/lang/String;"), (0, .fieldref 1 85), (0, .nameAndType 86 83), (0, u "value"), (2, u "flag"), (0, u "()Z")] 122

def k6c0 : Code := { maxStack := 1, maxLocals := 1, code := prog_6_method_5_code, exceptionTable := #[], attributes := #[] }
def k6m0 : Method := { name := "flag", desc := "()Z", sig := { parameters := [], returnType := some .boolean }, accessFlags := 0, code := some k6c0 }
/-- com/example/keyturn/keyturn/Option -/
def k6 : Class := { plain "com/example/keyturn/keyturn/Option" (some 5) with
  accessFlags := 16432
  interfaces := #[]
  cf := some (fileOf pool6 1 #[] #[{ accessFlags := 0, nameIndex := 89, descriptorIndex := 90, attributes := #[] }] 16432 71 #[] #[{ accessFlags := 16409, nameIndex := 5, descriptorIndex := 6, attributes := #[] }, { accessFlags := 16409, nameIndex := 9, descriptorIndex := 6, attributes := #[] }, { accessFlags := 16409, nameIndex := 12, descriptorIndex := 6, attributes := #[] }, { accessFlags := 16409, nameIndex := 15, descriptorIndex := 6, attributes := #[] }, { accessFlags := 16409, nameIndex := 18, descriptorIndex := 6, attributes := #[] }, { accessFlags := 16409, nameIndex := 21, descriptorIndex := 6, attributes := #[] }, { accessFlags := 16409, nameIndex := 24, descriptorIndex := 6, attributes := #[] }, { accessFlags := 16409, nameIndex := 27, descriptorIndex := 6, attributes := #[] }, { accessFlags := 16409, nameIndex := 30, descriptorIndex := 6, attributes := #[] }, { accessFlags := 16409, nameIndex := 33, descriptorIndex := 6, attributes := #[] }, { accessFlags := 16409, nameIndex := 36, descriptorIndex := 6, attributes := #[] }, { accessFlags := 16409, nameIndex := 39, descriptorIndex := 6, attributes := #[] }, { accessFlags := 16409, nameIndex := 42, descriptorIndex := 6, attributes := #[] }, { accessFlags := 16409, nameIndex := 45, descriptorIndex := 6, attributes := #[] }, { accessFlags := 16409, nameIndex := 48, descriptorIndex := 6, attributes := #[] }, { accessFlags := 16409, nameIndex := 51, descriptorIndex := 6, attributes := #[] }, { accessFlags := 16409, nameIndex := 54, descriptorIndex := 6, attributes := #[] }, { accessFlags := 16409, nameIndex := 57, descriptorIndex := 6, attributes := #[] }, { accessFlags := 16409, nameIndex := 60, descriptorIndex := 6, attributes := #[] }, { accessFlags := 18, nameIndex := 82, descriptorIndex := 83, attributes := #[] }, { accessFlags := 18, nameIndex := 86, descriptorIndex := 83, attributes := #[] }, { accessFlags := 4122, nameIndex := 63, descriptorIndex := 64, attributes := #[] }])
  fields := #[{ name := "DATA", type := (.object "com/example/keyturn/keyturn/Option"), accessFlags := 16409, slot := 0, constantValue := 0 }, { name := "ISSUER", type := (.object "com/example/keyturn/keyturn/Option"), accessFlags := 16409, slot := 1, constantValue := 0 }, { name := "AUDIENCE", type := (.object "com/example/keyturn/keyturn/Option"), accessFlags := 16409, slot := 2, constantValue := 0 }, { name := "USER", type := (.object "com/example/keyturn/keyturn/Option"), accessFlags := 16409, slot := 3, constantValue := 0 }, { name := "SESSION", type := (.object "com/example/keyturn/keyturn/Option"), accessFlags := 16409, slot := 4, constantValue := 0 }, { name := "EMAIL", type := (.object "com/example/keyturn/keyturn/Option"), accessFlags := 16409, slot := 5, constantValue := 0 }, { name := "CLIENT", type := (.object "com/example/keyturn/keyturn/Option"), accessFlags := 16409, slot := 6, constantValue := 0 }, { name := "USER_AGENT", type := (.object "com/example/keyturn/keyturn/Option"), accessFlags := 16409, slot := 7, constantValue := 0 }, { name := "IP", type := (.object "com/example/keyturn/keyturn/Option"), accessFlags := 16409, slot := 8, constantValue := 0 }, { name := "DEVICE_ID", type := (.object "com/example/keyturn/keyturn/Option"), accessFlags := 16409, slot := 9, constantValue := 0 }, { name := "AT", type := (.object "com/example/keyturn/keyturn/Option"), accessFlags := 16409, slot := 10, constantValue := 0 }, { name := "TOKEN", type := (.object "com/example/keyturn/keyturn/Option"), accessFlags := 16409, slot := 11, constantValue := 0 }, { name := "REFRESH_TOKEN", type := (.object "com/example/keyturn/keyturn/Option"), accessFlags := 16409, slot := 12, constantValue := 0 }, { name := "LISTEN", type := (.object "com/example/keyturn/keyturn/Option"), accessFlags := 16409, slot := 13, constantValue := 0 }, { name := "NOW", type := (.object "com/example/keyturn/keyturn/Option"), accessFlags := 16409, slot := 14, constantValue := 0 }, { name := "LANG", type := (.object "com/example/keyturn/keyturn/Option"), accessFlags := 16409, slot := 15, constantValue := 0 }, { name := "HELP", type := (.object "com/example/keyturn/keyturn/Option"), accessFlags := 16409, slot := 16, constantValue := 0 }, { name := "SHORT_HELP", type := (.object "com/example/keyturn/keyturn/Option"), accessFlags := 16409, slot := 17, constantValue := 0 }, { name := "VERSION", type := (.object "com/example/keyturn/keyturn/Option"), accessFlags := 16409, slot := 18, constantValue := 0 }, { name := "text", type := (.object "java/lang/String"), accessFlags := 18, slot := 3, constantValue := 0 }, { name := "value", type := (.object "java/lang/String"), accessFlags := 18, slot := 4, constantValue := 0 }, { name := "$VALUES", type := (.array (.object "com/example/keyturn/keyturn/Option")), accessFlags := 4122, slot := 19, constantValue := 0 }]
  methods := #[k6m0]
  instanceTypes := #[(.object "java/lang/String"), .int, .int, (.object "java/lang/String"), (.object "java/lang/String")]
  staticTypes := #[(.object "com/example/keyturn/keyturn/Option"), (.object "com/example/keyturn/keyturn/Option"), (.object "com/example/keyturn/keyturn/Option"), (.object "com/example/keyturn/keyturn/Option"), (.object "com/example/keyturn/keyturn/Option"), (.object "com/example/keyturn/keyturn/Option"), (.object "com/example/keyturn/keyturn/Option"), (.object "com/example/keyturn/keyturn/Option"), (.object "com/example/keyturn/keyturn/Option"), (.object "com/example/keyturn/keyturn/Option"), (.object "com/example/keyturn/keyturn/Option"), (.object "com/example/keyturn/keyturn/Option"), (.object "com/example/keyturn/keyturn/Option"), (.object "com/example/keyturn/keyturn/Option"), (.object "com/example/keyturn/keyturn/Option"), (.object "com/example/keyturn/keyturn/Option"), (.object "com/example/keyturn/keyturn/Option"), (.object "com/example/keyturn/keyturn/Option"), (.object "com/example/keyturn/keyturn/Option"), (.array (.object "com/example/keyturn/keyturn/Option"))]
  resolved := Array.replicate 213 none
  statics := some 0 }

def pool7 : Array CpInfo := pool [(2, .class_ 4), (1, u "java/lang/CharSequence"), (42, .class_ 48), (0, u "java/lang/CharSequence$1CodePointIterator"), (10, .class_ 60), (0, u "java/lang/CharSequence$1CharIterator"), (5, .class_ 67), (0, u "java/lang/Object")] 63

/-- java/lang/CharSequence -/
def k7 : Class := { plain "java/lang/CharSequence" (some 0) with
  accessFlags := 1537
  interfaces := #[]
  cf := some (fileOf pool7 2 #[.nestMembers #[47, 59]] #[] 1537 66 #[] #[])
  fields := #[]
  methods := #[]
  instanceTypes := #[]
  staticTypes := #[]
  resolved := Array.replicate 131 none
  statics := none }

def pool8 : Array CpInfo := pool [(1, .class_ 2), (0, u "java/lang/constant/ConstantDesc"), (0, .class_ 4), (0, u "java/lang/Object")] 32

/-- java/lang/constant/ConstantDesc -/
def k8 : Class := { plain "java/lang/constant/ConstantDesc" (some 0) with
  accessFlags := 1537
  interfaces := #[]
  cf := some (fileOf pool8 1 #[] #[] 1537 3 #[] #[])
  fields := #[]
  methods := #[]
  instanceTypes := #[]
  staticTypes := #[]
  resolved := Array.replicate 37 none
  statics := none }

def pool9 : Array CpInfo := pool [(2, .class_ 4), (1, u "java/lang/Object"), (0, u "<init>"), (0, u "()V"), (3, .class_ 12), (1, u "java/lang/String"), (0, u "value"), (0, u "[B"), (2, u "coder"), (0, u "B"), (2, u "hash"), (0, u "I"), (2, u "hashIsZero"), (0, u "Z"), (13, u "COMPACT_STRINGS"), (534, .class_ 576), (0, u "java/lang/CharSequence"), (22, u "CASE_INSENSITIVE_ORDER"), (0, u "Ljava/util/Comparator;"), (500, u "serialPersistentFields"), (0, u "[Ljava/io/ObjectStreamField;"), (0, .class_ 1104), (0, u "java/lang/String$CaseInsensitiveComparator"), (1, .class_ 1107), (0, u "java/io/Serializable"), (0, .class_ 1109), (0, u "java/lang/Comparable"), (0, .class_ 1111), (0, u "java/lang/constant/Constable"), (0, .class_ 1113), (0, u "java/lang/constant/ConstantDesc"), (2, u "serialVersionUID"), (0, u "J"), (3, u "REPL"), (0, u "C"), (2, u "LATIN1"), (1, u "UTF16")] 323

def k9m0 : Method := { name := "<init>", desc := "()V", sig := { parameters := [], returnType := none }, accessFlags := 1, code := none }
/-- java/lang/String -/
def k9 : Class := { plain "java/lang/String" (some 0) with
  accessFlags := 49
  interfaces := #[4, 3, 7, 2, 8]
  cf := some (fileOf pool9 10 #[.nestMembers #[1103]] #[{ accessFlags := 1, nameIndex := 5, descriptorIndex := 6, attributes := #[] }] 49 2 #[1106, 1108, 575, 1110, 1112] #[{ accessFlags := 18, nameIndex := 13, descriptorIndex := 14, attributes := #[] }, { accessFlags := 18, nameIndex := 17, descriptorIndex := 18, attributes := #[] }, { accessFlags := 2, nameIndex := 21, descriptorIndex := 22, attributes := #[] }, { accessFlags := 2, nameIndex := 25, descriptorIndex := 26, attributes := #[] }, { accessFlags := 26, nameIndex := 1116, descriptorIndex := 1117, attributes := #[] }, { accessFlags := 24, nameIndex := 40, descriptorIndex := 26, attributes := #[] }, { accessFlags := 26, nameIndex := 1101, descriptorIndex := 1102, attributes := #[] }, { accessFlags := 26, nameIndex := 1121, descriptorIndex := 1122, attributes := #[] }, { accessFlags := 25, nameIndex := 599, descriptorIndex := 600, attributes := #[] }, { accessFlags := 24, nameIndex := 1125, descriptorIndex := 18, attributes := #[] }, { accessFlags := 24, nameIndex := 1127, descriptorIndex := 18, attributes := #[] }])
  fields := #[{ name := "value", type := (.array .byte), accessFlags := 18, slot := 0, constantValue := 0 }, { name := "coder", type := .byte, accessFlags := 18, slot := 1, constantValue := 0 }, { name := "hash", type := .int, accessFlags := 2, slot := 2, constantValue := 0 }, { name := "hashIsZero", type := .boolean, accessFlags := 2, slot := 3, constantValue := 0 }, { name := "serialVersionUID", type := .long, accessFlags := 26, slot := 0, constantValue := 0 }, { name := "COMPACT_STRINGS", type := .boolean, accessFlags := 24, slot := 1, constantValue := 0 }, { name := "serialPersistentFields", type := (.array (.object "java/io/ObjectStreamField")), accessFlags := 26, slot := 2, constantValue := 0 }, { name := "REPL", type := .char, accessFlags := 26, slot := 3, constantValue := 0 }, { name := "CASE_INSENSITIVE_ORDER", type := (.object "java/util/Comparator"), accessFlags := 25, slot := 4, constantValue := 0 }, { name := "LATIN1", type := .byte, accessFlags := 24, slot := 5, constantValue := 0 }, { name := "UTF16", type := .byte, accessFlags := 24, slot := 6, constantValue := 0 }]
  methods := #[k9m0]
  instanceTypes := #[(.array .byte), .byte, .int, .boolean]
  staticTypes := #[.long, .boolean, (.array (.object "java/io/ObjectStreamField")), .char, (.object "java/util/Comparator"), .byte, .byte]
  resolved := Array.replicate 1451 none
  statics := none }

def pool10 : Array CpInfo := pool [(1, u "java/lang/Cloneable"), (0, .class_ 1), (0, u "java/lang/Object"), (0, .class_ 3)] 3

/-- java/lang/Cloneable -/
def k10 : Class := { plain "java/lang/Cloneable" (some 0) with
  accessFlags := 1537
  interfaces := #[]
  cf := some (fileOf pool10 2 #[] #[] 1537 4 #[] #[])
  fields := #[]
  methods := #[]
  instanceTypes := #[]
  staticTypes := #[]
  resolved := Array.replicate 8 none
  statics := none }

/-- the primitive byte -/
def k11 : Class := { plain "byte" none with kind := .primitive 'B', accessFlags := 0x411 }
/-- [B -/
def k12 : Class := { plain "[B" (some 0) with kind := .array 11 .byte, interfaces := #[10, 4], accessFlags := 1041 }

/-- the primitive int -/
def k13 : Class := { plain "int" none with kind := .primitive 'I', accessFlags := 0x411 }
/-- [I -/
def k14 : Class := { plain "[I" (some 0) with kind := .array 13 .int, interfaces := #[10, 4], accessFlags := 1041 }

def heap : Heap := #[{ cls := 6, slots := #[.ref 1, .ref 19, .ref 12, .ref 3, .ref 26, .ref 7, .ref 23, .ref 10, .ref 18, .ref 27, .ref 16, .ref 14, .ref 28, .ref 30, .ref 21, .ref 5, .ref 25, .ref 9, .ref 22, .null], vm := .statics 6 },
  { cls := 6, slots := #[.null, .int 0, .int 0, .null, .ref 2], vm := .none },
  { cls := 9, slots := #[.null, .int 0, .int 0, .int 0], vm := .none },
  { cls := 6, slots := #[.null, .int 0, .int 0, .null, .ref 4], vm := .none },
  { cls := 9, slots := #[.null, .int 0, .int 0, .int 0], vm := .none },
  { cls := 6, slots := #[.null, .int 0, .int 0, .null, .ref 6], vm := .none },
  { cls := 9, slots := #[.null, .int 0, .int 0, .int 0], vm := .none },
  { cls := 6, slots := #[.null, .int 0, .int 0, .null, .ref 8], vm := .none },
  { cls := 9, slots := #[.null, .int 0, .int 0, .int 0], vm := .none },
  { cls := 6, slots := #[.null, .int 0, .int 0, .null, .null], vm := .none },
  { cls := 6, slots := #[.null, .int 0, .int 0, .null, .ref 11], vm := .none },
  { cls := 9, slots := #[.null, .int 0, .int 0, .int 0], vm := .none },
  { cls := 6, slots := #[.null, .int 0, .int 0, .null, .ref 13], vm := .none },
  { cls := 9, slots := #[.null, .int 0, .int 0, .int 0], vm := .none },
  { cls := 6, slots := #[.null, .int 0, .int 0, .null, .ref 15], vm := .none },
  { cls := 9, slots := #[.null, .int 0, .int 0, .int 0], vm := .none },
  { cls := 6, slots := #[.null, .int 0, .int 0, .null, .ref 17], vm := .none },
  { cls := 9, slots := #[.null, .int 0, .int 0, .int 0], vm := .none },
  { cls := 6, slots := #[.null, .int 0, .int 0, .null, .ref 8], vm := .none },
  { cls := 6, slots := #[.null, .int 0, .int 0, .null, .ref 20], vm := .none },
  { cls := 9, slots := #[.null, .int 0, .int 0, .int 0], vm := .none },
  { cls := 6, slots := #[.null, .int 0, .int 0, .null, .null], vm := .none },
  { cls := 6, slots := #[.null, .int 0, .int 0, .null, .null], vm := .none },
  { cls := 6, slots := #[.null, .int 0, .int 0, .null, .ref 24], vm := .none },
  { cls := 9, slots := #[.null, .int 0, .int 0, .int 0], vm := .none },
  { cls := 6, slots := #[.null, .int 0, .int 0, .null, .null], vm := .none },
  { cls := 6, slots := #[.null, .int 0, .int 0, .null, .ref 4], vm := .none },
  { cls := 6, slots := #[.null, .int 0, .int 0, .null, .ref 4], vm := .none },
  { cls := 6, slots := #[.null, .int 0, .int 0, .null, .ref 29], vm := .none },
  { cls := 9, slots := #[.null, .int 0, .int 0, .int 0], vm := .none },
  { cls := 6, slots := #[.null, .int 0, .int 0, .null, .ref 31], vm := .none },
  { cls := 9, slots := #[.null, .int 0, .int 0, .int 0], vm := .none }]
def classes : Array Class := #[k0, k1, k2, k3, k4, k5, k6, k7, k8, k9, k10, k11, k12, k13, k14]
def interned : List (Array UInt16 × Addr) := []
def slotsUsed : Nat := 163
def theMethod : MethodId := ⟨1, 2⟩
def args0 : Array Value := #[.int 5]
def aboutOver (below : List Frame) : State where
  vm := { classes := classes, interned := interned.toArray }
  heap := heap
  slotsUsed := slotsUsed
  threads := #[{ frames := .invoking theMethod args0 :: below }]
def below0 : List Frame := [.native { method := ⟨0, 0⟩, args := #[] }]
def about1 : State := aboutOver below0
def p0 : Program := .bare "" "" ""
def e0 : Env := launch0.env 0 0 0
theorem w_frames : about1.frames = Frame.invoking theMethod args0 :: below0 := rfl
set_option maxRecDepth 65536 in
theorem w_args : argsFit about1.vm theMethod args0 = true := by decide +kernel
set_option maxRecDepth 65536 in
theorem w_heap : heapFits about1 = true := by decide +kernel
set_option maxRecDepth 65536 in
theorem w_runnable : about1.curStatus? = some .runnable := by decide +kernel
set_option maxRecDepth 65536 in
theorem w_alone : about1.alone = true := by decide +kernel
set_option maxRecDepth 65536 in
theorem w_named : about1.methodNamed? x = some theMethod := by decide +kernel
set_option maxRecDepth 65536 in
theorem w_hears : about1.hears theMethod below0 = true := by decide +kernel
set_option maxRecDepth 65536 in
theorem w_ripe : about1.ripe theMethod args0 below0 = true := by decide +kernel
theorem w_running : about1.status = .running := rfl
set_option maxRecDepth 65536 in
theorem w_room : about1.hasRoom e0.platform room_1 = true :=
  launch0.hasRoom_least _ room_1 (by decide +kernel) (by decide +kernel) (by decide +kernel) (by decide +kernel) (by decide +kernel) (by decide +kernel)
theorem allAtoms_all (ts : List Jvm.Cond) (a : Array Jvm.Value) (st : Jvm.State) : (allAtoms ts).before a st = ts.all (fun c => c.before a st) := by
  induction ts with
  | nil => rfl
  | cons c t ih =>
    show (Jvm.Cond.and c (allAtoms t)).before a st = _
    rw [Jvm.Cond.before_and, ih, List.all_cons]
def words1 : List Jvm.Cond := Jvm.Cond.code x code maxLocals ret :: tables_1
/-- a 'code' word, met by the world's own term for the bytes: nothing is compared byte by byte -/
theorem code_word {y : MethodName} {bytes : ByteArray} {mx : Nat} {rt : Option FieldType} {a : Array Value} {s : State} {m : MethodId} {meth : Method} {c : Code} (h1 : s.methodNamed? y = some m) (h2 : s.vm.method? m = some meth) (h3 : meth.code = some c) (h4 : c.code = bytes)
    (h5 : (c.maxLocals == mx && c.exceptionTable.isEmpty && decide (c.maxStack ≤ mostOperands) && decide (meth.sig.returnType = rt) && !meth.locks && decide (parseMethodDescriptor y.desc = some meth.sig)) = true) : (Jvm.Cond.code y bytes mx rt).before a s = true := by
  simp only [Bool.and_eq_true, beq_iff_eq, Bool.not_eq_true', decide_eq_true_eq] at h5
  obtain ⟨⟨⟨⟨⟨g1, g2⟩, g3⟩, g4⟩, g5⟩, g6⟩ := h5
  simp [Cond.before, Cond.holds, Cond.value, h1, h2, h3, h4, g1, g2, g3, g4, g5, g6]
def isCode : Jvm.Cond → Bool
  | .code _ _ _ _ => true
  | _ => false
theorem all_split {L : List Jvm.Cond} {P : Jvm.Cond → Bool} (h1 : L.all (fun c => isCode c || P c) = true) (h2 : ∀ c ∈ L.filter isCode, P c = true) : L.all P = true := by
  refine List.all_eq_true.mpr fun c hc => ?_
  have h := List.all_eq_true.mp h1 c hc
  rcases Bool.eq_false_or_eq_true (isCode c) with hi | hi
  · exact h2 c (List.mem_filter.mpr ⟨hc, hi⟩)
  · simpa [hi] using h
set_option maxRecDepth 65536 in
theorem w_c0 : (Jvm.Cond.code x code maxLocals ret).before args0 about1 = true := code_word (m := ⟨1, 2⟩) (meth := k1m2) (c := k1c2) (by decide +kernel) rfl rfl rfl (by decide +kernel)
set_option maxRecDepth 65536 in
theorem w_c1 : (Jvm.Cond.code ({ cls := "com/example/keyturn/keyturn/OptionFlagPinLaw", name := "pick", desc := "(I)Lcom/example/keyturn/keyturn/Option;" } : Jvm.MethodName) method_2_code (1 : Nat) (Option.some (Jvm.ClassFile.FieldType.object "com/example/keyturn/keyturn/Option"))).before args0 about1 = true := code_word (m := ⟨1, 1⟩) (meth := k1m1) (c := k1c1) (by decide +kernel) rfl rfl rfl (by decide +kernel)
set_option maxRecDepth 65536 in
theorem w_c2 : (Jvm.Cond.code ({ cls := "com/example/keyturn/keyturn/Option", name := "flag", desc := "()Z" } : Jvm.MethodName) prog_6_method_5_code (1 : Nat) (Option.some Jvm.ClassFile.FieldType.boolean)).before args0 about1 = true := code_word (m := ⟨6, 0⟩) (meth := k6m0) (c := k6c0) (by decide +kernel) rfl rfl rfl (by decide +kernel)
def codes1 : List Jvm.Cond := [Jvm.Cond.code x code maxLocals ret, Jvm.Cond.code ({ cls := "com/example/keyturn/keyturn/OptionFlagPinLaw", name := "pick", desc := "(I)Lcom/example/keyturn/keyturn/Option;" } : Jvm.MethodName) method_2_code (1 : Nat) (Option.some (Jvm.ClassFile.FieldType.object "com/example/keyturn/keyturn/Option")), Jvm.Cond.code ({ cls := "com/example/keyturn/keyturn/Option", name := "flag", desc := "()Z" } : Jvm.MethodName) prog_6_method_5_code (1 : Nat) (Option.some Jvm.ClassFile.FieldType.boolean)]
set_option maxRecDepth 65536 in
theorem codes_eq : words1.filter isCode = codes1 := rfl
theorem w_codes : ∀ c ∈ words1.filter isCode, c.before args0 about1 = true := by
  rw [codes_eq]
  intro c hc
  simp only [codes1, List.mem_cons, List.not_mem_nil, or_false] at hc
  rcases hc with rfl | rfl | rfl
  · exact w_c0
  · exact w_c1
  · exact w_c2
set_option maxRecDepth 65536 in
theorem w_t1 : (words1.take 24).all (fun c => isCode c || c.before args0 about1) = true := by decide +kernel
set_option maxRecDepth 65536 in
theorem w_t2 : ((words1.drop 24).take 24).all (fun c => isCode c || c.before args0 about1) = true := by decide +kernel
set_option maxRecDepth 65536 in
theorem w_t3 : ((words1.drop 24).drop 24).all (fun c => isCode c || c.before args0 about1) = true := by decide +kernel
theorem w_tables : (allAtoms (Jvm.Cond.code x code maxLocals ret :: tables_1)).before args0 about1 = true := by
  rw [allAtoms_all]
  show words1.all (fun c => c.before args0 about1) = true
  refine all_split ?_ w_codes
  rw [← List.take_append_drop 24 words1, List.all_append, w_t1, ← List.take_append_drop 24 (words1.drop 24), List.all_append, w_t2, w_t3]
  rfl
set_option maxRecDepth 65536 in
theorem w_case : (Jvm.Cond.and given_1 narrow_1).before args0 about1 = true := by decide +kernel
theorem w_applies : (headSpec (Jvm.Cond.code x code maxLocals ret :: tables_1) room_1).applies x e0.platform about1 = true :=
  (Spec.applies_iff w_frames).mpr ⟨w_running, w_runnable, w_alone, w_named, w_hears, w_ripe, w_room, w_tables⟩
theorem atStart : AtStart classFile x code maxLocals ret World_1 tables_1 room_1 Calls_1 rest_1 Pre_1 launch0 p0 e0 about1 theMethod args0 below0 :=
  ⟨lists_1, trivial, launch0.admits_env _ _ _, launch0.least_env, fairChoices_fair.cas, fairChoices_fair.clock, w_frames, w_args, w_heap, w_applies, trivial, trivial, w_case⟩
end start1
theorem witness_1 : WitnessClaimed_1 := ⟨start1.p0, start1.e0, start1.about1, start1.theMethod, start1.args0, start1.below0, start1.atStart⟩
end Jvm.Pilot.@@N@@
